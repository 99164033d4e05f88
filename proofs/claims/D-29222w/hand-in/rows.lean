section
-- ===== PART A: goes FIRST, ahead of the names: the tables' words, and 'selects' of the private methods out of them =====
/-- a private method of a class that the tables say can be made, by its rows of tables_1 -/
def lw_okq (q : MethodName × Nat) : Prop := (q.1.cls ≠ "java/lang/invoke/MethodHandle" ∧ q.1.cls ≠ "java/lang/invoke/VarHandle") ∧ Cond.instantiable q.1.cls q.2 ∈ tables_1 ∧ Cond.privateMethod q.1 ∈ tables_1 ∧ Cond.instanceMethod q.1 ∈ tables_1
set_option maxRecDepth 100000
theorem lw_p0 : lw_okq (⟨"MurmurDesk", "from", "(I)I"⟩, 2) := ⟨⟨by decide +kernel, by decide +kernel⟩, List.mem_of_getElem? (i := 7) rfl, List.mem_of_getElem? (i := 34) rfl, List.mem_of_getElem? (i := 35) rfl⟩
theorem lw_p1 : lw_okq (⟨"MurmurDesk", "part", "(II)[B"⟩, 2) := ⟨⟨by decide +kernel, by decide +kernel⟩, List.mem_of_getElem? (i := 7) rfl, List.mem_of_getElem? (i := 43) rfl, List.mem_of_getElem? (i := 44) rfl⟩
theorem lw_p2 : lw_okq (⟨"MurmurDesk", "count", "(II)I"⟩, 2) := ⟨⟨by decide +kernel, by decide +kernel⟩, List.mem_of_getElem? (i := 7) rfl, List.mem_of_getElem? (i := 47) rfl, List.mem_of_getElem? (i := 48) rfl⟩
theorem lw_p3 : lw_okq (⟨"MurmurDeskModel", "place", "(I)I"⟩, 2) := ⟨⟨by decide +kernel, by decide +kernel⟩, List.mem_of_getElem? (i := 84) rfl, List.mem_of_getElem? (i := 106) rfl, List.mem_of_getElem? (i := 107) rfl⟩
theorem lw_p4 : lw_okq (⟨"MurmurDeskModel", "many", "(II)I"⟩, 2) := ⟨⟨by decide +kernel, by decide +kernel⟩, List.mem_of_getElem? (i := 84) rfl, List.mem_of_getElem? (i := 115) rfl, List.mem_of_getElem? (i := 116) rfl⟩
theorem lw_p5 : lw_okq (⟨"MurmurDeskModel", "number", "(II)J"⟩, 2) := ⟨⟨by decide +kernel, by decide +kernel⟩, List.mem_of_getElem? (i := 84) rfl, List.mem_of_getElem? (i := 119) rfl, List.mem_of_getElem? (i := 120) rfl⟩
theorem lw_p6 : lw_okq (⟨"MurmurDeskModel", "turned", "(II)I"⟩, 2) := ⟨⟨by decide +kernel, by decide +kernel⟩, List.mem_of_getElem? (i := 84) rfl, List.mem_of_getElem? (i := 124) rfl, List.mem_of_getElem? (i := 125) rfl⟩
theorem lw_p7 : lw_okq (⟨"MurmurDeskModel", "stirredOne", "(J)J"⟩, 2) := ⟨⟨by decide +kernel, by decide +kernel⟩, List.mem_of_getElem? (i := 84) rfl, List.mem_of_getElem? (i := 136) rfl, List.mem_of_getElem? (i := 137) rfl⟩
theorem lw_p8 : lw_okq (⟨"MurmurDeskModel", "turned", "(JI)J"⟩, 2) := ⟨⟨by decide +kernel, by decide +kernel⟩, List.mem_of_getElem? (i := 84) rfl, List.mem_of_getElem? (i := 141) rfl, List.mem_of_getElem? (i := 142) rfl⟩
theorem lw_p9 : lw_okq (⟨"MurmurDeskModel", "stirredTwo", "(J)J"⟩, 2) := ⟨⟨by decide +kernel, by decide +kernel⟩, List.mem_of_getElem? (i := 84) rfl, List.mem_of_getElem? (i := 148) rfl, List.mem_of_getElem? (i := 149) rfl⟩
theorem lw_p10 : lw_okq (⟨"MurmurDeskModel", "ended", "(J)J"⟩, 2) := ⟨⟨by decide +kernel, by decide +kernel⟩, List.mem_of_getElem? (i := 84) rfl, List.mem_of_getElem? (i := 153) rfl, List.mem_of_getElem? (i := 154) rfl⟩
def lw_privs_1 : List (MethodName × Nat) := [(⟨"MurmurDesk", "from", "(I)I"⟩, 2), (⟨"MurmurDesk", "part", "(II)[B"⟩, 2), (⟨"MurmurDesk", "count", "(II)I"⟩, 2), (⟨"MurmurDeskModel", "place", "(I)I"⟩, 2), (⟨"MurmurDeskModel", "many", "(II)I"⟩, 2), (⟨"MurmurDeskModel", "number", "(II)J"⟩, 2), (⟨"MurmurDeskModel", "turned", "(II)I"⟩, 2), (⟨"MurmurDeskModel", "stirredOne", "(J)J"⟩, 2), (⟨"MurmurDeskModel", "turned", "(JI)J"⟩, 2), (⟨"MurmurDeskModel", "stirredTwo", "(J)J"⟩, 2), (⟨"MurmurDeskModel", "ended", "(J)J"⟩, 2)]
theorem lw_r1 : ∀ q ∈ lw_privs_1, lw_okq q := List.forall_mem_cons.mpr ⟨lw_p0, List.forall_mem_cons.mpr ⟨lw_p1, List.forall_mem_cons.mpr ⟨lw_p2, List.forall_mem_cons.mpr ⟨lw_p3, List.forall_mem_cons.mpr ⟨lw_p4, List.forall_mem_cons.mpr ⟨lw_p5, List.forall_mem_cons.mpr ⟨lw_p6, List.forall_mem_cons.mpr ⟨lw_p7, List.forall_mem_cons.mpr ⟨lw_p8, List.forall_mem_cons.mpr ⟨lw_p9, List.forall_mem_cons.mpr ⟨lw_p10, fun _ h => absurd h List.not_mem_nil⟩⟩⟩⟩⟩⟩⟩⟩⟩⟩⟩
def lw_privs : List (MethodName × Nat) := lw_privs_1
def lw_tbl : List Cond := k2_sels lw_privs ++ tables_1
theorem lw_privs_ok : ∀ q ∈ lw_privs, lw_okq q := lw_r1
-- ===== ONE list of words for every method: the tables' words that hold all through a run =====
def lw_all : List Cond := lw_tbl.filter goodWord
/-- a word of the tables by its place: claim/WORDS.tsv -/
theorem lw_w {w : Cond} (i : Nat) (h : lw_tbl[i]? = some w) (g : goodWord w = true) : w ∈ lw_all := List.mem_filter.mpr ⟨List.mem_of_getElem? h, g⟩
theorem lw_all_tbl {w : Cond} (h : w ∈ lw_all) : w ∈ lw_tbl := (List.mem_filter.mp h).1
theorem lw_self : GoodIn lw_all lw_all := fun w h => ⟨h, good_of_word (List.mem_filter.mp h).2⟩
/-- a class's field words, by their places -/
theorem lw_in (ws : List Cond) (ps : List Nat) (hp : ws = ps.filterMap (fun i => lw_tbl[i]?)) (hg : ws.all goodWord = true) : ∀ w ∈ ws, w ∈ lw_all := by
  intro w h
  have h1 := List.all_eq_true.mp hg w h
  rw [hp] at h
  obtain ⟨i, -, hi⟩ := List.mem_filterMap.mp h
  exact lw_w i hi h1
/-- the words of a contract for the method y with code b, L locals, answer r -/
abbrev ws_ (y : MethodName) (b : ByteArray) (L : Nat) (r : Option FieldType) : List Cond := Cond.code y b L r :: lw_all
theorem lw_meth {y : MethodName} {b : ByteArray} {L : Nat} {r : Option FieldType} (h : Cond.code y b L r ∈ lw_all) : GoodIn lw_all (ws_ y b L r) := by
  intro w hw
  rcases List.mem_cons.mp hw with e | e
  · rw [e]
    exact lw_self _ h
  · exact lw_self _ e
theorem lw_app {a c : List Cond} (ha : ∀ w ∈ a, w ∈ lw_all) (hc : GoodIn lw_all c) : GoodIn lw_all (a ++ c) := by
  intro w hw
  rcases List.mem_append.mp hw with e | e
  · exact lw_self w (ha w e)
  · exact hc w e
/-- what a call through an object asks: cwV n hts (lw_V ..) -/
theorem lw_V {own : String} {idx : Nat} {C : String} {y : MethodName} {b : ByteArray} {L : Nat} {r : Option FieldType} (h1 : Cond.methodLink own idx y ∈ lw_all) (h2 : Cond.instanceMethod y ∈ lw_all) (h3 : Cond.selects C y y ∈ lw_all) (h4 : Cond.initialized C ∈ lw_all) (h5 : Cond.code y b L r ∈ lw_all) : GoodIn lw_all (wsV own idx C y (ws_ y b L r)) := by
  refine lw_app ?_ (lw_meth h5)
  intro w hw
  simp only [List.mem_cons, List.not_mem_nil, or_false] at hw
  rcases hw with e | e | e | e
  · rw [e]; exact h1
  · rw [e]; exact h2
  · rw [e]; exact h3
  · rw [e]; exact h4
/-- what a static call asks: va_cwS n hts (lw_S ..) -/
theorem lw_S {own : String} {idx : Nat} {y : MethodName} {b : ByteArray} {L : Nat} {r : Option FieldType} (h1 : Cond.methodLink own idx y ∈ lw_all) (h2 : Cond.static y ∈ lw_all) (h3 : Cond.initialized y.cls ∈ lw_all) (h4 : Cond.code y b L r ∈ lw_all) : GoodIn lw_all (va_wsS own idx y (ws_ y b L r)) := by
  refine lw_app ?_ (lw_meth h4)
  intro w hw
  simp only [List.mem_cons, List.not_mem_nil, or_false] at hw
  rcases hw with e | e | e
  · rw [e]; exact h1
  · rw [e]; exact h2
  · rw [e]; exact h3
/-- the words of a contract for a method WITH HANDLERS (hh: its table) -/
abbrev wsW_ (y : MethodName) (b : ByteArray) (L : Nat) (r : Option FieldType) (hh : List (Nat × Nat × Nat × Nat)) : List Cond := Cond.codeWith y b L r hh :: lw_all
theorem lw_methW {y : MethodName} {b : ByteArray} {L : Nat} {r : Option FieldType} {hh : List (Nat × Nat × Nat × Nat)} (h : Cond.codeWith y b L r hh ∈ lw_all) : GoodIn lw_all (wsW_ y b L r hh) := by
  intro w hw
  rcases List.mem_cons.mp hw with e | e
  · rw [e]
    exact lw_self _ h
  · exact lw_self _ e
/-- any list of words by their places (lw_in), good -/
theorem lw_good {ws : List Cond} (h : ∀ w ∈ ws, w ∈ lw_all) : GoodIn lw_all ws := fun w hw => lw_self w (h w hw)
/-- what a call of a method with handlers asks: vx_cwVW n hts (lw_VW ..), vx_cwSW n hts (lw_SW ..) -/
theorem lw_VW {own : String} {idx : Nat} {C : String} {y : MethodName} {b : ByteArray} {L : Nat} {r : Option FieldType} {hh : List (Nat × Nat × Nat × Nat)} (h1 : Cond.methodLink own idx y ∈ lw_all) (h2 : Cond.instanceMethod y ∈ lw_all) (h3 : Cond.selects C y y ∈ lw_all) (h4 : Cond.initialized C ∈ lw_all) (h5 : Cond.codeWith y b L r hh ∈ lw_all) : GoodIn lw_all (wsV own idx C y (wsW_ y b L r hh)) := by
  refine lw_app ?_ (lw_methW h5)
  intro w hw
  simp only [List.mem_cons, List.not_mem_nil, or_false] at hw
  rcases hw with e | e | e | e
  · rw [e]; exact h1
  · rw [e]; exact h2
  · rw [e]; exact h3
  · rw [e]; exact h4
theorem lw_SW {own : String} {idx : Nat} {y : MethodName} {b : ByteArray} {L : Nat} {r : Option FieldType} {hh : List (Nat × Nat × Nat × Nat)} (h1 : Cond.methodLink own idx y ∈ lw_all) (h2 : Cond.static y ∈ lw_all) (h3 : Cond.initialized y.cls ∈ lw_all) (h4 : Cond.codeWith y b L r hh ∈ lw_all) : GoodIn lw_all (va_wsS own idx y (wsW_ y b L r hh)) := by
  refine lw_app ?_ (lw_methW h4)
  intro w hw
  simp only [List.mem_cons, List.not_mem_nil, or_false] at hw
  rcases hw with e | e | e
  · rw [e]; exact h1
  · rw [e]; exact h2
  · rw [e]; exact h3
/-- a word by its place in its run of the tables -/
theorem lw_at {r : List Cond} (hr : ∀ w ∈ r, w ∈ lw_tbl) {w : Cond} (i : Nat) (h : r[i]? = some w) : w ∈ lw_tbl := hr w (List.mem_of_getElem? h)
theorem lw_g {w : Cond} (h : w ∈ lw_tbl) (g : goodWord w = true) : w ∈ lw_all := List.mem_filter.mpr ⟨h, g⟩
theorem lw_ms : ∀ w ∈ k2_sels lw_privs, w ∈ lw_tbl := fun w h => show w ∈ k2_sels lw_privs ++ tables_1 from List.mem_append_left _ h
theorem lw_m0 : ∀ w ∈ tables_1, w ∈ lw_tbl := fun w h => show w ∈ k2_sels lw_privs ++ tables_1 from List.mem_append_right (k2_sels lw_privs) h
theorem qs0 : (Cond.selects "MurmurDesk" ⟨"MurmurDesk", "from", "(I)I"⟩ ⟨"MurmurDesk", "from", "(I)I"⟩) ∈ lw_all := lw_g (lw_at lw_ms 0 rfl) rfl
theorem qs1 : (Cond.selects "MurmurDesk" ⟨"MurmurDesk", "part", "(II)[B"⟩ ⟨"MurmurDesk", "part", "(II)[B"⟩) ∈ lw_all := lw_g (lw_at lw_ms 1 rfl) rfl
theorem qs2 : (Cond.selects "MurmurDesk" ⟨"MurmurDesk", "count", "(II)I"⟩ ⟨"MurmurDesk", "count", "(II)I"⟩) ∈ lw_all := lw_g (lw_at lw_ms 2 rfl) rfl
theorem qs3 : (Cond.selects "MurmurDeskModel" ⟨"MurmurDeskModel", "place", "(I)I"⟩ ⟨"MurmurDeskModel", "place", "(I)I"⟩) ∈ lw_all := lw_g (lw_at lw_ms 3 rfl) rfl
theorem qs4 : (Cond.selects "MurmurDeskModel" ⟨"MurmurDeskModel", "many", "(II)I"⟩ ⟨"MurmurDeskModel", "many", "(II)I"⟩) ∈ lw_all := lw_g (lw_at lw_ms 4 rfl) rfl
theorem qs5 : (Cond.selects "MurmurDeskModel" ⟨"MurmurDeskModel", "number", "(II)J"⟩ ⟨"MurmurDeskModel", "number", "(II)J"⟩) ∈ lw_all := lw_g (lw_at lw_ms 5 rfl) rfl
theorem qs6 : (Cond.selects "MurmurDeskModel" ⟨"MurmurDeskModel", "turned", "(II)I"⟩ ⟨"MurmurDeskModel", "turned", "(II)I"⟩) ∈ lw_all := lw_g (lw_at lw_ms 6 rfl) rfl
theorem qs7 : (Cond.selects "MurmurDeskModel" ⟨"MurmurDeskModel", "stirredOne", "(J)J"⟩ ⟨"MurmurDeskModel", "stirredOne", "(J)J"⟩) ∈ lw_all := lw_g (lw_at lw_ms 7 rfl) rfl
theorem qs8 : (Cond.selects "MurmurDeskModel" ⟨"MurmurDeskModel", "turned", "(JI)J"⟩ ⟨"MurmurDeskModel", "turned", "(JI)J"⟩) ∈ lw_all := lw_g (lw_at lw_ms 8 rfl) rfl
theorem qs9 : (Cond.selects "MurmurDeskModel" ⟨"MurmurDeskModel", "stirredTwo", "(J)J"⟩ ⟨"MurmurDeskModel", "stirredTwo", "(J)J"⟩) ∈ lw_all := lw_g (lw_at lw_ms 9 rfl) rfl
theorem qs10 : (Cond.selects "MurmurDeskModel" ⟨"MurmurDeskModel", "ended", "(J)J"⟩ ⟨"MurmurDeskModel", "ended", "(J)J"⟩) ∈ lw_all := lw_g (lw_at lw_ms 10 rfl) rfl
end
section
/-! DECODE ROWS BY BYTES: one lemma an opcode; a method's code is cut into short pieces once, and a row reads its own piece alone. -/
set_option maxRecDepth 100000
/-- the code has just these bytes from pc on -/
def DkAt (code : ByteArray) (pc : Nat) (bs : List UInt8) : Prop := ∀ (j : Nat) (b : UInt8), bs[j]? = some b → code.data.toList[pc + j]? = some b
/-- the piece W has the bytes bs from its place j on -/
def dkIn (W : List UInt8) (j : Nat) (bs : List UInt8) : Bool := decide ((W.drop j).take bs.length = bs)
theorem dk_seg {l W T : List UInt8} {o o2 : Nat} (h : l.drop o = W ++ T) (n : Nat) (hn : W.length = n) (ho : o + n = o2) : l.drop o2 = T := by
  subst ho
  rw [← List.drop_drop, h, List.drop_left' hn]
theorem dk_at {code : ByteArray} {W T bs : List UInt8} {o pc : Nat} (h : code.data.toList.drop o = W ++ T) (j : Nat) (hp : o + j = pc) (hw : dkIn W j bs = true) : DkAt code pc bs := by
  subst hp
  intro i b e
  have h1 := of_decide_eq_true hw
  have h2 : i < bs.length := (List.getElem?_eq_some_iff.mp e).1
  have h3 : W[j + i]? = some b := by
    rw [← h1, List.getElem?_take, if_pos h2, List.getElem?_drop] at e
    exact e
  have h4 : j + i < W.length := (List.getElem?_eq_some_iff.mp h3).1
  have h5 : (code.data.toList.drop o)[j + i]? = some b := by
    rw [h, List.getElem?_append_left h4]
    exact h3
  rw [List.getElem?_drop, ← Nat.add_assoc] at h5
  exact h5
theorem dk_u1 {A : ByteArray} {p : Nat} {b : UInt8} (h : A.data.toList[p]? = some b) : (Reader.u1 : Reader DecodeError Nat) A p = .ok (b.toNat, p + 1) := by
  obtain ⟨h1, h2⟩ := List.getElem?_eq_some_iff.mp h
  have h3 : p < A.size := by simpa using h1
  have h4 : A[p]'h3 = b := h2
  have e : (Reader.u1 : Reader DecodeError Nat) A p = (if h : p < A.size then .ok (A[p].toNat, p + 1) else .error (HasTruncated.truncated p)) := by
    show (do if h : p < A.size then do set (p + 1); Pure.pure A[p].toNat else MonadExcept.throw (HasTruncated.truncated p) : Reader DecodeError Nat) A p = _
    by_cases hi : p < A.size
    · rw [dif_pos hi, dif_pos hi]; rfl
    · rw [dif_neg hi, dif_neg hi]; rfl
  rw [e, dif_pos h3, h4]
theorem dk_bind {α β : Type} {r : Reader DecodeError α} {f : α → Reader DecodeError β} {A : ByteArray} {p s : Nat} {a : α} (h : r A p = .ok (a, s)) : (r >>= f) A p = f a A s := by
  show (do let (a, s) ← r A p; f a A s : Except DecodeError (β × Nat)) = _
  rw [h]
  rfl
theorem dk_map {α β : Type} {r : Reader DecodeError α} {g : α → β} {A : ByteArray} {p s : Nat} {a : α} (h : r A p = .ok (a, s)) : (g <$> r) A p = .ok (g a, s) := by
  show (do let (a, s) ← r A p; .ok (g a, s) : Except DecodeError (β × Nat)) = _
  rw [h]
  rfl
theorem dk_u2 {A : ByteArray} {p : Nat} {a b : UInt8} (h : A.data.toList[p]? = some a) (h2 : A.data.toList[p + 1]? = some b) : (Reader.u2 : Reader DecodeError Nat) A p = .ok (a.toNat * 256 + b.toNat, p + 2) := by
  show (Reader.u1 >>= fun hi => Reader.u1 >>= fun lo => Pure.pure (hi * 256 + lo) : Reader DecodeError Nat) A p = _
  rw [dk_bind (dk_u1 h), dk_bind (dk_u1 h2)]
  rfl
theorem dk_of {code : ByteArray} {pc n : Nat} {i : Instr} (h : Decoder.instr pc code pc = .ok (i, pc + n)) : decode code pc = .ok (i, n) := by
  have e : decode code pc = (match Decoder.instr pc code pc with | .error x => .error x | .ok (j, s) => .ok (j, s - pc)) := by
    show (do let (j, s) ← Decoder.instr pc code pc; Pure.pure (j, s - pc) : Except DecodeError (Instr × Nat)) = _
    cases Decoder.instr pc code pc <;> rfl
  rw [e, h]
  show Except.ok (i, pc + n - pc) = _
  rw [Nat.add_sub_cancel_left]
theorem dk_3 {code : ByteArray} {pc : Nat} (h : DkAt code pc [3]) : decode code pc = .ok (.iconst 0, 1) := dk_of ((dk_bind (dk_u1 (h 0 _ rfl))).trans rfl)
theorem dk_4 {code : ByteArray} {pc : Nat} (h : DkAt code pc [4]) : decode code pc = .ok (.iconst 1, 1) := dk_of ((dk_bind (dk_u1 (h 0 _ rfl))).trans rfl)
theorem dk_5 {code : ByteArray} {pc : Nat} (h : DkAt code pc [5]) : decode code pc = .ok (.iconst 2, 1) := dk_of ((dk_bind (dk_u1 (h 0 _ rfl))).trans rfl)
theorem dk_6 {code : ByteArray} {pc : Nat} (h : DkAt code pc [6]) : decode code pc = .ok (.iconst 3, 1) := dk_of ((dk_bind (dk_u1 (h 0 _ rfl))).trans rfl)
theorem dk_7 {code : ByteArray} {pc : Nat} (h : DkAt code pc [7]) : decode code pc = .ok (.iconst 4, 1) := dk_of ((dk_bind (dk_u1 (h 0 _ rfl))).trans rfl)
theorem dk_8 {code : ByteArray} {pc : Nat} (h : DkAt code pc [8]) : decode code pc = .ok (.iconst 5, 1) := dk_of ((dk_bind (dk_u1 (h 0 _ rfl))).trans rfl)
theorem dk_9 {code : ByteArray} {pc : Nat} (h : DkAt code pc [9]) : decode code pc = .ok (.lconst 0, 1) := dk_of ((dk_bind (dk_u1 (h 0 _ rfl))).trans rfl)
theorem dk_16 {code : ByteArray} {pc : Nat} (a : UInt8) (h : DkAt code pc [16, a]) : decode code pc = .ok (.bipush (Reader.signed 8 a.toNat), 2) := dk_of ((dk_bind (dk_u1 (h 0 _ rfl))).trans ((dk_bind (dk_map (dk_u1 (h 1 _ rfl)))).trans rfl))
theorem dk_17 {code : ByteArray} {pc : Nat} (a b : UInt8) (h : DkAt code pc [17, a, b]) : decode code pc = .ok (.sipush (Reader.signed 16 (a.toNat * 256 + b.toNat)), 3) := dk_of ((dk_bind (dk_u1 (h 0 _ rfl))).trans ((dk_bind (dk_map (dk_u2 (h 1 _ rfl) (h 2 _ rfl)))).trans rfl))
theorem dk_18 {code : ByteArray} {pc : Nat} (a : UInt8) (h : DkAt code pc [18, a]) : decode code pc = .ok (.ldc a.toNat, 2) := dk_of ((dk_bind (dk_u1 (h 0 _ rfl))).trans ((dk_bind (dk_u1 (h 1 _ rfl))).trans rfl))
theorem dk_20 {code : ByteArray} {pc : Nat} (a b : UInt8) (h : DkAt code pc [20, a, b]) : decode code pc = .ok (.ldc2_w (a.toNat * 256 + b.toNat), 3) := dk_of ((dk_bind (dk_u1 (h 0 _ rfl))).trans ((dk_bind (dk_u2 (h 1 _ rfl) (h 2 _ rfl))).trans rfl))
theorem dk_21 {code : ByteArray} {pc : Nat} (a : UInt8) (h : DkAt code pc [21, a]) : decode code pc = .ok (.iload a.toNat, 2) := dk_of ((dk_bind (dk_u1 (h 0 _ rfl))).trans ((dk_bind (dk_u1 (h 1 _ rfl))).trans rfl))
theorem dk_22 {code : ByteArray} {pc : Nat} (a : UInt8) (h : DkAt code pc [22, a]) : decode code pc = .ok (.lload a.toNat, 2) := dk_of ((dk_bind (dk_u1 (h 0 _ rfl))).trans ((dk_bind (dk_u1 (h 1 _ rfl))).trans rfl))
theorem dk_25 {code : ByteArray} {pc : Nat} (a : UInt8) (h : DkAt code pc [25, a]) : decode code pc = .ok (.aload a.toNat, 2) := dk_of ((dk_bind (dk_u1 (h 0 _ rfl))).trans ((dk_bind (dk_u1 (h 1 _ rfl))).trans rfl))
theorem dk_26 {code : ByteArray} {pc : Nat} (h : DkAt code pc [26]) : decode code pc = .ok (.iload_n 0, 1) := dk_of ((dk_bind (dk_u1 (h 0 _ rfl))).trans rfl)
theorem dk_27 {code : ByteArray} {pc : Nat} (h : DkAt code pc [27]) : decode code pc = .ok (.iload_n 1, 1) := dk_of ((dk_bind (dk_u1 (h 0 _ rfl))).trans rfl)
theorem dk_28 {code : ByteArray} {pc : Nat} (h : DkAt code pc [28]) : decode code pc = .ok (.iload_n 2, 1) := dk_of ((dk_bind (dk_u1 (h 0 _ rfl))).trans rfl)
theorem dk_29 {code : ByteArray} {pc : Nat} (h : DkAt code pc [29]) : decode code pc = .ok (.iload_n 3, 1) := dk_of ((dk_bind (dk_u1 (h 0 _ rfl))).trans rfl)
theorem dk_30 {code : ByteArray} {pc : Nat} (h : DkAt code pc [30]) : decode code pc = .ok (.lload_n 0, 1) := dk_of ((dk_bind (dk_u1 (h 0 _ rfl))).trans rfl)
theorem dk_31 {code : ByteArray} {pc : Nat} (h : DkAt code pc [31]) : decode code pc = .ok (.lload_n 1, 1) := dk_of ((dk_bind (dk_u1 (h 0 _ rfl))).trans rfl)
theorem dk_33 {code : ByteArray} {pc : Nat} (h : DkAt code pc [33]) : decode code pc = .ok (.lload_n 3, 1) := dk_of ((dk_bind (dk_u1 (h 0 _ rfl))).trans rfl)
theorem dk_42 {code : ByteArray} {pc : Nat} (h : DkAt code pc [42]) : decode code pc = .ok (.aload_n 0, 1) := dk_of ((dk_bind (dk_u1 (h 0 _ rfl))).trans rfl)
theorem dk_43 {code : ByteArray} {pc : Nat} (h : DkAt code pc [43]) : decode code pc = .ok (.aload_n 1, 1) := dk_of ((dk_bind (dk_u1 (h 0 _ rfl))).trans rfl)
theorem dk_44 {code : ByteArray} {pc : Nat} (h : DkAt code pc [44]) : decode code pc = .ok (.aload_n 2, 1) := dk_of ((dk_bind (dk_u1 (h 0 _ rfl))).trans rfl)
theorem dk_46 {code : ByteArray} {pc : Nat} (h : DkAt code pc [46]) : decode code pc = .ok (.iaload, 1) := dk_of ((dk_bind (dk_u1 (h 0 _ rfl))).trans rfl)
theorem dk_47 {code : ByteArray} {pc : Nat} (h : DkAt code pc [47]) : decode code pc = .ok (.laload, 1) := dk_of ((dk_bind (dk_u1 (h 0 _ rfl))).trans rfl)
theorem dk_51 {code : ByteArray} {pc : Nat} (h : DkAt code pc [51]) : decode code pc = .ok (.baload, 1) := dk_of ((dk_bind (dk_u1 (h 0 _ rfl))).trans rfl)
theorem dk_54 {code : ByteArray} {pc : Nat} (a : UInt8) (h : DkAt code pc [54, a]) : decode code pc = .ok (.istore a.toNat, 2) := dk_of ((dk_bind (dk_u1 (h 0 _ rfl))).trans ((dk_bind (dk_u1 (h 1 _ rfl))).trans rfl))
theorem dk_55 {code : ByteArray} {pc : Nat} (a : UInt8) (h : DkAt code pc [55, a]) : decode code pc = .ok (.lstore a.toNat, 2) := dk_of ((dk_bind (dk_u1 (h 0 _ rfl))).trans ((dk_bind (dk_u1 (h 1 _ rfl))).trans rfl))
theorem dk_58 {code : ByteArray} {pc : Nat} (a : UInt8) (h : DkAt code pc [58, a]) : decode code pc = .ok (.astore a.toNat, 2) := dk_of ((dk_bind (dk_u1 (h 0 _ rfl))).trans ((dk_bind (dk_u1 (h 1 _ rfl))).trans rfl))
theorem dk_62 {code : ByteArray} {pc : Nat} (h : DkAt code pc [62]) : decode code pc = .ok (.istore_n 3, 1) := dk_of ((dk_bind (dk_u1 (h 0 _ rfl))).trans rfl)
theorem dk_63 {code : ByteArray} {pc : Nat} (h : DkAt code pc [63]) : decode code pc = .ok (.lstore_n 0, 1) := dk_of ((dk_bind (dk_u1 (h 0 _ rfl))).trans rfl)
theorem dk_66 {code : ByteArray} {pc : Nat} (h : DkAt code pc [66]) : decode code pc = .ok (.lstore_n 3, 1) := dk_of ((dk_bind (dk_u1 (h 0 _ rfl))).trans rfl)
theorem dk_76 {code : ByteArray} {pc : Nat} (h : DkAt code pc [76]) : decode code pc = .ok (.astore_n 1, 1) := dk_of ((dk_bind (dk_u1 (h 0 _ rfl))).trans rfl)
theorem dk_77 {code : ByteArray} {pc : Nat} (h : DkAt code pc [77]) : decode code pc = .ok (.astore_n 2, 1) := dk_of ((dk_bind (dk_u1 (h 0 _ rfl))).trans rfl)
theorem dk_79 {code : ByteArray} {pc : Nat} (h : DkAt code pc [79]) : decode code pc = .ok (.iastore, 1) := dk_of ((dk_bind (dk_u1 (h 0 _ rfl))).trans rfl)
theorem dk_80 {code : ByteArray} {pc : Nat} (h : DkAt code pc [80]) : decode code pc = .ok (.lastore, 1) := dk_of ((dk_bind (dk_u1 (h 0 _ rfl))).trans rfl)
theorem dk_84 {code : ByteArray} {pc : Nat} (h : DkAt code pc [84]) : decode code pc = .ok (.bastore, 1) := dk_of ((dk_bind (dk_u1 (h 0 _ rfl))).trans rfl)
theorem dk_89 {code : ByteArray} {pc : Nat} (h : DkAt code pc [89]) : decode code pc = .ok (.dup, 1) := dk_of ((dk_bind (dk_u1 (h 0 _ rfl))).trans rfl)
theorem dk_96 {code : ByteArray} {pc : Nat} (h : DkAt code pc [96]) : decode code pc = .ok (.iadd, 1) := dk_of ((dk_bind (dk_u1 (h 0 _ rfl))).trans rfl)
theorem dk_97 {code : ByteArray} {pc : Nat} (h : DkAt code pc [97]) : decode code pc = .ok (.ladd, 1) := dk_of ((dk_bind (dk_u1 (h 0 _ rfl))).trans rfl)
theorem dk_100 {code : ByteArray} {pc : Nat} (h : DkAt code pc [100]) : decode code pc = .ok (.isub, 1) := dk_of ((dk_bind (dk_u1 (h 0 _ rfl))).trans rfl)
theorem dk_104 {code : ByteArray} {pc : Nat} (h : DkAt code pc [104]) : decode code pc = .ok (.imul, 1) := dk_of ((dk_bind (dk_u1 (h 0 _ rfl))).trans rfl)
theorem dk_105 {code : ByteArray} {pc : Nat} (h : DkAt code pc [105]) : decode code pc = .ok (.lmul, 1) := dk_of ((dk_bind (dk_u1 (h 0 _ rfl))).trans rfl)
theorem dk_108 {code : ByteArray} {pc : Nat} (h : DkAt code pc [108]) : decode code pc = .ok (.idiv, 1) := dk_of ((dk_bind (dk_u1 (h 0 _ rfl))).trans rfl)
theorem dk_112 {code : ByteArray} {pc : Nat} (h : DkAt code pc [112]) : decode code pc = .ok (.irem, 1) := dk_of ((dk_bind (dk_u1 (h 0 _ rfl))).trans rfl)
theorem dk_116 {code : ByteArray} {pc : Nat} (h : DkAt code pc [116]) : decode code pc = .ok (.ineg, 1) := dk_of ((dk_bind (dk_u1 (h 0 _ rfl))).trans rfl)
theorem dk_120 {code : ByteArray} {pc : Nat} (h : DkAt code pc [120]) : decode code pc = .ok (.ishl, 1) := dk_of ((dk_bind (dk_u1 (h 0 _ rfl))).trans rfl)
theorem dk_121 {code : ByteArray} {pc : Nat} (h : DkAt code pc [121]) : decode code pc = .ok (.lshl, 1) := dk_of ((dk_bind (dk_u1 (h 0 _ rfl))).trans rfl)
theorem dk_122 {code : ByteArray} {pc : Nat} (h : DkAt code pc [122]) : decode code pc = .ok (.ishr, 1) := dk_of ((dk_bind (dk_u1 (h 0 _ rfl))).trans rfl)
theorem dk_124 {code : ByteArray} {pc : Nat} (h : DkAt code pc [124]) : decode code pc = .ok (.iushr, 1) := dk_of ((dk_bind (dk_u1 (h 0 _ rfl))).trans rfl)
theorem dk_125 {code : ByteArray} {pc : Nat} (h : DkAt code pc [125]) : decode code pc = .ok (.lushr, 1) := dk_of ((dk_bind (dk_u1 (h 0 _ rfl))).trans rfl)
theorem dk_126 {code : ByteArray} {pc : Nat} (h : DkAt code pc [126]) : decode code pc = .ok (.iand, 1) := dk_of ((dk_bind (dk_u1 (h 0 _ rfl))).trans rfl)
theorem dk_127 {code : ByteArray} {pc : Nat} (h : DkAt code pc [127]) : decode code pc = .ok (.land, 1) := dk_of ((dk_bind (dk_u1 (h 0 _ rfl))).trans rfl)
theorem dk_128 {code : ByteArray} {pc : Nat} (h : DkAt code pc [128]) : decode code pc = .ok (.ior, 1) := dk_of ((dk_bind (dk_u1 (h 0 _ rfl))).trans rfl)
theorem dk_129 {code : ByteArray} {pc : Nat} (h : DkAt code pc [129]) : decode code pc = .ok (.lor, 1) := dk_of ((dk_bind (dk_u1 (h 0 _ rfl))).trans rfl)
theorem dk_130 {code : ByteArray} {pc : Nat} (h : DkAt code pc [130]) : decode code pc = .ok (.ixor, 1) := dk_of ((dk_bind (dk_u1 (h 0 _ rfl))).trans rfl)
theorem dk_131 {code : ByteArray} {pc : Nat} (h : DkAt code pc [131]) : decode code pc = .ok (.lxor, 1) := dk_of ((dk_bind (dk_u1 (h 0 _ rfl))).trans rfl)
theorem dk_132 {code : ByteArray} {pc : Nat} (a b : UInt8) (h : DkAt code pc [132, a, b]) : decode code pc = .ok (.iinc a.toNat (Reader.signed 8 b.toNat), 3) := dk_of ((dk_bind (dk_u1 (h 0 _ rfl))).trans ((dk_bind (dk_u1 (h 1 _ rfl))).trans ((dk_bind (dk_map (dk_u1 (h 2 _ rfl)))).trans rfl)))
theorem dk_133 {code : ByteArray} {pc : Nat} (h : DkAt code pc [133]) : decode code pc = .ok (.i2l, 1) := dk_of ((dk_bind (dk_u1 (h 0 _ rfl))).trans rfl)
theorem dk_136 {code : ByteArray} {pc : Nat} (h : DkAt code pc [136]) : decode code pc = .ok (.l2i, 1) := dk_of ((dk_bind (dk_u1 (h 0 _ rfl))).trans rfl)
theorem dk_145 {code : ByteArray} {pc : Nat} (h : DkAt code pc [145]) : decode code pc = .ok (.i2b, 1) := dk_of ((dk_bind (dk_u1 (h 0 _ rfl))).trans rfl)
theorem dk_148 {code : ByteArray} {pc : Nat} (h : DkAt code pc [148]) : decode code pc = .ok (.lcmp, 1) := dk_of ((dk_bind (dk_u1 (h 0 _ rfl))).trans rfl)
theorem dk_153 {code : ByteArray} {pc : Nat} (a b : UInt8) (h : DkAt code pc [153, a, b]) : decode code pc = .ok (.ifCond .eq (Reader.signed 16 (a.toNat * 256 + b.toNat)), 3) := dk_of ((dk_bind (dk_u1 (h 0 _ rfl))).trans ((dk_bind (dk_map (dk_u2 (h 1 _ rfl) (h 2 _ rfl)))).trans rfl))
theorem dk_154 {code : ByteArray} {pc : Nat} (a b : UInt8) (h : DkAt code pc [154, a, b]) : decode code pc = .ok (.ifCond .ne (Reader.signed 16 (a.toNat * 256 + b.toNat)), 3) := dk_of ((dk_bind (dk_u1 (h 0 _ rfl))).trans ((dk_bind (dk_map (dk_u2 (h 1 _ rfl) (h 2 _ rfl)))).trans rfl))
theorem dk_155 {code : ByteArray} {pc : Nat} (a b : UInt8) (h : DkAt code pc [155, a, b]) : decode code pc = .ok (.ifCond .lt (Reader.signed 16 (a.toNat * 256 + b.toNat)), 3) := dk_of ((dk_bind (dk_u1 (h 0 _ rfl))).trans ((dk_bind (dk_map (dk_u2 (h 1 _ rfl) (h 2 _ rfl)))).trans rfl))
theorem dk_158 {code : ByteArray} {pc : Nat} (a b : UInt8) (h : DkAt code pc [158, a, b]) : decode code pc = .ok (.ifCond .le (Reader.signed 16 (a.toNat * 256 + b.toNat)), 3) := dk_of ((dk_bind (dk_u1 (h 0 _ rfl))).trans ((dk_bind (dk_map (dk_u2 (h 1 _ rfl) (h 2 _ rfl)))).trans rfl))
theorem dk_159 {code : ByteArray} {pc : Nat} (a b : UInt8) (h : DkAt code pc [159, a, b]) : decode code pc = .ok (.if_icmp .eq (Reader.signed 16 (a.toNat * 256 + b.toNat)), 3) := dk_of ((dk_bind (dk_u1 (h 0 _ rfl))).trans ((dk_bind (dk_map (dk_u2 (h 1 _ rfl) (h 2 _ rfl)))).trans rfl))
theorem dk_161 {code : ByteArray} {pc : Nat} (a b : UInt8) (h : DkAt code pc [161, a, b]) : decode code pc = .ok (.if_icmp .lt (Reader.signed 16 (a.toNat * 256 + b.toNat)), 3) := dk_of ((dk_bind (dk_u1 (h 0 _ rfl))).trans ((dk_bind (dk_map (dk_u2 (h 1 _ rfl) (h 2 _ rfl)))).trans rfl))
theorem dk_162 {code : ByteArray} {pc : Nat} (a b : UInt8) (h : DkAt code pc [162, a, b]) : decode code pc = .ok (.if_icmp .ge (Reader.signed 16 (a.toNat * 256 + b.toNat)), 3) := dk_of ((dk_bind (dk_u1 (h 0 _ rfl))).trans ((dk_bind (dk_map (dk_u2 (h 1 _ rfl) (h 2 _ rfl)))).trans rfl))
theorem dk_163 {code : ByteArray} {pc : Nat} (a b : UInt8) (h : DkAt code pc [163, a, b]) : decode code pc = .ok (.if_icmp .gt (Reader.signed 16 (a.toNat * 256 + b.toNat)), 3) := dk_of ((dk_bind (dk_u1 (h 0 _ rfl))).trans ((dk_bind (dk_map (dk_u2 (h 1 _ rfl) (h 2 _ rfl)))).trans rfl))
theorem dk_164 {code : ByteArray} {pc : Nat} (a b : UInt8) (h : DkAt code pc [164, a, b]) : decode code pc = .ok (.if_icmp .le (Reader.signed 16 (a.toNat * 256 + b.toNat)), 3) := dk_of ((dk_bind (dk_u1 (h 0 _ rfl))).trans ((dk_bind (dk_map (dk_u2 (h 1 _ rfl) (h 2 _ rfl)))).trans rfl))
theorem dk_167 {code : ByteArray} {pc : Nat} (a b : UInt8) (h : DkAt code pc [167, a, b]) : decode code pc = .ok (.goto (Reader.signed 16 (a.toNat * 256 + b.toNat)), 3) := dk_of ((dk_bind (dk_u1 (h 0 _ rfl))).trans ((dk_bind (dk_map (dk_u2 (h 1 _ rfl) (h 2 _ rfl)))).trans rfl))
theorem dk_172 {code : ByteArray} {pc : Nat} (h : DkAt code pc [172]) : decode code pc = .ok (.ireturn, 1) := dk_of ((dk_bind (dk_u1 (h 0 _ rfl))).trans rfl)
theorem dk_173 {code : ByteArray} {pc : Nat} (h : DkAt code pc [173]) : decode code pc = .ok (.lreturn, 1) := dk_of ((dk_bind (dk_u1 (h 0 _ rfl))).trans rfl)
theorem dk_176 {code : ByteArray} {pc : Nat} (h : DkAt code pc [176]) : decode code pc = .ok (.areturn, 1) := dk_of ((dk_bind (dk_u1 (h 0 _ rfl))).trans rfl)
theorem dk_177 {code : ByteArray} {pc : Nat} (h : DkAt code pc [177]) : decode code pc = .ok (.return_, 1) := dk_of ((dk_bind (dk_u1 (h 0 _ rfl))).trans rfl)
theorem dk_180 {code : ByteArray} {pc : Nat} (a b : UInt8) (h : DkAt code pc [180, a, b]) : decode code pc = .ok (.getfield (a.toNat * 256 + b.toNat), 3) := dk_of ((dk_bind (dk_u1 (h 0 _ rfl))).trans ((dk_bind (dk_u2 (h 1 _ rfl) (h 2 _ rfl))).trans rfl))
theorem dk_181 {code : ByteArray} {pc : Nat} (a b : UInt8) (h : DkAt code pc [181, a, b]) : decode code pc = .ok (.putfield (a.toNat * 256 + b.toNat), 3) := dk_of ((dk_bind (dk_u1 (h 0 _ rfl))).trans ((dk_bind (dk_u2 (h 1 _ rfl) (h 2 _ rfl))).trans rfl))
theorem dk_182 {code : ByteArray} {pc : Nat} (a b : UInt8) (h : DkAt code pc [182, a, b]) : decode code pc = .ok (.invokevirtual (a.toNat * 256 + b.toNat), 3) := dk_of ((dk_bind (dk_u1 (h 0 _ rfl))).trans ((dk_bind (dk_u2 (h 1 _ rfl) (h 2 _ rfl))).trans rfl))
theorem dk_183 {code : ByteArray} {pc : Nat} (a b : UInt8) (h : DkAt code pc [183, a, b]) : decode code pc = .ok (.invokespecial (a.toNat * 256 + b.toNat), 3) := dk_of ((dk_bind (dk_u1 (h 0 _ rfl))).trans ((dk_bind (dk_u2 (h 1 _ rfl) (h 2 _ rfl))).trans rfl))
theorem dk_184 {code : ByteArray} {pc : Nat} (a b : UInt8) (h : DkAt code pc [184, a, b]) : decode code pc = .ok (.invokestatic (a.toNat * 256 + b.toNat), 3) := dk_of ((dk_bind (dk_u1 (h 0 _ rfl))).trans ((dk_bind (dk_u2 (h 1 _ rfl) (h 2 _ rfl))).trans rfl))
theorem dk_187 {code : ByteArray} {pc : Nat} (a b : UInt8) (h : DkAt code pc [187, a, b]) : decode code pc = .ok (.new (a.toNat * 256 + b.toNat), 3) := dk_of ((dk_bind (dk_u1 (h 0 _ rfl))).trans ((dk_bind (dk_u2 (h 1 _ rfl) (h 2 _ rfl))).trans rfl))
theorem dk_188_8 {code : ByteArray} {pc : Nat} (h : DkAt code pc [188, 8]) : decode code pc = .ok (.newarray .byte, 2) := dk_of ((dk_bind (dk_u1 (h 0 _ rfl))).trans ((dk_bind (dk_u1 (h 1 _ rfl))).trans rfl))
theorem dk_188_10 {code : ByteArray} {pc : Nat} (h : DkAt code pc [188, 10]) : decode code pc = .ok (.newarray .int, 2) := dk_of ((dk_bind (dk_u1 (h 0 _ rfl))).trans ((dk_bind (dk_u1 (h 1 _ rfl))).trans rfl))
theorem dk_188_11 {code : ByteArray} {pc : Nat} (h : DkAt code pc [188, 11]) : decode code pc = .ok (.newarray .long, 2) := dk_of ((dk_bind (dk_u1 (h 0 _ rfl))).trans ((dk_bind (dk_u1 (h 1 _ rfl))).trans rfl))
theorem dk_190 {code : ByteArray} {pc : Nat} (h : DkAt code pc [190]) : decode code pc = .ok (.arraylength, 1) := dk_of ((dk_bind (dk_u1 (h 0 _ rfl))).trans rfl)

/-! MurmurDesk -/
set_option maxRecDepth 100000
def RX0 : String := "MurmurDesk"
def TX0 : u_T := fun k => match k with
  | 0 => ("MurmurDesk", "text", "[B", true)
  | _ => ("MurmurDesk", "size", "I", false)
def tyX0 : Nat → FieldType := fun k => match k with
  | 0 => .array .byte
  | _ => .int
abbrev wsX00 : List Cond := u_ws RX0 TX0 2
theorem nmX0 : ∀ a, a < 2 → ∀ b, b < 2 → a ≠ b → (TX0 a).2.1 ≠ (TX0 b).2.1 := by decide +kernel
theorem tyX0_ok : ∀ k, k < 2 → parseFieldDescriptor (TX0 k).2.2.1 = some (tyX0 k) := by decide +kernel
abbrev cX0_init : ByteArray := prog_2_method_1_code
def yX0_init : MethodName := ⟨RX0, "<init>", "()V"⟩
def dkwX0_init_0 : List UInt8 := [42, 183, 0, 1, 42, 17, 1, 0, 188, 8, 181, 0, 7, 177]
abbrev dktX0_init_0 : List UInt8 := dkwX0_init_0 ++ []
theorem dksX0_init_0 : cX0_init.data.toList.drop 0 = dktX0_init_0 := by decide +kernel
theorem dX0_init_0 : decode cX0_init 0 = .ok (.aload_n 0, 1) := dk_42 (dk_at dksX0_init_0 0 rfl rfl)
theorem dX0_init_1 : decode cX0_init 1 = .ok (.invokespecial 1, 3) := dk_183 0 1 (dk_at dksX0_init_0 1 rfl rfl)
theorem dX0_init_4 : decode cX0_init 4 = .ok (.aload_n 0, 1) := dk_42 (dk_at dksX0_init_0 4 rfl rfl)
theorem dX0_init_5 : decode cX0_init 5 = .ok (.sipush 256, 3) := dk_17 1 0 (dk_at dksX0_init_0 5 rfl rfl)
theorem dX0_init_8 : decode cX0_init 8 = .ok (.newarray .byte, 2) := dk_188_8 (dk_at dksX0_init_0 8 rfl rfl)
theorem dX0_init_10 : decode cX0_init 10 = .ok (.putfield 7, 3) := dk_181 0 7 (dk_at dksX0_init_0 10 rfl rfl)
theorem dX0_init_13 : decode cX0_init 13 = .ok (.return_, 1) := dk_177 (dk_at dksX0_init_0 13 rfl rfl)
abbrev cX0_put : ByteArray := prog_2_method_2_code
def yX0_put : MethodName := ⟨RX0, "put", "(IIII)Z"⟩
def dkwX0_put_3 : List UInt8 := [96, 21, 4, 184, 0, 17, 42, 89, 180, 0, 13, 16, 16, 96, 181, 0, 13, 4, 172]
abbrev dktX0_put_3 : List UInt8 := dkwX0_put_3 ++ []
def dkwX0_put_2 : List UInt8 := [180, 0, 7, 42, 180, 0, 13, 16, 8, 96, 29, 184, 0, 17, 42, 180, 0, 7, 42, 180, 0, 13, 16, 12]
abbrev dktX0_put_2 : List UInt8 := dkwX0_put_2 ++ dktX0_put_3
def dkwX0_put_1 : List UInt8 := [180, 0, 13, 27, 184, 0, 17, 42, 180, 0, 7, 42, 180, 0, 13, 7, 96, 28, 184, 0, 17, 42]
abbrev dktX0_put_1 : List UInt8 := dkwX0_put_1 ++ dktX0_put_2
def dkwX0_put_0 : List UInt8 := [42, 180, 0, 13, 42, 180, 0, 7, 190, 16, 16, 100, 164, 0, 5, 3, 172, 42, 180, 0, 7, 42]
abbrev dktX0_put_0 : List UInt8 := dkwX0_put_0 ++ dktX0_put_1
theorem dksX0_put_0 : cX0_put.data.toList.drop 0 = dktX0_put_0 := by decide +kernel
theorem dksX0_put_1 : cX0_put.data.toList.drop 22 = dktX0_put_1 := dk_seg dksX0_put_0 22 rfl rfl
theorem dksX0_put_2 : cX0_put.data.toList.drop 44 = dktX0_put_2 := dk_seg dksX0_put_1 22 rfl rfl
theorem dksX0_put_3 : cX0_put.data.toList.drop 68 = dktX0_put_3 := dk_seg dksX0_put_2 24 rfl rfl
theorem dX0_put_0 : decode cX0_put 0 = .ok (.aload_n 0, 1) := dk_42 (dk_at dksX0_put_0 0 rfl rfl)
theorem dX0_put_1 : decode cX0_put 1 = .ok (.getfield 13, 3) := dk_180 0 13 (dk_at dksX0_put_0 1 rfl rfl)
theorem dX0_put_4 : decode cX0_put 4 = .ok (.aload_n 0, 1) := dk_42 (dk_at dksX0_put_0 4 rfl rfl)
theorem dX0_put_5 : decode cX0_put 5 = .ok (.getfield 7, 3) := dk_180 0 7 (dk_at dksX0_put_0 5 rfl rfl)
theorem dX0_put_8 : decode cX0_put 8 = .ok (.arraylength, 1) := dk_190 (dk_at dksX0_put_0 8 rfl rfl)
theorem dX0_put_9 : decode cX0_put 9 = .ok (.bipush 16, 2) := dk_16 16 (dk_at dksX0_put_0 9 rfl rfl)
theorem dX0_put_11 : decode cX0_put 11 = .ok (.isub, 1) := dk_100 (dk_at dksX0_put_0 11 rfl rfl)
theorem dX0_put_12 : decode cX0_put 12 = .ok (.if_icmp .le 5, 3) := dk_164 0 5 (dk_at dksX0_put_0 12 rfl rfl)
theorem dX0_put_15 : decode cX0_put 15 = .ok (.iconst 0, 1) := dk_3 (dk_at dksX0_put_0 15 rfl rfl)
theorem dX0_put_16 : decode cX0_put 16 = .ok (.ireturn, 1) := dk_172 (dk_at dksX0_put_0 16 rfl rfl)
theorem dX0_put_17 : decode cX0_put 17 = .ok (.aload_n 0, 1) := dk_42 (dk_at dksX0_put_0 17 rfl rfl)
theorem dX0_put_18 : decode cX0_put 18 = .ok (.getfield 7, 3) := dk_180 0 7 (dk_at dksX0_put_0 18 rfl rfl)
theorem dX0_put_21 : decode cX0_put 21 = .ok (.aload_n 0, 1) := dk_42 (dk_at dksX0_put_0 21 rfl rfl)
theorem dX0_put_22 : decode cX0_put 22 = .ok (.getfield 13, 3) := dk_180 0 13 (dk_at dksX0_put_1 0 rfl rfl)
theorem dX0_put_25 : decode cX0_put 25 = .ok (.iload_n 1, 1) := dk_27 (dk_at dksX0_put_1 3 rfl rfl)
theorem dX0_put_26 : decode cX0_put 26 = .ok (.invokestatic 17, 3) := dk_184 0 17 (dk_at dksX0_put_1 4 rfl rfl)
theorem dX0_put_29 : decode cX0_put 29 = .ok (.aload_n 0, 1) := dk_42 (dk_at dksX0_put_1 7 rfl rfl)
theorem dX0_put_30 : decode cX0_put 30 = .ok (.getfield 7, 3) := dk_180 0 7 (dk_at dksX0_put_1 8 rfl rfl)
theorem dX0_put_33 : decode cX0_put 33 = .ok (.aload_n 0, 1) := dk_42 (dk_at dksX0_put_1 11 rfl rfl)
theorem dX0_put_34 : decode cX0_put 34 = .ok (.getfield 13, 3) := dk_180 0 13 (dk_at dksX0_put_1 12 rfl rfl)
theorem dX0_put_37 : decode cX0_put 37 = .ok (.iconst 4, 1) := dk_7 (dk_at dksX0_put_1 15 rfl rfl)
theorem dX0_put_38 : decode cX0_put 38 = .ok (.iadd, 1) := dk_96 (dk_at dksX0_put_1 16 rfl rfl)
theorem dX0_put_39 : decode cX0_put 39 = .ok (.iload_n 2, 1) := dk_28 (dk_at dksX0_put_1 17 rfl rfl)
theorem dX0_put_40 : decode cX0_put 40 = .ok (.invokestatic 17, 3) := dk_184 0 17 (dk_at dksX0_put_1 18 rfl rfl)
theorem dX0_put_43 : decode cX0_put 43 = .ok (.aload_n 0, 1) := dk_42 (dk_at dksX0_put_1 21 rfl rfl)
theorem dX0_put_44 : decode cX0_put 44 = .ok (.getfield 7, 3) := dk_180 0 7 (dk_at dksX0_put_2 0 rfl rfl)
theorem dX0_put_47 : decode cX0_put 47 = .ok (.aload_n 0, 1) := dk_42 (dk_at dksX0_put_2 3 rfl rfl)
theorem dX0_put_48 : decode cX0_put 48 = .ok (.getfield 13, 3) := dk_180 0 13 (dk_at dksX0_put_2 4 rfl rfl)
theorem dX0_put_51 : decode cX0_put 51 = .ok (.bipush 8, 2) := dk_16 8 (dk_at dksX0_put_2 7 rfl rfl)
theorem dX0_put_53 : decode cX0_put 53 = .ok (.iadd, 1) := dk_96 (dk_at dksX0_put_2 9 rfl rfl)
theorem dX0_put_54 : decode cX0_put 54 = .ok (.iload_n 3, 1) := dk_29 (dk_at dksX0_put_2 10 rfl rfl)
theorem dX0_put_55 : decode cX0_put 55 = .ok (.invokestatic 17, 3) := dk_184 0 17 (dk_at dksX0_put_2 11 rfl rfl)
theorem dX0_put_58 : decode cX0_put 58 = .ok (.aload_n 0, 1) := dk_42 (dk_at dksX0_put_2 14 rfl rfl)
theorem dX0_put_59 : decode cX0_put 59 = .ok (.getfield 7, 3) := dk_180 0 7 (dk_at dksX0_put_2 15 rfl rfl)
theorem dX0_put_62 : decode cX0_put 62 = .ok (.aload_n 0, 1) := dk_42 (dk_at dksX0_put_2 18 rfl rfl)
theorem dX0_put_63 : decode cX0_put 63 = .ok (.getfield 13, 3) := dk_180 0 13 (dk_at dksX0_put_2 19 rfl rfl)
theorem dX0_put_66 : decode cX0_put 66 = .ok (.bipush 12, 2) := dk_16 12 (dk_at dksX0_put_2 22 rfl rfl)
theorem dX0_put_68 : decode cX0_put 68 = .ok (.iadd, 1) := dk_96 (dk_at dksX0_put_3 0 rfl rfl)
theorem dX0_put_69 : decode cX0_put 69 = .ok (.iload 4, 2) := dk_21 4 (dk_at dksX0_put_3 1 rfl rfl)
theorem dX0_put_71 : decode cX0_put 71 = .ok (.invokestatic 17, 3) := dk_184 0 17 (dk_at dksX0_put_3 3 rfl rfl)
theorem dX0_put_74 : decode cX0_put 74 = .ok (.aload_n 0, 1) := dk_42 (dk_at dksX0_put_3 6 rfl rfl)
theorem dX0_put_75 : decode cX0_put 75 = .ok (.dup, 1) := dk_89 (dk_at dksX0_put_3 7 rfl rfl)
theorem dX0_put_76 : decode cX0_put 76 = .ok (.getfield 13, 3) := dk_180 0 13 (dk_at dksX0_put_3 8 rfl rfl)
theorem dX0_put_79 : decode cX0_put 79 = .ok (.bipush 16, 2) := dk_16 16 (dk_at dksX0_put_3 11 rfl rfl)
theorem dX0_put_81 : decode cX0_put 81 = .ok (.iadd, 1) := dk_96 (dk_at dksX0_put_3 13 rfl rfl)
theorem dX0_put_82 : decode cX0_put 82 = .ok (.putfield 13, 3) := dk_181 0 13 (dk_at dksX0_put_3 14 rfl rfl)
theorem dX0_put_85 : decode cX0_put 85 = .ok (.iconst 1, 1) := dk_4 (dk_at dksX0_put_3 17 rfl rfl)
theorem dX0_put_86 : decode cX0_put 86 = .ok (.ireturn, 1) := dk_172 (dk_at dksX0_put_3 18 rfl rfl)
abbrev cX0_word : ByteArray := prog_2_method_3_code
def yX0_word : MethodName := ⟨RX0, "word", "([BII)V"⟩
def dkwX0_word_1 : List UInt8 := [16, 8, 122, 145, 84, 42, 27, 6, 96, 28, 145, 84, 177]
abbrev dktX0_word_1 : List UInt8 := dkwX0_word_1 ++ []
def dkwX0_word_0 : List UInt8 := [42, 27, 28, 16, 24, 122, 145, 84, 42, 27, 4, 96, 28, 16, 16, 122, 145, 84, 42, 27, 5, 96, 28]
abbrev dktX0_word_0 : List UInt8 := dkwX0_word_0 ++ dktX0_word_1
theorem dksX0_word_0 : cX0_word.data.toList.drop 0 = dktX0_word_0 := by decide +kernel
theorem dksX0_word_1 : cX0_word.data.toList.drop 23 = dktX0_word_1 := dk_seg dksX0_word_0 23 rfl rfl
theorem dX0_word_0 : decode cX0_word 0 = .ok (.aload_n 0, 1) := dk_42 (dk_at dksX0_word_0 0 rfl rfl)
theorem dX0_word_1 : decode cX0_word 1 = .ok (.iload_n 1, 1) := dk_27 (dk_at dksX0_word_0 1 rfl rfl)
theorem dX0_word_2 : decode cX0_word 2 = .ok (.iload_n 2, 1) := dk_28 (dk_at dksX0_word_0 2 rfl rfl)
theorem dX0_word_3 : decode cX0_word 3 = .ok (.bipush 24, 2) := dk_16 24 (dk_at dksX0_word_0 3 rfl rfl)
theorem dX0_word_5 : decode cX0_word 5 = .ok (.ishr, 1) := dk_122 (dk_at dksX0_word_0 5 rfl rfl)
theorem dX0_word_6 : decode cX0_word 6 = .ok (.i2b, 1) := dk_145 (dk_at dksX0_word_0 6 rfl rfl)
theorem dX0_word_7 : decode cX0_word 7 = .ok (.bastore, 1) := dk_84 (dk_at dksX0_word_0 7 rfl rfl)
theorem dX0_word_8 : decode cX0_word 8 = .ok (.aload_n 0, 1) := dk_42 (dk_at dksX0_word_0 8 rfl rfl)
theorem dX0_word_9 : decode cX0_word 9 = .ok (.iload_n 1, 1) := dk_27 (dk_at dksX0_word_0 9 rfl rfl)
theorem dX0_word_10 : decode cX0_word 10 = .ok (.iconst 1, 1) := dk_4 (dk_at dksX0_word_0 10 rfl rfl)
theorem dX0_word_11 : decode cX0_word 11 = .ok (.iadd, 1) := dk_96 (dk_at dksX0_word_0 11 rfl rfl)
theorem dX0_word_12 : decode cX0_word 12 = .ok (.iload_n 2, 1) := dk_28 (dk_at dksX0_word_0 12 rfl rfl)
theorem dX0_word_13 : decode cX0_word 13 = .ok (.bipush 16, 2) := dk_16 16 (dk_at dksX0_word_0 13 rfl rfl)
theorem dX0_word_15 : decode cX0_word 15 = .ok (.ishr, 1) := dk_122 (dk_at dksX0_word_0 15 rfl rfl)
theorem dX0_word_16 : decode cX0_word 16 = .ok (.i2b, 1) := dk_145 (dk_at dksX0_word_0 16 rfl rfl)
theorem dX0_word_17 : decode cX0_word 17 = .ok (.bastore, 1) := dk_84 (dk_at dksX0_word_0 17 rfl rfl)
theorem dX0_word_18 : decode cX0_word 18 = .ok (.aload_n 0, 1) := dk_42 (dk_at dksX0_word_0 18 rfl rfl)
theorem dX0_word_19 : decode cX0_word 19 = .ok (.iload_n 1, 1) := dk_27 (dk_at dksX0_word_0 19 rfl rfl)
theorem dX0_word_20 : decode cX0_word 20 = .ok (.iconst 2, 1) := dk_5 (dk_at dksX0_word_0 20 rfl rfl)
theorem dX0_word_21 : decode cX0_word 21 = .ok (.iadd, 1) := dk_96 (dk_at dksX0_word_0 21 rfl rfl)
theorem dX0_word_22 : decode cX0_word 22 = .ok (.iload_n 2, 1) := dk_28 (dk_at dksX0_word_0 22 rfl rfl)
theorem dX0_word_23 : decode cX0_word 23 = .ok (.bipush 8, 2) := dk_16 8 (dk_at dksX0_word_1 0 rfl rfl)
theorem dX0_word_25 : decode cX0_word 25 = .ok (.ishr, 1) := dk_122 (dk_at dksX0_word_1 2 rfl rfl)
theorem dX0_word_26 : decode cX0_word 26 = .ok (.i2b, 1) := dk_145 (dk_at dksX0_word_1 3 rfl rfl)
theorem dX0_word_27 : decode cX0_word 27 = .ok (.bastore, 1) := dk_84 (dk_at dksX0_word_1 4 rfl rfl)
theorem dX0_word_28 : decode cX0_word 28 = .ok (.aload_n 0, 1) := dk_42 (dk_at dksX0_word_1 5 rfl rfl)
theorem dX0_word_29 : decode cX0_word 29 = .ok (.iload_n 1, 1) := dk_27 (dk_at dksX0_word_1 6 rfl rfl)
theorem dX0_word_30 : decode cX0_word 30 = .ok (.iconst 3, 1) := dk_6 (dk_at dksX0_word_1 7 rfl rfl)
theorem dX0_word_31 : decode cX0_word 31 = .ok (.iadd, 1) := dk_96 (dk_at dksX0_word_1 8 rfl rfl)
theorem dX0_word_32 : decode cX0_word 32 = .ok (.iload_n 2, 1) := dk_28 (dk_at dksX0_word_1 9 rfl rfl)
theorem dX0_word_33 : decode cX0_word 33 = .ok (.i2b, 1) := dk_145 (dk_at dksX0_word_1 10 rfl rfl)
theorem dX0_word_34 : decode cX0_word 34 = .ok (.bastore, 1) := dk_84 (dk_at dksX0_word_1 11 rfl rfl)
theorem dX0_word_35 : decode cX0_word 35 = .ok (.return_, 1) := dk_177 (dk_at dksX0_word_1 12 rfl rfl)
abbrev cX0_trim : ByteArray := prog_2_method_4_code
def yX0_trim : MethodName := ⟨RX0, "trim", "(I)V"⟩
def dkwX0_trim_0 : List UInt8 := [42, 42, 27, 182, 0, 21, 181, 0, 13, 177]
abbrev dktX0_trim_0 : List UInt8 := dkwX0_trim_0 ++ []
theorem dksX0_trim_0 : cX0_trim.data.toList.drop 0 = dktX0_trim_0 := by decide +kernel
theorem dX0_trim_0 : decode cX0_trim 0 = .ok (.aload_n 0, 1) := dk_42 (dk_at dksX0_trim_0 0 rfl rfl)
theorem dX0_trim_1 : decode cX0_trim 1 = .ok (.aload_n 0, 1) := dk_42 (dk_at dksX0_trim_0 1 rfl rfl)
theorem dX0_trim_2 : decode cX0_trim 2 = .ok (.iload_n 1, 1) := dk_27 (dk_at dksX0_trim_0 2 rfl rfl)
theorem dX0_trim_3 : decode cX0_trim 3 = .ok (.invokevirtual 21, 3) := dk_182 0 21 (dk_at dksX0_trim_0 3 rfl rfl)
theorem dX0_trim_6 : decode cX0_trim 6 = .ok (.putfield 13, 3) := dk_181 0 13 (dk_at dksX0_trim_0 6 rfl rfl)
theorem dX0_trim_9 : decode cX0_trim 9 = .ok (.return_, 1) := dk_177 (dk_at dksX0_trim_0 9 rfl rfl)
abbrev cX0_from : ByteArray := prog_2_method_5_code
def yX0_from : MethodName := ⟨RX0, "from", "(I)I"⟩
def dkwX0_from_0 : List UInt8 := [27, 18, 25, 126, 42, 180, 0, 13, 4, 96, 112, 172]
abbrev dktX0_from_0 : List UInt8 := dkwX0_from_0 ++ []
theorem dksX0_from_0 : cX0_from.data.toList.drop 0 = dktX0_from_0 := by decide +kernel
theorem dX0_from_0 : decode cX0_from 0 = .ok (.iload_n 1, 1) := dk_27 (dk_at dksX0_from_0 0 rfl rfl)
theorem dX0_from_1 : decode cX0_from 1 = .ok (.ldc 25, 2) := dk_18 25 (dk_at dksX0_from_0 1 rfl rfl)
theorem dX0_from_3 : decode cX0_from 3 = .ok (.iand, 1) := dk_126 (dk_at dksX0_from_0 3 rfl rfl)
theorem dX0_from_4 : decode cX0_from 4 = .ok (.aload_n 0, 1) := dk_42 (dk_at dksX0_from_0 4 rfl rfl)
theorem dX0_from_5 : decode cX0_from 5 = .ok (.getfield 13, 3) := dk_180 0 13 (dk_at dksX0_from_0 5 rfl rfl)
theorem dX0_from_8 : decode cX0_from 8 = .ok (.iconst 1, 1) := dk_4 (dk_at dksX0_from_0 8 rfl rfl)
theorem dX0_from_9 : decode cX0_from 9 = .ok (.iadd, 1) := dk_96 (dk_at dksX0_from_0 9 rfl rfl)
theorem dX0_from_10 : decode cX0_from 10 = .ok (.irem, 1) := dk_112 (dk_at dksX0_from_0 10 rfl rfl)
theorem dX0_from_11 : decode cX0_from 11 = .ok (.ireturn, 1) := dk_172 (dk_at dksX0_from_0 11 rfl rfl)
abbrev cX0_small : ByteArray := prog_2_method_8_code
def yX0_small : MethodName := ⟨RX0, "small", "(III)I"⟩
def dkwX0_small_2 : List UInt8 := [172]
abbrev dktX0_small_2 : List UInt8 := dkwX0_small_2 ++ []
def dkwX0_small_1 : List UInt8 := [167, 0, 14, 7, 28, 18, 25, 126, 21, 5, 4, 96, 112, 104, 54, 5, 25, 4, 21, 5, 29, 184, 0, 34]
abbrev dktX0_small_1 : List UInt8 := dkwX0_small_1 ++ dktX0_small_2
def dkwX0_small_0 : List UInt8 := [42, 27, 42, 180, 0, 13, 182, 0, 30, 58, 4, 25, 4, 190, 7, 108, 54, 5, 21, 5, 154, 0, 7, 3]
abbrev dktX0_small_0 : List UInt8 := dkwX0_small_0 ++ dktX0_small_1
theorem dksX0_small_0 : cX0_small.data.toList.drop 0 = dktX0_small_0 := by decide +kernel
theorem dksX0_small_1 : cX0_small.data.toList.drop 24 = dktX0_small_1 := dk_seg dksX0_small_0 24 rfl rfl
theorem dksX0_small_2 : cX0_small.data.toList.drop 48 = dktX0_small_2 := dk_seg dksX0_small_1 24 rfl rfl
theorem dX0_small_0 : decode cX0_small 0 = .ok (.aload_n 0, 1) := dk_42 (dk_at dksX0_small_0 0 rfl rfl)
theorem dX0_small_1 : decode cX0_small 1 = .ok (.iload_n 1, 1) := dk_27 (dk_at dksX0_small_0 1 rfl rfl)
theorem dX0_small_2 : decode cX0_small 2 = .ok (.aload_n 0, 1) := dk_42 (dk_at dksX0_small_0 2 rfl rfl)
theorem dX0_small_3 : decode cX0_small 3 = .ok (.getfield 13, 3) := dk_180 0 13 (dk_at dksX0_small_0 3 rfl rfl)
theorem dX0_small_6 : decode cX0_small 6 = .ok (.invokevirtual 30, 3) := dk_182 0 30 (dk_at dksX0_small_0 6 rfl rfl)
theorem dX0_small_9 : decode cX0_small 9 = .ok (.astore 4, 2) := dk_58 4 (dk_at dksX0_small_0 9 rfl rfl)
theorem dX0_small_11 : decode cX0_small 11 = .ok (.aload 4, 2) := dk_25 4 (dk_at dksX0_small_0 11 rfl rfl)
theorem dX0_small_13 : decode cX0_small 13 = .ok (.arraylength, 1) := dk_190 (dk_at dksX0_small_0 13 rfl rfl)
theorem dX0_small_14 : decode cX0_small 14 = .ok (.iconst 4, 1) := dk_7 (dk_at dksX0_small_0 14 rfl rfl)
theorem dX0_small_15 : decode cX0_small 15 = .ok (.idiv, 1) := dk_108 (dk_at dksX0_small_0 15 rfl rfl)
theorem dX0_small_16 : decode cX0_small 16 = .ok (.istore 5, 2) := dk_54 5 (dk_at dksX0_small_0 16 rfl rfl)
theorem dX0_small_18 : decode cX0_small 18 = .ok (.iload 5, 2) := dk_21 5 (dk_at dksX0_small_0 18 rfl rfl)
theorem dX0_small_20 : decode cX0_small 20 = .ok (.ifCond .ne 7, 3) := dk_154 0 7 (dk_at dksX0_small_0 20 rfl rfl)
theorem dX0_small_23 : decode cX0_small 23 = .ok (.iconst 0, 1) := dk_3 (dk_at dksX0_small_0 23 rfl rfl)
theorem dX0_small_24 : decode cX0_small 24 = .ok (.goto 14, 3) := dk_167 0 14 (dk_at dksX0_small_1 0 rfl rfl)
theorem dX0_small_27 : decode cX0_small 27 = .ok (.iconst 4, 1) := dk_7 (dk_at dksX0_small_1 3 rfl rfl)
theorem dX0_small_28 : decode cX0_small 28 = .ok (.iload_n 2, 1) := dk_28 (dk_at dksX0_small_1 4 rfl rfl)
theorem dX0_small_29 : decode cX0_small 29 = .ok (.ldc 25, 2) := dk_18 25 (dk_at dksX0_small_1 5 rfl rfl)
theorem dX0_small_31 : decode cX0_small 31 = .ok (.iand, 1) := dk_126 (dk_at dksX0_small_1 7 rfl rfl)
theorem dX0_small_32 : decode cX0_small 32 = .ok (.iload 5, 2) := dk_21 5 (dk_at dksX0_small_1 8 rfl rfl)
theorem dX0_small_34 : decode cX0_small 34 = .ok (.iconst 1, 1) := dk_4 (dk_at dksX0_small_1 10 rfl rfl)
theorem dX0_small_35 : decode cX0_small 35 = .ok (.iadd, 1) := dk_96 (dk_at dksX0_small_1 11 rfl rfl)
theorem dX0_small_36 : decode cX0_small 36 = .ok (.irem, 1) := dk_112 (dk_at dksX0_small_1 12 rfl rfl)
theorem dX0_small_37 : decode cX0_small 37 = .ok (.imul, 1) := dk_104 (dk_at dksX0_small_1 13 rfl rfl)
theorem dX0_small_38 : decode cX0_small 38 = .ok (.istore 5, 2) := dk_54 5 (dk_at dksX0_small_1 14 rfl rfl)
theorem dX0_small_40 : decode cX0_small 40 = .ok (.aload 4, 2) := dk_25 4 (dk_at dksX0_small_1 16 rfl rfl)
theorem dX0_small_42 : decode cX0_small 42 = .ok (.iload 5, 2) := dk_21 5 (dk_at dksX0_small_1 18 rfl rfl)
theorem dX0_small_44 : decode cX0_small 44 = .ok (.iload_n 3, 1) := dk_29 (dk_at dksX0_small_1 20 rfl rfl)
theorem dX0_small_45 : decode cX0_small 45 = .ok (.invokestatic 34, 3) := dk_184 0 34 (dk_at dksX0_small_1 21 rfl rfl)
theorem dX0_small_48 : decode cX0_small 48 = .ok (.ireturn, 1) := dk_172 (dk_at dksX0_small_2 0 rfl rfl)
abbrev cX0_part : ByteArray := prog_2_method_7_code
def yX0_part : MethodName := ⟨RX0, "part", "(II)[B"⟩
def dkwX0_part_2 : List UInt8 := [167, 255, 232, 25, 5, 176]
abbrev dktX0_part_2 : List UInt8 := dkwX0_part_2 ++ []
def dkwX0_part_1 : List UInt8 := [21, 6, 21, 4, 162, 0, 23, 25, 5, 21, 6, 42, 180, 0, 7, 29, 21, 6, 96, 51, 84, 132, 6, 1]
abbrev dktX0_part_1 : List UInt8 := dkwX0_part_1 ++ dktX0_part_2
def dkwX0_part_0 : List UInt8 := [42, 27, 182, 0, 21, 62, 42, 29, 28, 182, 0, 26, 54, 4, 21, 4, 188, 8, 58, 5, 3, 54, 6]
abbrev dktX0_part_0 : List UInt8 := dkwX0_part_0 ++ dktX0_part_1
theorem dksX0_part_0 : cX0_part.data.toList.drop 0 = dktX0_part_0 := by decide +kernel
theorem dksX0_part_1 : cX0_part.data.toList.drop 23 = dktX0_part_1 := dk_seg dksX0_part_0 23 rfl rfl
theorem dksX0_part_2 : cX0_part.data.toList.drop 47 = dktX0_part_2 := dk_seg dksX0_part_1 24 rfl rfl
theorem dX0_part_0 : decode cX0_part 0 = .ok (.aload_n 0, 1) := dk_42 (dk_at dksX0_part_0 0 rfl rfl)
theorem dX0_part_1 : decode cX0_part 1 = .ok (.iload_n 1, 1) := dk_27 (dk_at dksX0_part_0 1 rfl rfl)
theorem dX0_part_2 : decode cX0_part 2 = .ok (.invokevirtual 21, 3) := dk_182 0 21 (dk_at dksX0_part_0 2 rfl rfl)
theorem dX0_part_5 : decode cX0_part 5 = .ok (.istore_n 3, 1) := dk_62 (dk_at dksX0_part_0 5 rfl rfl)
theorem dX0_part_6 : decode cX0_part 6 = .ok (.aload_n 0, 1) := dk_42 (dk_at dksX0_part_0 6 rfl rfl)
theorem dX0_part_7 : decode cX0_part 7 = .ok (.iload_n 3, 1) := dk_29 (dk_at dksX0_part_0 7 rfl rfl)
theorem dX0_part_8 : decode cX0_part 8 = .ok (.iload_n 2, 1) := dk_28 (dk_at dksX0_part_0 8 rfl rfl)
theorem dX0_part_9 : decode cX0_part 9 = .ok (.invokevirtual 26, 3) := dk_182 0 26 (dk_at dksX0_part_0 9 rfl rfl)
theorem dX0_part_12 : decode cX0_part 12 = .ok (.istore 4, 2) := dk_54 4 (dk_at dksX0_part_0 12 rfl rfl)
theorem dX0_part_14 : decode cX0_part 14 = .ok (.iload 4, 2) := dk_21 4 (dk_at dksX0_part_0 14 rfl rfl)
theorem dX0_part_16 : decode cX0_part 16 = .ok (.newarray .byte, 2) := dk_188_8 (dk_at dksX0_part_0 16 rfl rfl)
theorem dX0_part_18 : decode cX0_part 18 = .ok (.astore 5, 2) := dk_58 5 (dk_at dksX0_part_0 18 rfl rfl)
theorem dX0_part_20 : decode cX0_part 20 = .ok (.iconst 0, 1) := dk_3 (dk_at dksX0_part_0 20 rfl rfl)
theorem dX0_part_21 : decode cX0_part 21 = .ok (.istore 6, 2) := dk_54 6 (dk_at dksX0_part_0 21 rfl rfl)
theorem dX0_part_23 : decode cX0_part 23 = .ok (.iload 6, 2) := dk_21 6 (dk_at dksX0_part_1 0 rfl rfl)
theorem dX0_part_25 : decode cX0_part 25 = .ok (.iload 4, 2) := dk_21 4 (dk_at dksX0_part_1 2 rfl rfl)
theorem dX0_part_27 : decode cX0_part 27 = .ok (.if_icmp .ge 23, 3) := dk_162 0 23 (dk_at dksX0_part_1 4 rfl rfl)
theorem dX0_part_30 : decode cX0_part 30 = .ok (.aload 5, 2) := dk_25 5 (dk_at dksX0_part_1 7 rfl rfl)
theorem dX0_part_32 : decode cX0_part 32 = .ok (.iload 6, 2) := dk_21 6 (dk_at dksX0_part_1 9 rfl rfl)
theorem dX0_part_34 : decode cX0_part 34 = .ok (.aload_n 0, 1) := dk_42 (dk_at dksX0_part_1 11 rfl rfl)
theorem dX0_part_35 : decode cX0_part 35 = .ok (.getfield 7, 3) := dk_180 0 7 (dk_at dksX0_part_1 12 rfl rfl)
theorem dX0_part_38 : decode cX0_part 38 = .ok (.iload_n 3, 1) := dk_29 (dk_at dksX0_part_1 15 rfl rfl)
theorem dX0_part_39 : decode cX0_part 39 = .ok (.iload 6, 2) := dk_21 6 (dk_at dksX0_part_1 16 rfl rfl)
theorem dX0_part_41 : decode cX0_part 41 = .ok (.iadd, 1) := dk_96 (dk_at dksX0_part_1 18 rfl rfl)
theorem dX0_part_42 : decode cX0_part 42 = .ok (.baload, 1) := dk_51 (dk_at dksX0_part_1 19 rfl rfl)
theorem dX0_part_43 : decode cX0_part 43 = .ok (.bastore, 1) := dk_84 (dk_at dksX0_part_1 20 rfl rfl)
theorem dX0_part_44 : decode cX0_part 44 = .ok (.iinc 6 1, 3) := dk_132 6 1 (dk_at dksX0_part_1 21 rfl rfl)
theorem dX0_part_47 : decode cX0_part 47 = .ok (.goto (-24), 3) := dk_167 255 232 (dk_at dksX0_part_2 0 rfl rfl)
theorem dX0_part_50 : decode cX0_part 50 = .ok (.aload 5, 2) := dk_25 5 (dk_at dksX0_part_2 3 rfl rfl)
theorem dX0_part_52 : decode cX0_part 52 = .ok (.areturn, 1) := dk_176 (dk_at dksX0_part_2 5 rfl rfl)
abbrev cX0_count : ByteArray := prog_2_method_6_code
def yX0_count : MethodName := ⟨RX0, "count", "(II)I"⟩
def dkwX0_count_0 : List UInt8 := [28, 18, 25, 126, 42, 180, 0, 13, 27, 100, 4, 96, 112, 172]
abbrev dktX0_count_0 : List UInt8 := dkwX0_count_0 ++ []
theorem dksX0_count_0 : cX0_count.data.toList.drop 0 = dktX0_count_0 := by decide +kernel
theorem dX0_count_0 : decode cX0_count 0 = .ok (.iload_n 2, 1) := dk_28 (dk_at dksX0_count_0 0 rfl rfl)
theorem dX0_count_1 : decode cX0_count 1 = .ok (.ldc 25, 2) := dk_18 25 (dk_at dksX0_count_0 1 rfl rfl)
theorem dX0_count_3 : decode cX0_count 3 = .ok (.iand, 1) := dk_126 (dk_at dksX0_count_0 3 rfl rfl)
theorem dX0_count_4 : decode cX0_count 4 = .ok (.aload_n 0, 1) := dk_42 (dk_at dksX0_count_0 4 rfl rfl)
theorem dX0_count_5 : decode cX0_count 5 = .ok (.getfield 13, 3) := dk_180 0 13 (dk_at dksX0_count_0 5 rfl rfl)
theorem dX0_count_8 : decode cX0_count 8 = .ok (.iload_n 1, 1) := dk_27 (dk_at dksX0_count_0 8 rfl rfl)
theorem dX0_count_9 : decode cX0_count 9 = .ok (.isub, 1) := dk_100 (dk_at dksX0_count_0 9 rfl rfl)
theorem dX0_count_10 : decode cX0_count 10 = .ok (.iconst 1, 1) := dk_4 (dk_at dksX0_count_0 10 rfl rfl)
theorem dX0_count_11 : decode cX0_count 11 = .ok (.iadd, 1) := dk_96 (dk_at dksX0_count_0 11 rfl rfl)
theorem dX0_count_12 : decode cX0_count 12 = .ok (.irem, 1) := dk_112 (dk_at dksX0_count_0 12 rfl rfl)
theorem dX0_count_13 : decode cX0_count 13 = .ok (.ireturn, 1) := dk_172 (dk_at dksX0_count_0 13 rfl rfl)
abbrev cX0_wide : ByteArray := prog_2_method_9_code
def yX0_wide : MethodName := ⟨RX0, "wide", "(IIII)J"⟩
def dkwX0_wide_1 : List UInt8 := [126, 47, 173]
abbrev dktX0_wide_1 : List UInt8 := dkwX0_wide_1 ++ []
def dkwX0_wide_0 : List UInt8 := [42, 27, 28, 182, 0, 30, 58, 5, 25, 5, 3, 25, 5, 190, 29, 18, 25, 126, 184, 0, 40, 21, 4, 4]
abbrev dktX0_wide_0 : List UInt8 := dkwX0_wide_0 ++ dktX0_wide_1
theorem dksX0_wide_0 : cX0_wide.data.toList.drop 0 = dktX0_wide_0 := by decide +kernel
theorem dksX0_wide_1 : cX0_wide.data.toList.drop 24 = dktX0_wide_1 := dk_seg dksX0_wide_0 24 rfl rfl
theorem dX0_wide_0 : decode cX0_wide 0 = .ok (.aload_n 0, 1) := dk_42 (dk_at dksX0_wide_0 0 rfl rfl)
theorem dX0_wide_1 : decode cX0_wide 1 = .ok (.iload_n 1, 1) := dk_27 (dk_at dksX0_wide_0 1 rfl rfl)
theorem dX0_wide_2 : decode cX0_wide 2 = .ok (.iload_n 2, 1) := dk_28 (dk_at dksX0_wide_0 2 rfl rfl)
theorem dX0_wide_3 : decode cX0_wide 3 = .ok (.invokevirtual 30, 3) := dk_182 0 30 (dk_at dksX0_wide_0 3 rfl rfl)
theorem dX0_wide_6 : decode cX0_wide 6 = .ok (.astore 5, 2) := dk_58 5 (dk_at dksX0_wide_0 6 rfl rfl)
theorem dX0_wide_8 : decode cX0_wide 8 = .ok (.aload 5, 2) := dk_25 5 (dk_at dksX0_wide_0 8 rfl rfl)
theorem dX0_wide_10 : decode cX0_wide 10 = .ok (.iconst 0, 1) := dk_3 (dk_at dksX0_wide_0 10 rfl rfl)
theorem dX0_wide_11 : decode cX0_wide 11 = .ok (.aload 5, 2) := dk_25 5 (dk_at dksX0_wide_0 11 rfl rfl)
theorem dX0_wide_13 : decode cX0_wide 13 = .ok (.arraylength, 1) := dk_190 (dk_at dksX0_wide_0 13 rfl rfl)
theorem dX0_wide_14 : decode cX0_wide 14 = .ok (.iload_n 3, 1) := dk_29 (dk_at dksX0_wide_0 14 rfl rfl)
theorem dX0_wide_15 : decode cX0_wide 15 = .ok (.ldc 25, 2) := dk_18 25 (dk_at dksX0_wide_0 15 rfl rfl)
theorem dX0_wide_17 : decode cX0_wide 17 = .ok (.iand, 1) := dk_126 (dk_at dksX0_wide_0 17 rfl rfl)
theorem dX0_wide_18 : decode cX0_wide 18 = .ok (.invokestatic 40, 3) := dk_184 0 40 (dk_at dksX0_wide_0 18 rfl rfl)
theorem dX0_wide_21 : decode cX0_wide 21 = .ok (.iload 4, 2) := dk_21 4 (dk_at dksX0_wide_0 21 rfl rfl)
theorem dX0_wide_23 : decode cX0_wide 23 = .ok (.iconst 1, 1) := dk_4 (dk_at dksX0_wide_0 23 rfl rfl)
theorem dX0_wide_24 : decode cX0_wide 24 = .ok (.iand, 1) := dk_126 (dk_at dksX0_wide_1 0 rfl rfl)
theorem dX0_wide_25 : decode cX0_wide 25 = .ok (.laload, 1) := dk_47 (dk_at dksX0_wide_1 1 rfl rfl)
theorem dX0_wide_26 : decode cX0_wide 26 = .ok (.lreturn, 1) := dk_173 (dk_at dksX0_wide_1 2 rfl rfl)
theorem q12 : (Jvm.Cond.initialized "MurmurDesk") ∈ lw_all := lw_g (lw_at lw_m0 1 rfl) rfl
theorem q18 : (Jvm.Cond.instantiable "MurmurDesk" (2 : Nat)) ∈ lw_all := lw_g (lw_at lw_m0 7 rfl) rfl
theorem q20 : (Jvm.Cond.instanceMethod ({ cls := "MurmurDesk", name := "<init>", desc := "()V" } : Jvm.MethodName)) ∈ lw_all := lw_g (lw_at lw_m0 9 rfl) rfl
theorem q21 : (Jvm.Cond.code ({ cls := "MurmurDesk", name := "<init>", desc := "()V" } : Jvm.MethodName) prog_2_method_1_code (1 : Nat) (Option.none : Option Jvm.ClassFile.FieldType)) ∈ lw_all := lw_g (lw_at lw_m0 10 rfl) rfl
theorem q22 : (Jvm.Cond.methodLink "MurmurDesk" (1 : Nat) ({ cls := "java/lang/Object", name := "<init>", desc := "()V" } : Jvm.MethodName)) ∈ lw_all := lw_g (lw_at lw_m0 11 rfl) rfl
theorem q25 : (Jvm.Cond.fieldLink "MurmurDesk" (7 : Nat) "MurmurDesk" "text" "[B") ∈ lw_all := lw_g (lw_at lw_m0 14 rfl) rfl
theorem q26 : (Jvm.Cond.fieldLink "MurmurDesk" (13 : Nat) "MurmurDesk" "size" "I") ∈ lw_all := lw_g (lw_at lw_m0 15 rfl) rfl
theorem q27 : (Jvm.Cond.laysFinal "MurmurDesk" "MurmurDesk" "text" "[B") ∈ lw_all := lw_g (lw_at lw_m0 16 rfl) rfl
theorem q28 : (Jvm.Cond.soleField "MurmurDesk" "text") ∈ lw_all := lw_g (lw_at lw_m0 17 rfl) rfl
theorem q29 : (Jvm.Cond.lays "MurmurDesk" "MurmurDesk" "size" "I") ∈ lw_all := lw_g (lw_at lw_m0 18 rfl) rfl
theorem q30 : (Jvm.Cond.soleField "MurmurDesk" "size") ∈ lw_all := lw_g (lw_at lw_m0 19 rfl) rfl
theorem q31 : (Jvm.Cond.superclass "MurmurDesk" "java/lang/Object") ∈ lw_all := lw_g (lw_at lw_m0 20 rfl) rfl
theorem q34 : (Jvm.Cond.instanceMethod ({ cls := "MurmurDesk", name := "put", desc := "(IIII)Z" } : Jvm.MethodName)) ∈ lw_all := lw_g (lw_at lw_m0 23 rfl) rfl
theorem q35 : (Jvm.Cond.selects "MurmurDesk" ({ cls := "MurmurDesk", name := "put", desc := "(IIII)Z" } : Jvm.MethodName) ({ cls := "MurmurDesk", name := "put", desc := "(IIII)Z" } : Jvm.MethodName)) ∈ lw_all := lw_g (lw_at lw_m0 24 rfl) rfl
theorem q36 : (Jvm.Cond.code ({ cls := "MurmurDesk", name := "put", desc := "(IIII)Z" } : Jvm.MethodName) prog_2_method_2_code (5 : Nat) (Option.some Jvm.ClassFile.FieldType.boolean)) ∈ lw_all := lw_g (lw_at lw_m0 25 rfl) rfl
theorem q37 : (Jvm.Cond.methodLink "MurmurDesk" (17 : Nat) ({ cls := "MurmurDesk", name := "word", desc := "([BII)V" } : Jvm.MethodName)) ∈ lw_all := lw_g (lw_at lw_m0 26 rfl) rfl
theorem q38 : (Jvm.Cond.static ({ cls := "MurmurDesk", name := "word", desc := "([BII)V" } : Jvm.MethodName)) ∈ lw_all := lw_g (lw_at lw_m0 27 rfl) rfl
theorem q39 : (Jvm.Cond.code ({ cls := "MurmurDesk", name := "word", desc := "([BII)V" } : Jvm.MethodName) prog_2_method_3_code (3 : Nat) (Option.none : Option Jvm.ClassFile.FieldType)) ∈ lw_all := lw_g (lw_at lw_m0 28 rfl) rfl
theorem q41 : (Jvm.Cond.instanceMethod ({ cls := "MurmurDesk", name := "trim", desc := "(I)V" } : Jvm.MethodName)) ∈ lw_all := lw_g (lw_at lw_m0 30 rfl) rfl
theorem q42 : (Jvm.Cond.selects "MurmurDesk" ({ cls := "MurmurDesk", name := "trim", desc := "(I)V" } : Jvm.MethodName) ({ cls := "MurmurDesk", name := "trim", desc := "(I)V" } : Jvm.MethodName)) ∈ lw_all := lw_g (lw_at lw_m0 31 rfl) rfl
theorem q43 : (Jvm.Cond.code ({ cls := "MurmurDesk", name := "trim", desc := "(I)V" } : Jvm.MethodName) prog_2_method_4_code (2 : Nat) (Option.none : Option Jvm.ClassFile.FieldType)) ∈ lw_all := lw_g (lw_at lw_m0 32 rfl) rfl
theorem q44 : (Jvm.Cond.methodLink "MurmurDesk" (21 : Nat) ({ cls := "MurmurDesk", name := "from", desc := "(I)I" } : Jvm.MethodName)) ∈ lw_all := lw_g (lw_at lw_m0 33 rfl) rfl
theorem q45 : (Jvm.Cond.privateMethod ({ cls := "MurmurDesk", name := "from", desc := "(I)I" } : Jvm.MethodName)) ∈ lw_tbl := lw_at lw_m0 34 rfl
theorem q46 : (Jvm.Cond.instanceMethod ({ cls := "MurmurDesk", name := "from", desc := "(I)I" } : Jvm.MethodName)) ∈ lw_all := lw_g (lw_at lw_m0 35 rfl) rfl
theorem q47 : (Jvm.Cond.code ({ cls := "MurmurDesk", name := "from", desc := "(I)I" } : Jvm.MethodName) prog_2_method_5_code (2 : Nat) (Option.some Jvm.ClassFile.FieldType.int)) ∈ lw_all := lw_g (lw_at lw_m0 36 rfl) rfl
theorem q48 : (Jvm.Cond.constant "MurmurDesk" (25 : Nat) (2147483647 : Int32)) ∈ lw_all := lw_g (lw_at lw_m0 37 rfl) rfl
theorem q50 : (Jvm.Cond.instanceMethod ({ cls := "MurmurDesk", name := "small", desc := "(III)I" } : Jvm.MethodName)) ∈ lw_all := lw_g (lw_at lw_m0 39 rfl) rfl
theorem q51 : (Jvm.Cond.selects "MurmurDesk" ({ cls := "MurmurDesk", name := "small", desc := "(III)I" } : Jvm.MethodName) ({ cls := "MurmurDesk", name := "small", desc := "(III)I" } : Jvm.MethodName)) ∈ lw_all := lw_g (lw_at lw_m0 40 rfl) rfl
theorem q52 : (Jvm.Cond.code ({ cls := "MurmurDesk", name := "small", desc := "(III)I" } : Jvm.MethodName) prog_2_method_8_code (6 : Nat) (Option.some Jvm.ClassFile.FieldType.int)) ∈ lw_all := lw_g (lw_at lw_m0 41 rfl) rfl
theorem q53 : (Jvm.Cond.methodLink "MurmurDesk" (30 : Nat) ({ cls := "MurmurDesk", name := "part", desc := "(II)[B" } : Jvm.MethodName)) ∈ lw_all := lw_g (lw_at lw_m0 42 rfl) rfl
theorem q54 : (Jvm.Cond.privateMethod ({ cls := "MurmurDesk", name := "part", desc := "(II)[B" } : Jvm.MethodName)) ∈ lw_tbl := lw_at lw_m0 43 rfl
theorem q55 : (Jvm.Cond.instanceMethod ({ cls := "MurmurDesk", name := "part", desc := "(II)[B" } : Jvm.MethodName)) ∈ lw_all := lw_g (lw_at lw_m0 44 rfl) rfl
theorem q56 : (Jvm.Cond.code ({ cls := "MurmurDesk", name := "part", desc := "(II)[B" } : Jvm.MethodName) prog_2_method_7_code (7 : Nat) (Option.some (Jvm.ClassFile.FieldType.array Jvm.ClassFile.FieldType.byte))) ∈ lw_all := lw_g (lw_at lw_m0 45 rfl) rfl
theorem q57 : (Jvm.Cond.methodLink "MurmurDesk" (26 : Nat) ({ cls := "MurmurDesk", name := "count", desc := "(II)I" } : Jvm.MethodName)) ∈ lw_all := lw_g (lw_at lw_m0 46 rfl) rfl
theorem q58 : (Jvm.Cond.privateMethod ({ cls := "MurmurDesk", name := "count", desc := "(II)I" } : Jvm.MethodName)) ∈ lw_tbl := lw_at lw_m0 47 rfl
theorem q59 : (Jvm.Cond.instanceMethod ({ cls := "MurmurDesk", name := "count", desc := "(II)I" } : Jvm.MethodName)) ∈ lw_all := lw_g (lw_at lw_m0 48 rfl) rfl
theorem q60 : (Jvm.Cond.code ({ cls := "MurmurDesk", name := "count", desc := "(II)I" } : Jvm.MethodName) prog_2_method_6_code (3 : Nat) (Option.some Jvm.ClassFile.FieldType.int)) ∈ lw_all := lw_g (lw_at lw_m0 49 rfl) rfl
theorem q61 : (Jvm.Cond.methodLink "MurmurDesk" (34 : Nat) ({ cls := "Murmur3", name := "hash32", desc := "([BII)I" } : Jvm.MethodName)) ∈ lw_all := lw_g (lw_at lw_m0 50 rfl) rfl
theorem q73 : (Jvm.Cond.instanceMethod ({ cls := "MurmurDesk", name := "wide", desc := "(IIII)J" } : Jvm.MethodName)) ∈ lw_all := lw_g (lw_at lw_m0 62 rfl) rfl
theorem q74 : (Jvm.Cond.selects "MurmurDesk" ({ cls := "MurmurDesk", name := "wide", desc := "(IIII)J" } : Jvm.MethodName) ({ cls := "MurmurDesk", name := "wide", desc := "(IIII)J" } : Jvm.MethodName)) ∈ lw_all := lw_g (lw_at lw_m0 63 rfl) rfl
theorem q75 : (Jvm.Cond.code ({ cls := "MurmurDesk", name := "wide", desc := "(IIII)J" } : Jvm.MethodName) prog_2_method_9_code (6 : Nat) (Option.some Jvm.ClassFile.FieldType.long)) ∈ lw_all := lw_g (lw_at lw_m0 64 rfl) rfl
theorem q76 : (Jvm.Cond.methodLink "MurmurDesk" (40 : Nat) ({ cls := "Murmur3", name := "hash128", desc := "([BIII)[J" } : Jvm.MethodName)) ∈ lw_all := lw_g (lw_at lw_m0 65 rfl) rfl
theorem in_X0 : ∀ w ∈ wsX00, w ∈ lw_all := lw_in wsX00 [27, 29] (by decide +kernel) (by decide +kernel)

/-! MurmurDeskModel -/
set_option maxRecDepth 100000
def RX1 : String := "MurmurDeskModel"
def TX1 : u_T := fun k => match k with
  | 0 => ("MurmurDeskModel", "text", "[B", true)
  | _ => ("MurmurDeskModel", "size", "I", false)
def tyX1 : Nat → FieldType := fun k => match k with
  | 0 => .array .byte
  | _ => .int
abbrev wsX10 : List Cond := u_ws RX1 TX1 2
theorem nmX1 : ∀ a, a < 2 → ∀ b, b < 2 → a ≠ b → (TX1 a).2.1 ≠ (TX1 b).2.1 := by decide +kernel
theorem tyX1_ok : ∀ k, k < 2 → parseFieldDescriptor (TX1 k).2.2.1 = some (tyX1 k) := by decide +kernel
abbrev cX1_init : ByteArray := prog_4_method_1_code
def yX1_init : MethodName := ⟨RX1, "<init>", "()V"⟩
def dkwX1_init_0 : List UInt8 := [42, 183, 0, 1, 42, 17, 1, 0, 188, 8, 181, 0, 7, 177]
abbrev dktX1_init_0 : List UInt8 := dkwX1_init_0 ++ []
theorem dksX1_init_0 : cX1_init.data.toList.drop 0 = dktX1_init_0 := by decide +kernel
theorem dX1_init_0 : decode cX1_init 0 = .ok (.aload_n 0, 1) := dk_42 (dk_at dksX1_init_0 0 rfl rfl)
theorem dX1_init_1 : decode cX1_init 1 = .ok (.invokespecial 1, 3) := dk_183 0 1 (dk_at dksX1_init_0 1 rfl rfl)
theorem dX1_init_4 : decode cX1_init 4 = .ok (.aload_n 0, 1) := dk_42 (dk_at dksX1_init_0 4 rfl rfl)
theorem dX1_init_5 : decode cX1_init 5 = .ok (.sipush 256, 3) := dk_17 1 0 (dk_at dksX1_init_0 5 rfl rfl)
theorem dX1_init_8 : decode cX1_init 8 = .ok (.newarray .byte, 2) := dk_188_8 (dk_at dksX1_init_0 8 rfl rfl)
theorem dX1_init_10 : decode cX1_init 10 = .ok (.putfield 7, 3) := dk_181 0 7 (dk_at dksX1_init_0 10 rfl rfl)
theorem dX1_init_13 : decode cX1_init 13 = .ok (.return_, 1) := dk_177 (dk_at dksX1_init_0 13 rfl rfl)
abbrev cX1_put : ByteArray := prog_4_method_2_code
def yX1_put : MethodName := ⟨RX1, "put", "(IIII)Z"⟩
def dkwX1_put_4 : List UInt8 := [96, 181, 0, 13, 132, 10, 248, 167, 255, 223, 132, 8, 1, 167, 255, 199, 4, 172]
abbrev dktX1_put_4 : List UInt8 := dkwX1_put_4 ++ []
def dkwX1_put_3 : List UInt8 := [155, 0, 34, 42, 180, 0, 7, 42, 180, 0, 13, 21, 9, 21, 10, 122, 145, 84, 42, 89, 180, 0, 13, 4]
abbrev dktX1_put_3 : List UInt8 := dkwX1_put_3 ++ dktX1_put_4
def dkwX1_put_2 : List UInt8 := [54, 8, 21, 8, 21, 7, 162, 0, 56, 25, 6, 21, 8, 46, 54, 9, 16, 24, 54, 10, 21, 10]
abbrev dktX1_put_2 : List UInt8 := dkwX1_put_2 ++ dktX1_put_3
def dkwX1_put_1 : List UInt8 := [28, 79, 89, 5, 29, 79, 89, 6, 21, 4, 79, 58, 5, 25, 5, 58, 6, 25, 6, 190, 54, 7, 3]
abbrev dktX1_put_1 : List UInt8 := dkwX1_put_1 ++ dktX1_put_2
def dkwX1_put_0 : List UInt8 := [42, 180, 0, 13, 16, 16, 96, 17, 1, 0, 164, 0, 5, 3, 172, 7, 188, 10, 89, 3, 27, 79, 89, 4]
abbrev dktX1_put_0 : List UInt8 := dkwX1_put_0 ++ dktX1_put_1
theorem dksX1_put_0 : cX1_put.data.toList.drop 0 = dktX1_put_0 := by decide +kernel
theorem dksX1_put_1 : cX1_put.data.toList.drop 24 = dktX1_put_1 := dk_seg dksX1_put_0 24 rfl rfl
theorem dksX1_put_2 : cX1_put.data.toList.drop 47 = dktX1_put_2 := dk_seg dksX1_put_1 23 rfl rfl
theorem dksX1_put_3 : cX1_put.data.toList.drop 69 = dktX1_put_3 := dk_seg dksX1_put_2 22 rfl rfl
theorem dksX1_put_4 : cX1_put.data.toList.drop 93 = dktX1_put_4 := dk_seg dksX1_put_3 24 rfl rfl
theorem dX1_put_0 : decode cX1_put 0 = .ok (.aload_n 0, 1) := dk_42 (dk_at dksX1_put_0 0 rfl rfl)
theorem dX1_put_1 : decode cX1_put 1 = .ok (.getfield 13, 3) := dk_180 0 13 (dk_at dksX1_put_0 1 rfl rfl)
theorem dX1_put_4 : decode cX1_put 4 = .ok (.bipush 16, 2) := dk_16 16 (dk_at dksX1_put_0 4 rfl rfl)
theorem dX1_put_6 : decode cX1_put 6 = .ok (.iadd, 1) := dk_96 (dk_at dksX1_put_0 6 rfl rfl)
theorem dX1_put_7 : decode cX1_put 7 = .ok (.sipush 256, 3) := dk_17 1 0 (dk_at dksX1_put_0 7 rfl rfl)
theorem dX1_put_10 : decode cX1_put 10 = .ok (.if_icmp .le 5, 3) := dk_164 0 5 (dk_at dksX1_put_0 10 rfl rfl)
theorem dX1_put_13 : decode cX1_put 13 = .ok (.iconst 0, 1) := dk_3 (dk_at dksX1_put_0 13 rfl rfl)
theorem dX1_put_14 : decode cX1_put 14 = .ok (.ireturn, 1) := dk_172 (dk_at dksX1_put_0 14 rfl rfl)
theorem dX1_put_15 : decode cX1_put 15 = .ok (.iconst 4, 1) := dk_7 (dk_at dksX1_put_0 15 rfl rfl)
theorem dX1_put_16 : decode cX1_put 16 = .ok (.newarray .int, 2) := dk_188_10 (dk_at dksX1_put_0 16 rfl rfl)
theorem dX1_put_18 : decode cX1_put 18 = .ok (.dup, 1) := dk_89 (dk_at dksX1_put_0 18 rfl rfl)
theorem dX1_put_19 : decode cX1_put 19 = .ok (.iconst 0, 1) := dk_3 (dk_at dksX1_put_0 19 rfl rfl)
theorem dX1_put_20 : decode cX1_put 20 = .ok (.iload_n 1, 1) := dk_27 (dk_at dksX1_put_0 20 rfl rfl)
theorem dX1_put_21 : decode cX1_put 21 = .ok (.iastore, 1) := dk_79 (dk_at dksX1_put_0 21 rfl rfl)
theorem dX1_put_22 : decode cX1_put 22 = .ok (.dup, 1) := dk_89 (dk_at dksX1_put_0 22 rfl rfl)
theorem dX1_put_23 : decode cX1_put 23 = .ok (.iconst 1, 1) := dk_4 (dk_at dksX1_put_0 23 rfl rfl)
theorem dX1_put_24 : decode cX1_put 24 = .ok (.iload_n 2, 1) := dk_28 (dk_at dksX1_put_1 0 rfl rfl)
theorem dX1_put_25 : decode cX1_put 25 = .ok (.iastore, 1) := dk_79 (dk_at dksX1_put_1 1 rfl rfl)
theorem dX1_put_26 : decode cX1_put 26 = .ok (.dup, 1) := dk_89 (dk_at dksX1_put_1 2 rfl rfl)
theorem dX1_put_27 : decode cX1_put 27 = .ok (.iconst 2, 1) := dk_5 (dk_at dksX1_put_1 3 rfl rfl)
theorem dX1_put_28 : decode cX1_put 28 = .ok (.iload_n 3, 1) := dk_29 (dk_at dksX1_put_1 4 rfl rfl)
theorem dX1_put_29 : decode cX1_put 29 = .ok (.iastore, 1) := dk_79 (dk_at dksX1_put_1 5 rfl rfl)
theorem dX1_put_30 : decode cX1_put 30 = .ok (.dup, 1) := dk_89 (dk_at dksX1_put_1 6 rfl rfl)
theorem dX1_put_31 : decode cX1_put 31 = .ok (.iconst 3, 1) := dk_6 (dk_at dksX1_put_1 7 rfl rfl)
theorem dX1_put_32 : decode cX1_put 32 = .ok (.iload 4, 2) := dk_21 4 (dk_at dksX1_put_1 8 rfl rfl)
theorem dX1_put_34 : decode cX1_put 34 = .ok (.iastore, 1) := dk_79 (dk_at dksX1_put_1 10 rfl rfl)
theorem dX1_put_35 : decode cX1_put 35 = .ok (.astore 5, 2) := dk_58 5 (dk_at dksX1_put_1 11 rfl rfl)
theorem dX1_put_37 : decode cX1_put 37 = .ok (.aload 5, 2) := dk_25 5 (dk_at dksX1_put_1 13 rfl rfl)
theorem dX1_put_39 : decode cX1_put 39 = .ok (.astore 6, 2) := dk_58 6 (dk_at dksX1_put_1 15 rfl rfl)
theorem dX1_put_41 : decode cX1_put 41 = .ok (.aload 6, 2) := dk_25 6 (dk_at dksX1_put_1 17 rfl rfl)
theorem dX1_put_43 : decode cX1_put 43 = .ok (.arraylength, 1) := dk_190 (dk_at dksX1_put_1 19 rfl rfl)
theorem dX1_put_44 : decode cX1_put 44 = .ok (.istore 7, 2) := dk_54 7 (dk_at dksX1_put_1 20 rfl rfl)
theorem dX1_put_46 : decode cX1_put 46 = .ok (.iconst 0, 1) := dk_3 (dk_at dksX1_put_1 22 rfl rfl)
theorem dX1_put_47 : decode cX1_put 47 = .ok (.istore 8, 2) := dk_54 8 (dk_at dksX1_put_2 0 rfl rfl)
theorem dX1_put_49 : decode cX1_put 49 = .ok (.iload 8, 2) := dk_21 8 (dk_at dksX1_put_2 2 rfl rfl)
theorem dX1_put_51 : decode cX1_put 51 = .ok (.iload 7, 2) := dk_21 7 (dk_at dksX1_put_2 4 rfl rfl)
theorem dX1_put_53 : decode cX1_put 53 = .ok (.if_icmp .ge 56, 3) := dk_162 0 56 (dk_at dksX1_put_2 6 rfl rfl)
theorem dX1_put_56 : decode cX1_put 56 = .ok (.aload 6, 2) := dk_25 6 (dk_at dksX1_put_2 9 rfl rfl)
theorem dX1_put_58 : decode cX1_put 58 = .ok (.iload 8, 2) := dk_21 8 (dk_at dksX1_put_2 11 rfl rfl)
theorem dX1_put_60 : decode cX1_put 60 = .ok (.iaload, 1) := dk_46 (dk_at dksX1_put_2 13 rfl rfl)
theorem dX1_put_61 : decode cX1_put 61 = .ok (.istore 9, 2) := dk_54 9 (dk_at dksX1_put_2 14 rfl rfl)
theorem dX1_put_63 : decode cX1_put 63 = .ok (.bipush 24, 2) := dk_16 24 (dk_at dksX1_put_2 16 rfl rfl)
theorem dX1_put_65 : decode cX1_put 65 = .ok (.istore 10, 2) := dk_54 10 (dk_at dksX1_put_2 18 rfl rfl)
theorem dX1_put_67 : decode cX1_put 67 = .ok (.iload 10, 2) := dk_21 10 (dk_at dksX1_put_2 20 rfl rfl)
theorem dX1_put_69 : decode cX1_put 69 = .ok (.ifCond .lt 34, 3) := dk_155 0 34 (dk_at dksX1_put_3 0 rfl rfl)
theorem dX1_put_72 : decode cX1_put 72 = .ok (.aload_n 0, 1) := dk_42 (dk_at dksX1_put_3 3 rfl rfl)
theorem dX1_put_73 : decode cX1_put 73 = .ok (.getfield 7, 3) := dk_180 0 7 (dk_at dksX1_put_3 4 rfl rfl)
theorem dX1_put_76 : decode cX1_put 76 = .ok (.aload_n 0, 1) := dk_42 (dk_at dksX1_put_3 7 rfl rfl)
theorem dX1_put_77 : decode cX1_put 77 = .ok (.getfield 13, 3) := dk_180 0 13 (dk_at dksX1_put_3 8 rfl rfl)
theorem dX1_put_80 : decode cX1_put 80 = .ok (.iload 9, 2) := dk_21 9 (dk_at dksX1_put_3 11 rfl rfl)
theorem dX1_put_82 : decode cX1_put 82 = .ok (.iload 10, 2) := dk_21 10 (dk_at dksX1_put_3 13 rfl rfl)
theorem dX1_put_84 : decode cX1_put 84 = .ok (.ishr, 1) := dk_122 (dk_at dksX1_put_3 15 rfl rfl)
theorem dX1_put_85 : decode cX1_put 85 = .ok (.i2b, 1) := dk_145 (dk_at dksX1_put_3 16 rfl rfl)
theorem dX1_put_86 : decode cX1_put 86 = .ok (.bastore, 1) := dk_84 (dk_at dksX1_put_3 17 rfl rfl)
theorem dX1_put_87 : decode cX1_put 87 = .ok (.aload_n 0, 1) := dk_42 (dk_at dksX1_put_3 18 rfl rfl)
theorem dX1_put_88 : decode cX1_put 88 = .ok (.dup, 1) := dk_89 (dk_at dksX1_put_3 19 rfl rfl)
theorem dX1_put_89 : decode cX1_put 89 = .ok (.getfield 13, 3) := dk_180 0 13 (dk_at dksX1_put_3 20 rfl rfl)
theorem dX1_put_92 : decode cX1_put 92 = .ok (.iconst 1, 1) := dk_4 (dk_at dksX1_put_3 23 rfl rfl)
theorem dX1_put_93 : decode cX1_put 93 = .ok (.iadd, 1) := dk_96 (dk_at dksX1_put_4 0 rfl rfl)
theorem dX1_put_94 : decode cX1_put 94 = .ok (.putfield 13, 3) := dk_181 0 13 (dk_at dksX1_put_4 1 rfl rfl)
theorem dX1_put_97 : decode cX1_put 97 = .ok (.iinc 10 (-8), 3) := dk_132 10 248 (dk_at dksX1_put_4 4 rfl rfl)
theorem dX1_put_100 : decode cX1_put 100 = .ok (.goto (-33), 3) := dk_167 255 223 (dk_at dksX1_put_4 7 rfl rfl)
theorem dX1_put_103 : decode cX1_put 103 = .ok (.iinc 8 1, 3) := dk_132 8 1 (dk_at dksX1_put_4 10 rfl rfl)
theorem dX1_put_106 : decode cX1_put 106 = .ok (.goto (-57), 3) := dk_167 255 199 (dk_at dksX1_put_4 13 rfl rfl)
theorem dX1_put_109 : decode cX1_put 109 = .ok (.iconst 1, 1) := dk_4 (dk_at dksX1_put_4 16 rfl rfl)
theorem dX1_put_110 : decode cX1_put 110 = .ok (.ireturn, 1) := dk_172 (dk_at dksX1_put_4 17 rfl rfl)
abbrev cX1_trim : ByteArray := prog_4_method_3_code
def yX1_trim : MethodName := ⟨RX1, "trim", "(I)V"⟩
def dkwX1_trim_0 : List UInt8 := [42, 42, 27, 182, 0, 17, 181, 0, 13, 177]
abbrev dktX1_trim_0 : List UInt8 := dkwX1_trim_0 ++ []
theorem dksX1_trim_0 : cX1_trim.data.toList.drop 0 = dktX1_trim_0 := by decide +kernel
theorem dX1_trim_0 : decode cX1_trim 0 = .ok (.aload_n 0, 1) := dk_42 (dk_at dksX1_trim_0 0 rfl rfl)
theorem dX1_trim_1 : decode cX1_trim 1 = .ok (.aload_n 0, 1) := dk_42 (dk_at dksX1_trim_0 1 rfl rfl)
theorem dX1_trim_2 : decode cX1_trim 2 = .ok (.iload_n 1, 1) := dk_27 (dk_at dksX1_trim_0 2 rfl rfl)
theorem dX1_trim_3 : decode cX1_trim 3 = .ok (.invokevirtual 17, 3) := dk_182 0 17 (dk_at dksX1_trim_0 3 rfl rfl)
theorem dX1_trim_6 : decode cX1_trim 6 = .ok (.putfield 13, 3) := dk_181 0 13 (dk_at dksX1_trim_0 6 rfl rfl)
theorem dX1_trim_9 : decode cX1_trim 9 = .ok (.return_, 1) := dk_177 (dk_at dksX1_trim_0 9 rfl rfl)
abbrev cX1_place : ByteArray := prog_4_method_4_code
def yX1_place : MethodName := ⟨RX1, "place", "(I)I"⟩
def dkwX1_place_0 : List UInt8 := [27, 18, 21, 126, 42, 180, 0, 13, 4, 96, 112, 172]
abbrev dktX1_place_0 : List UInt8 := dkwX1_place_0 ++ []
theorem dksX1_place_0 : cX1_place.data.toList.drop 0 = dktX1_place_0 := by decide +kernel
theorem dX1_place_0 : decode cX1_place 0 = .ok (.iload_n 1, 1) := dk_27 (dk_at dksX1_place_0 0 rfl rfl)
theorem dX1_place_1 : decode cX1_place 1 = .ok (.ldc 21, 2) := dk_18 21 (dk_at dksX1_place_0 1 rfl rfl)
theorem dX1_place_3 : decode cX1_place 3 = .ok (.iand, 1) := dk_126 (dk_at dksX1_place_0 3 rfl rfl)
theorem dX1_place_4 : decode cX1_place 4 = .ok (.aload_n 0, 1) := dk_42 (dk_at dksX1_place_0 4 rfl rfl)
theorem dX1_place_5 : decode cX1_place 5 = .ok (.getfield 13, 3) := dk_180 0 13 (dk_at dksX1_place_0 5 rfl rfl)
theorem dX1_place_8 : decode cX1_place 8 = .ok (.iconst 1, 1) := dk_4 (dk_at dksX1_place_0 8 rfl rfl)
theorem dX1_place_9 : decode cX1_place 9 = .ok (.iadd, 1) := dk_96 (dk_at dksX1_place_0 9 rfl rfl)
theorem dX1_place_10 : decode cX1_place 10 = .ok (.irem, 1) := dk_112 (dk_at dksX1_place_0 10 rfl rfl)
theorem dX1_place_11 : decode cX1_place 11 = .ok (.ireturn, 1) := dk_172 (dk_at dksX1_place_0 11 rfl rfl)
abbrev cX1_small : ByteArray := prog_4_method_9_code
def yX1_small : MethodName := ⟨RX1, "small", "(III)I"⟩
def dkwX1_small_7 : List UInt8 := [54, 7, 21, 7, 21, 7, 16, 16, 124, 130, 54, 7, 21, 7, 172]
abbrev dktX1_small_7 : List UInt8 := dkwX1_small_7 ++ []
def dkwX1_small_6 : List UInt8 := [54, 7, 21, 7, 18, 36, 104, 54, 7, 21, 7, 21, 7, 16, 13, 124, 130, 54, 7, 21, 7, 18, 37, 104]
abbrev dktX1_small_6 : List UInt8 := dkwX1_small_6 ++ dktX1_small_7
def dkwX1_small_5 : List UInt8 := [132, 8, 1, 167, 255, 181, 21, 7, 7, 21, 6, 104, 130, 54, 7, 21, 7, 21, 7, 16, 16, 124, 130]
abbrev dktX1_small_5 : List UInt8 := dkwX1_small_5 ++ dktX1_small_6
def dkwX1_small_4 : List UInt8 := [21, 9, 130, 54, 7, 42, 21, 7, 16, 13, 182, 0, 31, 54, 7, 21, 7, 8, 104, 18, 35, 96, 54, 7]
abbrev dktX1_small_4 : List UInt8 := dkwX1_small_4 ++ dktX1_small_5
def dkwX1_small_3 : List UInt8 := [18, 30, 104, 54, 9, 42, 21, 9, 16, 15, 182, 0, 31, 54, 9, 21, 9, 18, 34, 104, 54, 9, 21, 7]
abbrev dktX1_small_3 : List UInt8 := dkwX1_small_3 ++ dktX1_small_4
def dkwX1_small_2 : List UInt8 := [21, 8, 21, 6, 162, 0, 74, 42, 21, 4, 7, 21, 8, 104, 96, 7, 182, 0, 26, 136, 54, 9, 21, 9]
abbrev dktX1_small_2 : List UInt8 := dkwX1_small_2 ++ dktX1_small_3
def dkwX1_small_1 : List UInt8 := [154, 0, 7, 3, 167, 0, 12, 28, 18, 21, 126, 21, 5, 4, 96, 112, 54, 6, 29, 54, 7, 3, 54, 8]
abbrev dktX1_small_1 : List UInt8 := dkwX1_small_1 ++ dktX1_small_2
def dkwX1_small_0 : List UInt8 := [42, 27, 182, 0, 17, 54, 4, 42, 21, 4, 42, 180, 0, 13, 182, 0, 22, 7, 108, 54, 5, 21, 5]
abbrev dktX1_small_0 : List UInt8 := dkwX1_small_0 ++ dktX1_small_1
theorem dksX1_small_0 : cX1_small.data.toList.drop 0 = dktX1_small_0 := by decide +kernel
theorem dksX1_small_1 : cX1_small.data.toList.drop 23 = dktX1_small_1 := dk_seg dksX1_small_0 23 rfl rfl
theorem dksX1_small_2 : cX1_small.data.toList.drop 47 = dktX1_small_2 := dk_seg dksX1_small_1 24 rfl rfl
theorem dksX1_small_3 : cX1_small.data.toList.drop 71 = dktX1_small_3 := dk_seg dksX1_small_2 24 rfl rfl
theorem dksX1_small_4 : cX1_small.data.toList.drop 95 = dktX1_small_4 := dk_seg dksX1_small_3 24 rfl rfl
theorem dksX1_small_5 : cX1_small.data.toList.drop 119 = dktX1_small_5 := dk_seg dksX1_small_4 24 rfl rfl
theorem dksX1_small_6 : cX1_small.data.toList.drop 142 = dktX1_small_6 := dk_seg dksX1_small_5 23 rfl rfl
theorem dksX1_small_7 : cX1_small.data.toList.drop 166 = dktX1_small_7 := dk_seg dksX1_small_6 24 rfl rfl
theorem dX1_small_0 : decode cX1_small 0 = .ok (.aload_n 0, 1) := dk_42 (dk_at dksX1_small_0 0 rfl rfl)
theorem dX1_small_1 : decode cX1_small 1 = .ok (.iload_n 1, 1) := dk_27 (dk_at dksX1_small_0 1 rfl rfl)
theorem dX1_small_2 : decode cX1_small 2 = .ok (.invokevirtual 17, 3) := dk_182 0 17 (dk_at dksX1_small_0 2 rfl rfl)
theorem dX1_small_5 : decode cX1_small 5 = .ok (.istore 4, 2) := dk_54 4 (dk_at dksX1_small_0 5 rfl rfl)
theorem dX1_small_7 : decode cX1_small 7 = .ok (.aload_n 0, 1) := dk_42 (dk_at dksX1_small_0 7 rfl rfl)
theorem dX1_small_8 : decode cX1_small 8 = .ok (.iload 4, 2) := dk_21 4 (dk_at dksX1_small_0 8 rfl rfl)
theorem dX1_small_10 : decode cX1_small 10 = .ok (.aload_n 0, 1) := dk_42 (dk_at dksX1_small_0 10 rfl rfl)
theorem dX1_small_11 : decode cX1_small 11 = .ok (.getfield 13, 3) := dk_180 0 13 (dk_at dksX1_small_0 11 rfl rfl)
theorem dX1_small_14 : decode cX1_small 14 = .ok (.invokevirtual 22, 3) := dk_182 0 22 (dk_at dksX1_small_0 14 rfl rfl)
theorem dX1_small_17 : decode cX1_small 17 = .ok (.iconst 4, 1) := dk_7 (dk_at dksX1_small_0 17 rfl rfl)
theorem dX1_small_18 : decode cX1_small 18 = .ok (.idiv, 1) := dk_108 (dk_at dksX1_small_0 18 rfl rfl)
theorem dX1_small_19 : decode cX1_small 19 = .ok (.istore 5, 2) := dk_54 5 (dk_at dksX1_small_0 19 rfl rfl)
theorem dX1_small_21 : decode cX1_small 21 = .ok (.iload 5, 2) := dk_21 5 (dk_at dksX1_small_0 21 rfl rfl)
theorem dX1_small_23 : decode cX1_small 23 = .ok (.ifCond .ne 7, 3) := dk_154 0 7 (dk_at dksX1_small_1 0 rfl rfl)
theorem dX1_small_26 : decode cX1_small 26 = .ok (.iconst 0, 1) := dk_3 (dk_at dksX1_small_1 3 rfl rfl)
theorem dX1_small_27 : decode cX1_small 27 = .ok (.goto 12, 3) := dk_167 0 12 (dk_at dksX1_small_1 4 rfl rfl)
theorem dX1_small_30 : decode cX1_small 30 = .ok (.iload_n 2, 1) := dk_28 (dk_at dksX1_small_1 7 rfl rfl)
theorem dX1_small_31 : decode cX1_small 31 = .ok (.ldc 21, 2) := dk_18 21 (dk_at dksX1_small_1 8 rfl rfl)
theorem dX1_small_33 : decode cX1_small 33 = .ok (.iand, 1) := dk_126 (dk_at dksX1_small_1 10 rfl rfl)
theorem dX1_small_34 : decode cX1_small 34 = .ok (.iload 5, 2) := dk_21 5 (dk_at dksX1_small_1 11 rfl rfl)
theorem dX1_small_36 : decode cX1_small 36 = .ok (.iconst 1, 1) := dk_4 (dk_at dksX1_small_1 13 rfl rfl)
theorem dX1_small_37 : decode cX1_small 37 = .ok (.iadd, 1) := dk_96 (dk_at dksX1_small_1 14 rfl rfl)
theorem dX1_small_38 : decode cX1_small 38 = .ok (.irem, 1) := dk_112 (dk_at dksX1_small_1 15 rfl rfl)
theorem dX1_small_39 : decode cX1_small 39 = .ok (.istore 6, 2) := dk_54 6 (dk_at dksX1_small_1 16 rfl rfl)
theorem dX1_small_41 : decode cX1_small 41 = .ok (.iload_n 3, 1) := dk_29 (dk_at dksX1_small_1 18 rfl rfl)
theorem dX1_small_42 : decode cX1_small 42 = .ok (.istore 7, 2) := dk_54 7 (dk_at dksX1_small_1 19 rfl rfl)
theorem dX1_small_44 : decode cX1_small 44 = .ok (.iconst 0, 1) := dk_3 (dk_at dksX1_small_1 21 rfl rfl)
theorem dX1_small_45 : decode cX1_small 45 = .ok (.istore 8, 2) := dk_54 8 (dk_at dksX1_small_1 22 rfl rfl)
theorem dX1_small_47 : decode cX1_small 47 = .ok (.iload 8, 2) := dk_21 8 (dk_at dksX1_small_2 0 rfl rfl)
theorem dX1_small_49 : decode cX1_small 49 = .ok (.iload 6, 2) := dk_21 6 (dk_at dksX1_small_2 2 rfl rfl)
theorem dX1_small_51 : decode cX1_small 51 = .ok (.if_icmp .ge 74, 3) := dk_162 0 74 (dk_at dksX1_small_2 4 rfl rfl)
theorem dX1_small_54 : decode cX1_small 54 = .ok (.aload_n 0, 1) := dk_42 (dk_at dksX1_small_2 7 rfl rfl)
theorem dX1_small_55 : decode cX1_small 55 = .ok (.iload 4, 2) := dk_21 4 (dk_at dksX1_small_2 8 rfl rfl)
theorem dX1_small_57 : decode cX1_small 57 = .ok (.iconst 4, 1) := dk_7 (dk_at dksX1_small_2 10 rfl rfl)
theorem dX1_small_58 : decode cX1_small 58 = .ok (.iload 8, 2) := dk_21 8 (dk_at dksX1_small_2 11 rfl rfl)
theorem dX1_small_60 : decode cX1_small 60 = .ok (.imul, 1) := dk_104 (dk_at dksX1_small_2 13 rfl rfl)
theorem dX1_small_61 : decode cX1_small 61 = .ok (.iadd, 1) := dk_96 (dk_at dksX1_small_2 14 rfl rfl)
theorem dX1_small_62 : decode cX1_small 62 = .ok (.iconst 4, 1) := dk_7 (dk_at dksX1_small_2 15 rfl rfl)
theorem dX1_small_63 : decode cX1_small 63 = .ok (.invokevirtual 26, 3) := dk_182 0 26 (dk_at dksX1_small_2 16 rfl rfl)
theorem dX1_small_66 : decode cX1_small 66 = .ok (.l2i, 1) := dk_136 (dk_at dksX1_small_2 19 rfl rfl)
theorem dX1_small_67 : decode cX1_small 67 = .ok (.istore 9, 2) := dk_54 9 (dk_at dksX1_small_2 20 rfl rfl)
theorem dX1_small_69 : decode cX1_small 69 = .ok (.iload 9, 2) := dk_21 9 (dk_at dksX1_small_2 22 rfl rfl)
theorem dX1_small_71 : decode cX1_small 71 = .ok (.ldc 30, 2) := dk_18 30 (dk_at dksX1_small_3 0 rfl rfl)
theorem dX1_small_73 : decode cX1_small 73 = .ok (.imul, 1) := dk_104 (dk_at dksX1_small_3 2 rfl rfl)
theorem dX1_small_74 : decode cX1_small 74 = .ok (.istore 9, 2) := dk_54 9 (dk_at dksX1_small_3 3 rfl rfl)
theorem dX1_small_76 : decode cX1_small 76 = .ok (.aload_n 0, 1) := dk_42 (dk_at dksX1_small_3 5 rfl rfl)
theorem dX1_small_77 : decode cX1_small 77 = .ok (.iload 9, 2) := dk_21 9 (dk_at dksX1_small_3 6 rfl rfl)
theorem dX1_small_79 : decode cX1_small 79 = .ok (.bipush 15, 2) := dk_16 15 (dk_at dksX1_small_3 8 rfl rfl)
theorem dX1_small_81 : decode cX1_small 81 = .ok (.invokevirtual 31, 3) := dk_182 0 31 (dk_at dksX1_small_3 10 rfl rfl)
theorem dX1_small_84 : decode cX1_small 84 = .ok (.istore 9, 2) := dk_54 9 (dk_at dksX1_small_3 13 rfl rfl)
theorem dX1_small_86 : decode cX1_small 86 = .ok (.iload 9, 2) := dk_21 9 (dk_at dksX1_small_3 15 rfl rfl)
theorem dX1_small_88 : decode cX1_small 88 = .ok (.ldc 34, 2) := dk_18 34 (dk_at dksX1_small_3 17 rfl rfl)
theorem dX1_small_90 : decode cX1_small 90 = .ok (.imul, 1) := dk_104 (dk_at dksX1_small_3 19 rfl rfl)
theorem dX1_small_91 : decode cX1_small 91 = .ok (.istore 9, 2) := dk_54 9 (dk_at dksX1_small_3 20 rfl rfl)
theorem dX1_small_93 : decode cX1_small 93 = .ok (.iload 7, 2) := dk_21 7 (dk_at dksX1_small_3 22 rfl rfl)
theorem dX1_small_95 : decode cX1_small 95 = .ok (.iload 9, 2) := dk_21 9 (dk_at dksX1_small_4 0 rfl rfl)
theorem dX1_small_97 : decode cX1_small 97 = .ok (.ixor, 1) := dk_130 (dk_at dksX1_small_4 2 rfl rfl)
theorem dX1_small_98 : decode cX1_small 98 = .ok (.istore 7, 2) := dk_54 7 (dk_at dksX1_small_4 3 rfl rfl)
theorem dX1_small_100 : decode cX1_small 100 = .ok (.aload_n 0, 1) := dk_42 (dk_at dksX1_small_4 5 rfl rfl)
theorem dX1_small_101 : decode cX1_small 101 = .ok (.iload 7, 2) := dk_21 7 (dk_at dksX1_small_4 6 rfl rfl)
theorem dX1_small_103 : decode cX1_small 103 = .ok (.bipush 13, 2) := dk_16 13 (dk_at dksX1_small_4 8 rfl rfl)
theorem dX1_small_105 : decode cX1_small 105 = .ok (.invokevirtual 31, 3) := dk_182 0 31 (dk_at dksX1_small_4 10 rfl rfl)
theorem dX1_small_108 : decode cX1_small 108 = .ok (.istore 7, 2) := dk_54 7 (dk_at dksX1_small_4 13 rfl rfl)
theorem dX1_small_110 : decode cX1_small 110 = .ok (.iload 7, 2) := dk_21 7 (dk_at dksX1_small_4 15 rfl rfl)
theorem dX1_small_112 : decode cX1_small 112 = .ok (.iconst 5, 1) := dk_8 (dk_at dksX1_small_4 17 rfl rfl)
theorem dX1_small_113 : decode cX1_small 113 = .ok (.imul, 1) := dk_104 (dk_at dksX1_small_4 18 rfl rfl)
theorem dX1_small_114 : decode cX1_small 114 = .ok (.ldc 35, 2) := dk_18 35 (dk_at dksX1_small_4 19 rfl rfl)
theorem dX1_small_116 : decode cX1_small 116 = .ok (.iadd, 1) := dk_96 (dk_at dksX1_small_4 21 rfl rfl)
theorem dX1_small_117 : decode cX1_small 117 = .ok (.istore 7, 2) := dk_54 7 (dk_at dksX1_small_4 22 rfl rfl)
theorem dX1_small_119 : decode cX1_small 119 = .ok (.iinc 8 1, 3) := dk_132 8 1 (dk_at dksX1_small_5 0 rfl rfl)
theorem dX1_small_122 : decode cX1_small 122 = .ok (.goto (-75), 3) := dk_167 255 181 (dk_at dksX1_small_5 3 rfl rfl)
theorem dX1_small_125 : decode cX1_small 125 = .ok (.iload 7, 2) := dk_21 7 (dk_at dksX1_small_5 6 rfl rfl)
theorem dX1_small_127 : decode cX1_small 127 = .ok (.iconst 4, 1) := dk_7 (dk_at dksX1_small_5 8 rfl rfl)
theorem dX1_small_128 : decode cX1_small 128 = .ok (.iload 6, 2) := dk_21 6 (dk_at dksX1_small_5 9 rfl rfl)
theorem dX1_small_130 : decode cX1_small 130 = .ok (.imul, 1) := dk_104 (dk_at dksX1_small_5 11 rfl rfl)
theorem dX1_small_131 : decode cX1_small 131 = .ok (.ixor, 1) := dk_130 (dk_at dksX1_small_5 12 rfl rfl)
theorem dX1_small_132 : decode cX1_small 132 = .ok (.istore 7, 2) := dk_54 7 (dk_at dksX1_small_5 13 rfl rfl)
theorem dX1_small_134 : decode cX1_small 134 = .ok (.iload 7, 2) := dk_21 7 (dk_at dksX1_small_5 15 rfl rfl)
theorem dX1_small_136 : decode cX1_small 136 = .ok (.iload 7, 2) := dk_21 7 (dk_at dksX1_small_5 17 rfl rfl)
theorem dX1_small_138 : decode cX1_small 138 = .ok (.bipush 16, 2) := dk_16 16 (dk_at dksX1_small_5 19 rfl rfl)
theorem dX1_small_140 : decode cX1_small 140 = .ok (.iushr, 1) := dk_124 (dk_at dksX1_small_5 21 rfl rfl)
theorem dX1_small_141 : decode cX1_small 141 = .ok (.ixor, 1) := dk_130 (dk_at dksX1_small_5 22 rfl rfl)
theorem dX1_small_142 : decode cX1_small 142 = .ok (.istore 7, 2) := dk_54 7 (dk_at dksX1_small_6 0 rfl rfl)
theorem dX1_small_144 : decode cX1_small 144 = .ok (.iload 7, 2) := dk_21 7 (dk_at dksX1_small_6 2 rfl rfl)
theorem dX1_small_146 : decode cX1_small 146 = .ok (.ldc 36, 2) := dk_18 36 (dk_at dksX1_small_6 4 rfl rfl)
theorem dX1_small_148 : decode cX1_small 148 = .ok (.imul, 1) := dk_104 (dk_at dksX1_small_6 6 rfl rfl)
theorem dX1_small_149 : decode cX1_small 149 = .ok (.istore 7, 2) := dk_54 7 (dk_at dksX1_small_6 7 rfl rfl)
theorem dX1_small_151 : decode cX1_small 151 = .ok (.iload 7, 2) := dk_21 7 (dk_at dksX1_small_6 9 rfl rfl)
theorem dX1_small_153 : decode cX1_small 153 = .ok (.iload 7, 2) := dk_21 7 (dk_at dksX1_small_6 11 rfl rfl)
theorem dX1_small_155 : decode cX1_small 155 = .ok (.bipush 13, 2) := dk_16 13 (dk_at dksX1_small_6 13 rfl rfl)
theorem dX1_small_157 : decode cX1_small 157 = .ok (.iushr, 1) := dk_124 (dk_at dksX1_small_6 15 rfl rfl)
theorem dX1_small_158 : decode cX1_small 158 = .ok (.ixor, 1) := dk_130 (dk_at dksX1_small_6 16 rfl rfl)
theorem dX1_small_159 : decode cX1_small 159 = .ok (.istore 7, 2) := dk_54 7 (dk_at dksX1_small_6 17 rfl rfl)
theorem dX1_small_161 : decode cX1_small 161 = .ok (.iload 7, 2) := dk_21 7 (dk_at dksX1_small_6 19 rfl rfl)
theorem dX1_small_163 : decode cX1_small 163 = .ok (.ldc 37, 2) := dk_18 37 (dk_at dksX1_small_6 21 rfl rfl)
theorem dX1_small_165 : decode cX1_small 165 = .ok (.imul, 1) := dk_104 (dk_at dksX1_small_6 23 rfl rfl)
theorem dX1_small_166 : decode cX1_small 166 = .ok (.istore 7, 2) := dk_54 7 (dk_at dksX1_small_7 0 rfl rfl)
theorem dX1_small_168 : decode cX1_small 168 = .ok (.iload 7, 2) := dk_21 7 (dk_at dksX1_small_7 2 rfl rfl)
theorem dX1_small_170 : decode cX1_small 170 = .ok (.iload 7, 2) := dk_21 7 (dk_at dksX1_small_7 4 rfl rfl)
theorem dX1_small_172 : decode cX1_small 172 = .ok (.bipush 16, 2) := dk_16 16 (dk_at dksX1_small_7 6 rfl rfl)
theorem dX1_small_174 : decode cX1_small 174 = .ok (.iushr, 1) := dk_124 (dk_at dksX1_small_7 8 rfl rfl)
theorem dX1_small_175 : decode cX1_small 175 = .ok (.ixor, 1) := dk_130 (dk_at dksX1_small_7 9 rfl rfl)
theorem dX1_small_176 : decode cX1_small 176 = .ok (.istore 7, 2) := dk_54 7 (dk_at dksX1_small_7 10 rfl rfl)
theorem dX1_small_178 : decode cX1_small 178 = .ok (.iload 7, 2) := dk_21 7 (dk_at dksX1_small_7 12 rfl rfl)
theorem dX1_small_180 : decode cX1_small 180 = .ok (.ireturn, 1) := dk_172 (dk_at dksX1_small_7 14 rfl rfl)
abbrev cX1_many : ByteArray := prog_4_method_5_code
def yX1_many : MethodName := ⟨RX1, "many", "(II)I"⟩
def dkwX1_many_0 : List UInt8 := [28, 18, 21, 126, 42, 180, 0, 13, 27, 100, 4, 96, 112, 172]
abbrev dktX1_many_0 : List UInt8 := dkwX1_many_0 ++ []
theorem dksX1_many_0 : cX1_many.data.toList.drop 0 = dktX1_many_0 := by decide +kernel
theorem dX1_many_0 : decode cX1_many 0 = .ok (.iload_n 2, 1) := dk_28 (dk_at dksX1_many_0 0 rfl rfl)
theorem dX1_many_1 : decode cX1_many 1 = .ok (.ldc 21, 2) := dk_18 21 (dk_at dksX1_many_0 1 rfl rfl)
theorem dX1_many_3 : decode cX1_many 3 = .ok (.iand, 1) := dk_126 (dk_at dksX1_many_0 3 rfl rfl)
theorem dX1_many_4 : decode cX1_many 4 = .ok (.aload_n 0, 1) := dk_42 (dk_at dksX1_many_0 4 rfl rfl)
theorem dX1_many_5 : decode cX1_many 5 = .ok (.getfield 13, 3) := dk_180 0 13 (dk_at dksX1_many_0 5 rfl rfl)
theorem dX1_many_8 : decode cX1_many 8 = .ok (.iload_n 1, 1) := dk_27 (dk_at dksX1_many_0 8 rfl rfl)
theorem dX1_many_9 : decode cX1_many 9 = .ok (.isub, 1) := dk_100 (dk_at dksX1_many_0 9 rfl rfl)
theorem dX1_many_10 : decode cX1_many 10 = .ok (.iconst 1, 1) := dk_4 (dk_at dksX1_many_0 10 rfl rfl)
theorem dX1_many_11 : decode cX1_many 11 = .ok (.iadd, 1) := dk_96 (dk_at dksX1_many_0 11 rfl rfl)
theorem dX1_many_12 : decode cX1_many 12 = .ok (.irem, 1) := dk_112 (dk_at dksX1_many_0 12 rfl rfl)
theorem dX1_many_13 : decode cX1_many 13 = .ok (.ireturn, 1) := dk_172 (dk_at dksX1_many_0 13 rfl rfl)
abbrev cX1_number : ByteArray := prog_4_method_8_code
def yX1_number : MethodName := ⟨RX1, "number", "(II)J"⟩
def dkwX1_number_1 : List UInt8 := [51, 17, 0, 255, 126, 133, 129, 66, 132, 5, 255, 167, 255, 228, 33, 173]
abbrev dktX1_number_1 : List UInt8 := dkwX1_number_1 ++ []
def dkwX1_number_0 : List UInt8 := [9, 66, 28, 4, 100, 54, 5, 21, 5, 155, 0, 29, 33, 16, 8, 121, 42, 180, 0, 7, 27, 21, 5, 96]
abbrev dktX1_number_0 : List UInt8 := dkwX1_number_0 ++ dktX1_number_1
theorem dksX1_number_0 : cX1_number.data.toList.drop 0 = dktX1_number_0 := by decide +kernel
theorem dksX1_number_1 : cX1_number.data.toList.drop 24 = dktX1_number_1 := dk_seg dksX1_number_0 24 rfl rfl
theorem dX1_number_0 : decode cX1_number 0 = .ok (.lconst 0, 1) := dk_9 (dk_at dksX1_number_0 0 rfl rfl)
theorem dX1_number_1 : decode cX1_number 1 = .ok (.lstore_n 3, 1) := dk_66 (dk_at dksX1_number_0 1 rfl rfl)
theorem dX1_number_2 : decode cX1_number 2 = .ok (.iload_n 2, 1) := dk_28 (dk_at dksX1_number_0 2 rfl rfl)
theorem dX1_number_3 : decode cX1_number 3 = .ok (.iconst 1, 1) := dk_4 (dk_at dksX1_number_0 3 rfl rfl)
theorem dX1_number_4 : decode cX1_number 4 = .ok (.isub, 1) := dk_100 (dk_at dksX1_number_0 4 rfl rfl)
theorem dX1_number_5 : decode cX1_number 5 = .ok (.istore 5, 2) := dk_54 5 (dk_at dksX1_number_0 5 rfl rfl)
theorem dX1_number_7 : decode cX1_number 7 = .ok (.iload 5, 2) := dk_21 5 (dk_at dksX1_number_0 7 rfl rfl)
theorem dX1_number_9 : decode cX1_number 9 = .ok (.ifCond .lt 29, 3) := dk_155 0 29 (dk_at dksX1_number_0 9 rfl rfl)
theorem dX1_number_12 : decode cX1_number 12 = .ok (.lload_n 3, 1) := dk_33 (dk_at dksX1_number_0 12 rfl rfl)
theorem dX1_number_13 : decode cX1_number 13 = .ok (.bipush 8, 2) := dk_16 8 (dk_at dksX1_number_0 13 rfl rfl)
theorem dX1_number_15 : decode cX1_number 15 = .ok (.lshl, 1) := dk_121 (dk_at dksX1_number_0 15 rfl rfl)
theorem dX1_number_16 : decode cX1_number 16 = .ok (.aload_n 0, 1) := dk_42 (dk_at dksX1_number_0 16 rfl rfl)
theorem dX1_number_17 : decode cX1_number 17 = .ok (.getfield 7, 3) := dk_180 0 7 (dk_at dksX1_number_0 17 rfl rfl)
theorem dX1_number_20 : decode cX1_number 20 = .ok (.iload_n 1, 1) := dk_27 (dk_at dksX1_number_0 20 rfl rfl)
theorem dX1_number_21 : decode cX1_number 21 = .ok (.iload 5, 2) := dk_21 5 (dk_at dksX1_number_0 21 rfl rfl)
theorem dX1_number_23 : decode cX1_number 23 = .ok (.iadd, 1) := dk_96 (dk_at dksX1_number_0 23 rfl rfl)
theorem dX1_number_24 : decode cX1_number 24 = .ok (.baload, 1) := dk_51 (dk_at dksX1_number_1 0 rfl rfl)
theorem dX1_number_25 : decode cX1_number 25 = .ok (.sipush 255, 3) := dk_17 0 255 (dk_at dksX1_number_1 1 rfl rfl)
theorem dX1_number_28 : decode cX1_number 28 = .ok (.iand, 1) := dk_126 (dk_at dksX1_number_1 4 rfl rfl)
theorem dX1_number_29 : decode cX1_number 29 = .ok (.i2l, 1) := dk_133 (dk_at dksX1_number_1 5 rfl rfl)
theorem dX1_number_30 : decode cX1_number 30 = .ok (.lor, 1) := dk_129 (dk_at dksX1_number_1 6 rfl rfl)
theorem dX1_number_31 : decode cX1_number 31 = .ok (.lstore_n 3, 1) := dk_66 (dk_at dksX1_number_1 7 rfl rfl)
theorem dX1_number_32 : decode cX1_number 32 = .ok (.iinc 5 (-1), 3) := dk_132 5 255 (dk_at dksX1_number_1 8 rfl rfl)
theorem dX1_number_35 : decode cX1_number 35 = .ok (.goto (-28), 3) := dk_167 255 228 (dk_at dksX1_number_1 11 rfl rfl)
theorem dX1_number_38 : decode cX1_number 38 = .ok (.lload_n 3, 1) := dk_33 (dk_at dksX1_number_1 14 rfl rfl)
theorem dX1_number_39 : decode cX1_number 39 = .ok (.lreturn, 1) := dk_173 (dk_at dksX1_number_1 15 rfl rfl)
abbrev cX1_turned : ByteArray := prog_4_method_6_code
def yX1_turned : MethodName := ⟨RX1, "turned", "(II)I"⟩
def dkwX1_turned_0 : List UInt8 := [27, 28, 120, 27, 16, 32, 28, 100, 124, 128, 172]
abbrev dktX1_turned_0 : List UInt8 := dkwX1_turned_0 ++ []
theorem dksX1_turned_0 : cX1_turned.data.toList.drop 0 = dktX1_turned_0 := by decide +kernel
theorem dX1_turned_0 : decode cX1_turned 0 = .ok (.iload_n 1, 1) := dk_27 (dk_at dksX1_turned_0 0 rfl rfl)
theorem dX1_turned_1 : decode cX1_turned 1 = .ok (.iload_n 2, 1) := dk_28 (dk_at dksX1_turned_0 1 rfl rfl)
theorem dX1_turned_2 : decode cX1_turned 2 = .ok (.ishl, 1) := dk_120 (dk_at dksX1_turned_0 2 rfl rfl)
theorem dX1_turned_3 : decode cX1_turned 3 = .ok (.iload_n 1, 1) := dk_27 (dk_at dksX1_turned_0 3 rfl rfl)
theorem dX1_turned_4 : decode cX1_turned 4 = .ok (.bipush 32, 2) := dk_16 32 (dk_at dksX1_turned_0 4 rfl rfl)
theorem dX1_turned_6 : decode cX1_turned 6 = .ok (.iload_n 2, 1) := dk_28 (dk_at dksX1_turned_0 6 rfl rfl)
theorem dX1_turned_7 : decode cX1_turned 7 = .ok (.isub, 1) := dk_100 (dk_at dksX1_turned_0 7 rfl rfl)
theorem dX1_turned_8 : decode cX1_turned 8 = .ok (.iushr, 1) := dk_124 (dk_at dksX1_turned_0 8 rfl rfl)
theorem dX1_turned_9 : decode cX1_turned 9 = .ok (.ior, 1) := dk_128 (dk_at dksX1_turned_0 9 rfl rfl)
theorem dX1_turned_10 : decode cX1_turned 10 = .ok (.ireturn, 1) := dk_172 (dk_at dksX1_turned_0 10 rfl rfl)
abbrev cX1_wide : ByteArray := prog_4_method_13_code
def yX1_wide : MethodName := ⟨RX1, "wide", "(IIII)J"⟩
def dkwX1_wide_12 : List UInt8 := [167, 0, 5, 22, 9, 173]
abbrev dktX1_wide_12 : List UInt8 := dkwX1_wide_12 ++ []
def dkwX1_wide_11 : List UInt8 := [22, 7, 22, 9, 97, 55, 7, 22, 9, 22, 7, 97, 55, 9, 21, 4, 5, 112, 154, 0, 8, 22, 7]
abbrev dktX1_wide_11 : List UInt8 := dkwX1_wide_11 ++ dktX1_wide_12
def dkwX1_wide_10 : List UInt8 := [22, 9, 22, 7, 97, 55, 9, 42, 22, 7, 182, 0, 62, 55, 7, 42, 22, 9, 182, 0, 62, 55, 9]
abbrev dktX1_wide_10 : List UInt8 := dkwX1_wide_10 ++ dktX1_wide_11
def dkwX1_wide_9 : List UInt8 := [22, 7, 21, 6, 133, 131, 55, 7, 22, 9, 21, 6, 133, 131, 55, 9, 22, 7, 22, 9, 97, 55, 7]
abbrev dktX1_wide_9 : List UInt8 := dkwX1_wide_9 ++ dktX1_wide_10
def dkwX1_wide_8 : List UInt8 := [21, 12, 16, 8, 164, 0, 8, 16, 8, 167, 0, 5, 21, 12, 182, 0, 26, 182, 0, 49, 131, 55, 7]
abbrev dktX1_wide_8 : List UInt8 := dkwX1_wide_8 ++ dktX1_wide_9
def dkwX1_wide_7 : List UInt8 := [182, 0, 26, 182, 0, 57, 131, 55, 9, 21, 12, 158, 0, 35, 22, 7, 42, 42, 21, 5, 21, 11, 96]
abbrev dktX1_wide_7 : List UInt8 := dkwX1_wide_7 ++ dktX1_wide_8
def dkwX1_wide_6 : List UInt8 := [21, 12, 16, 8, 164, 0, 29, 22, 9, 42, 42, 21, 5, 21, 11, 96, 16, 8, 96, 21, 12, 16, 8, 100]
abbrev dktX1_wide_6 : List UInt8 := dkwX1_wide_6 ++ dktX1_wide_7
def dkwX1_wide_5 : List UInt8 := [20, 0, 53, 105, 20, 0, 60, 97, 55, 9, 132, 11, 16, 167, 255, 158, 21, 6, 21, 11, 100, 54, 12]
abbrev dktX1_wide_5 : List UInt8 := dkwX1_wide_5 ++ dktX1_wide_6
def dkwX1_wide_4 : List UInt8 := [16, 8, 182, 0, 26, 182, 0, 57, 131, 55, 9, 42, 22, 9, 16, 31, 182, 0, 40, 22, 7, 97]
abbrev dktX1_wide_4 : List UInt8 := dkwX1_wide_4 ++ dktX1_wide_5
def dkwX1_wide_3 : List UInt8 := [97, 20, 0, 53, 105, 20, 0, 55, 97, 55, 7, 22, 9, 42, 42, 21, 5, 21, 11, 96, 16, 8, 96]
abbrev dktX1_wide_3 : List UInt8 := dkwX1_wide_3 ++ dktX1_wide_4
def dkwX1_wide_2 : List UInt8 := [21, 11, 96, 16, 8, 182, 0, 26, 182, 0, 49, 131, 55, 7, 42, 22, 7, 16, 27, 182, 0, 40, 22, 9]
abbrev dktX1_wide_2 : List UInt8 := dkwX1_wide_2 ++ dktX1_wide_3
def dkwX1_wide_1 : List UInt8 := [22, 7, 55, 9, 3, 54, 11, 21, 6, 21, 11, 100, 16, 16, 161, 0, 94, 22, 7, 42, 42, 21, 5]
abbrev dktX1_wide_1 : List UInt8 := dkwX1_wide_1 ++ dktX1_wide_2
def dkwX1_wide_0 : List UInt8 := [42, 27, 182, 0, 17, 54, 5, 42, 21, 5, 28, 182, 0, 22, 54, 6, 29, 18, 21, 126, 133, 55, 7]
abbrev dktX1_wide_0 : List UInt8 := dkwX1_wide_0 ++ dktX1_wide_1
theorem dksX1_wide_0 : cX1_wide.data.toList.drop 0 = dktX1_wide_0 := by decide +kernel
theorem dksX1_wide_1 : cX1_wide.data.toList.drop 23 = dktX1_wide_1 := dk_seg dksX1_wide_0 23 rfl rfl
theorem dksX1_wide_2 : cX1_wide.data.toList.drop 46 = dktX1_wide_2 := dk_seg dksX1_wide_1 23 rfl rfl
theorem dksX1_wide_3 : cX1_wide.data.toList.drop 70 = dktX1_wide_3 := dk_seg dksX1_wide_2 24 rfl rfl
theorem dksX1_wide_4 : cX1_wide.data.toList.drop 93 = dktX1_wide_4 := dk_seg dksX1_wide_3 23 rfl rfl
theorem dksX1_wide_5 : cX1_wide.data.toList.drop 115 = dktX1_wide_5 := dk_seg dksX1_wide_4 22 rfl rfl
theorem dksX1_wide_6 : cX1_wide.data.toList.drop 138 = dktX1_wide_6 := dk_seg dksX1_wide_5 23 rfl rfl
theorem dksX1_wide_7 : cX1_wide.data.toList.drop 162 = dktX1_wide_7 := dk_seg dksX1_wide_6 24 rfl rfl
theorem dksX1_wide_8 : cX1_wide.data.toList.drop 185 = dktX1_wide_8 := dk_seg dksX1_wide_7 23 rfl rfl
theorem dksX1_wide_9 : cX1_wide.data.toList.drop 208 = dktX1_wide_9 := dk_seg dksX1_wide_8 23 rfl rfl
theorem dksX1_wide_10 : cX1_wide.data.toList.drop 231 = dktX1_wide_10 := dk_seg dksX1_wide_9 23 rfl rfl
theorem dksX1_wide_11 : cX1_wide.data.toList.drop 254 = dktX1_wide_11 := dk_seg dksX1_wide_10 23 rfl rfl
theorem dksX1_wide_12 : cX1_wide.data.toList.drop 277 = dktX1_wide_12 := dk_seg dksX1_wide_11 23 rfl rfl
theorem dX1_wide_0 : decode cX1_wide 0 = .ok (.aload_n 0, 1) := dk_42 (dk_at dksX1_wide_0 0 rfl rfl)
theorem dX1_wide_1 : decode cX1_wide 1 = .ok (.iload_n 1, 1) := dk_27 (dk_at dksX1_wide_0 1 rfl rfl)
theorem dX1_wide_2 : decode cX1_wide 2 = .ok (.invokevirtual 17, 3) := dk_182 0 17 (dk_at dksX1_wide_0 2 rfl rfl)
theorem dX1_wide_5 : decode cX1_wide 5 = .ok (.istore 5, 2) := dk_54 5 (dk_at dksX1_wide_0 5 rfl rfl)
theorem dX1_wide_7 : decode cX1_wide 7 = .ok (.aload_n 0, 1) := dk_42 (dk_at dksX1_wide_0 7 rfl rfl)
theorem dX1_wide_8 : decode cX1_wide 8 = .ok (.iload 5, 2) := dk_21 5 (dk_at dksX1_wide_0 8 rfl rfl)
theorem dX1_wide_10 : decode cX1_wide 10 = .ok (.iload_n 2, 1) := dk_28 (dk_at dksX1_wide_0 10 rfl rfl)
theorem dX1_wide_11 : decode cX1_wide 11 = .ok (.invokevirtual 22, 3) := dk_182 0 22 (dk_at dksX1_wide_0 11 rfl rfl)
theorem dX1_wide_14 : decode cX1_wide 14 = .ok (.istore 6, 2) := dk_54 6 (dk_at dksX1_wide_0 14 rfl rfl)
theorem dX1_wide_16 : decode cX1_wide 16 = .ok (.iload_n 3, 1) := dk_29 (dk_at dksX1_wide_0 16 rfl rfl)
theorem dX1_wide_17 : decode cX1_wide 17 = .ok (.ldc 21, 2) := dk_18 21 (dk_at dksX1_wide_0 17 rfl rfl)
theorem dX1_wide_19 : decode cX1_wide 19 = .ok (.iand, 1) := dk_126 (dk_at dksX1_wide_0 19 rfl rfl)
theorem dX1_wide_20 : decode cX1_wide 20 = .ok (.i2l, 1) := dk_133 (dk_at dksX1_wide_0 20 rfl rfl)
theorem dX1_wide_21 : decode cX1_wide 21 = .ok (.lstore 7, 2) := dk_55 7 (dk_at dksX1_wide_0 21 rfl rfl)
theorem dX1_wide_23 : decode cX1_wide 23 = .ok (.lload 7, 2) := dk_22 7 (dk_at dksX1_wide_1 0 rfl rfl)
theorem dX1_wide_25 : decode cX1_wide 25 = .ok (.lstore 9, 2) := dk_55 9 (dk_at dksX1_wide_1 2 rfl rfl)
theorem dX1_wide_27 : decode cX1_wide 27 = .ok (.iconst 0, 1) := dk_3 (dk_at dksX1_wide_1 4 rfl rfl)
theorem dX1_wide_28 : decode cX1_wide 28 = .ok (.istore 11, 2) := dk_54 11 (dk_at dksX1_wide_1 5 rfl rfl)
theorem dX1_wide_30 : decode cX1_wide 30 = .ok (.iload 6, 2) := dk_21 6 (dk_at dksX1_wide_1 7 rfl rfl)
theorem dX1_wide_32 : decode cX1_wide 32 = .ok (.iload 11, 2) := dk_21 11 (dk_at dksX1_wide_1 9 rfl rfl)
theorem dX1_wide_34 : decode cX1_wide 34 = .ok (.isub, 1) := dk_100 (dk_at dksX1_wide_1 11 rfl rfl)
theorem dX1_wide_35 : decode cX1_wide 35 = .ok (.bipush 16, 2) := dk_16 16 (dk_at dksX1_wide_1 12 rfl rfl)
theorem dX1_wide_37 : decode cX1_wide 37 = .ok (.if_icmp .lt 94, 3) := dk_161 0 94 (dk_at dksX1_wide_1 14 rfl rfl)
theorem dX1_wide_40 : decode cX1_wide 40 = .ok (.lload 7, 2) := dk_22 7 (dk_at dksX1_wide_1 17 rfl rfl)
theorem dX1_wide_42 : decode cX1_wide 42 = .ok (.aload_n 0, 1) := dk_42 (dk_at dksX1_wide_1 19 rfl rfl)
theorem dX1_wide_43 : decode cX1_wide 43 = .ok (.aload_n 0, 1) := dk_42 (dk_at dksX1_wide_1 20 rfl rfl)
theorem dX1_wide_44 : decode cX1_wide 44 = .ok (.iload 5, 2) := dk_21 5 (dk_at dksX1_wide_1 21 rfl rfl)
theorem dX1_wide_46 : decode cX1_wide 46 = .ok (.iload 11, 2) := dk_21 11 (dk_at dksX1_wide_2 0 rfl rfl)
theorem dX1_wide_48 : decode cX1_wide 48 = .ok (.iadd, 1) := dk_96 (dk_at dksX1_wide_2 2 rfl rfl)
theorem dX1_wide_49 : decode cX1_wide 49 = .ok (.bipush 8, 2) := dk_16 8 (dk_at dksX1_wide_2 3 rfl rfl)
theorem dX1_wide_51 : decode cX1_wide 51 = .ok (.invokevirtual 26, 3) := dk_182 0 26 (dk_at dksX1_wide_2 5 rfl rfl)
theorem dX1_wide_54 : decode cX1_wide 54 = .ok (.invokevirtual 49, 3) := dk_182 0 49 (dk_at dksX1_wide_2 8 rfl rfl)
theorem dX1_wide_57 : decode cX1_wide 57 = .ok (.lxor, 1) := dk_131 (dk_at dksX1_wide_2 11 rfl rfl)
theorem dX1_wide_58 : decode cX1_wide 58 = .ok (.lstore 7, 2) := dk_55 7 (dk_at dksX1_wide_2 12 rfl rfl)
theorem dX1_wide_60 : decode cX1_wide 60 = .ok (.aload_n 0, 1) := dk_42 (dk_at dksX1_wide_2 14 rfl rfl)
theorem dX1_wide_61 : decode cX1_wide 61 = .ok (.lload 7, 2) := dk_22 7 (dk_at dksX1_wide_2 15 rfl rfl)
theorem dX1_wide_63 : decode cX1_wide 63 = .ok (.bipush 27, 2) := dk_16 27 (dk_at dksX1_wide_2 17 rfl rfl)
theorem dX1_wide_65 : decode cX1_wide 65 = .ok (.invokevirtual 40, 3) := dk_182 0 40 (dk_at dksX1_wide_2 19 rfl rfl)
theorem dX1_wide_68 : decode cX1_wide 68 = .ok (.lload 9, 2) := dk_22 9 (dk_at dksX1_wide_2 22 rfl rfl)
theorem dX1_wide_70 : decode cX1_wide 70 = .ok (.ladd, 1) := dk_97 (dk_at dksX1_wide_3 0 rfl rfl)
theorem dX1_wide_71 : decode cX1_wide 71 = .ok (.ldc2_w 53, 3) := dk_20 0 53 (dk_at dksX1_wide_3 1 rfl rfl)
theorem dX1_wide_74 : decode cX1_wide 74 = .ok (.lmul, 1) := dk_105 (dk_at dksX1_wide_3 4 rfl rfl)
theorem dX1_wide_75 : decode cX1_wide 75 = .ok (.ldc2_w 55, 3) := dk_20 0 55 (dk_at dksX1_wide_3 5 rfl rfl)
theorem dX1_wide_78 : decode cX1_wide 78 = .ok (.ladd, 1) := dk_97 (dk_at dksX1_wide_3 8 rfl rfl)
theorem dX1_wide_79 : decode cX1_wide 79 = .ok (.lstore 7, 2) := dk_55 7 (dk_at dksX1_wide_3 9 rfl rfl)
theorem dX1_wide_81 : decode cX1_wide 81 = .ok (.lload 9, 2) := dk_22 9 (dk_at dksX1_wide_3 11 rfl rfl)
theorem dX1_wide_83 : decode cX1_wide 83 = .ok (.aload_n 0, 1) := dk_42 (dk_at dksX1_wide_3 13 rfl rfl)
theorem dX1_wide_84 : decode cX1_wide 84 = .ok (.aload_n 0, 1) := dk_42 (dk_at dksX1_wide_3 14 rfl rfl)
theorem dX1_wide_85 : decode cX1_wide 85 = .ok (.iload 5, 2) := dk_21 5 (dk_at dksX1_wide_3 15 rfl rfl)
theorem dX1_wide_87 : decode cX1_wide 87 = .ok (.iload 11, 2) := dk_21 11 (dk_at dksX1_wide_3 17 rfl rfl)
theorem dX1_wide_89 : decode cX1_wide 89 = .ok (.iadd, 1) := dk_96 (dk_at dksX1_wide_3 19 rfl rfl)
theorem dX1_wide_90 : decode cX1_wide 90 = .ok (.bipush 8, 2) := dk_16 8 (dk_at dksX1_wide_3 20 rfl rfl)
theorem dX1_wide_92 : decode cX1_wide 92 = .ok (.iadd, 1) := dk_96 (dk_at dksX1_wide_3 22 rfl rfl)
theorem dX1_wide_93 : decode cX1_wide 93 = .ok (.bipush 8, 2) := dk_16 8 (dk_at dksX1_wide_4 0 rfl rfl)
theorem dX1_wide_95 : decode cX1_wide 95 = .ok (.invokevirtual 26, 3) := dk_182 0 26 (dk_at dksX1_wide_4 2 rfl rfl)
theorem dX1_wide_98 : decode cX1_wide 98 = .ok (.invokevirtual 57, 3) := dk_182 0 57 (dk_at dksX1_wide_4 5 rfl rfl)
theorem dX1_wide_101 : decode cX1_wide 101 = .ok (.lxor, 1) := dk_131 (dk_at dksX1_wide_4 8 rfl rfl)
theorem dX1_wide_102 : decode cX1_wide 102 = .ok (.lstore 9, 2) := dk_55 9 (dk_at dksX1_wide_4 9 rfl rfl)
theorem dX1_wide_104 : decode cX1_wide 104 = .ok (.aload_n 0, 1) := dk_42 (dk_at dksX1_wide_4 11 rfl rfl)
theorem dX1_wide_105 : decode cX1_wide 105 = .ok (.lload 9, 2) := dk_22 9 (dk_at dksX1_wide_4 12 rfl rfl)
theorem dX1_wide_107 : decode cX1_wide 107 = .ok (.bipush 31, 2) := dk_16 31 (dk_at dksX1_wide_4 14 rfl rfl)
theorem dX1_wide_109 : decode cX1_wide 109 = .ok (.invokevirtual 40, 3) := dk_182 0 40 (dk_at dksX1_wide_4 16 rfl rfl)
theorem dX1_wide_112 : decode cX1_wide 112 = .ok (.lload 7, 2) := dk_22 7 (dk_at dksX1_wide_4 19 rfl rfl)
theorem dX1_wide_114 : decode cX1_wide 114 = .ok (.ladd, 1) := dk_97 (dk_at dksX1_wide_4 21 rfl rfl)
theorem dX1_wide_115 : decode cX1_wide 115 = .ok (.ldc2_w 53, 3) := dk_20 0 53 (dk_at dksX1_wide_5 0 rfl rfl)
theorem dX1_wide_118 : decode cX1_wide 118 = .ok (.lmul, 1) := dk_105 (dk_at dksX1_wide_5 3 rfl rfl)
theorem dX1_wide_119 : decode cX1_wide 119 = .ok (.ldc2_w 60, 3) := dk_20 0 60 (dk_at dksX1_wide_5 4 rfl rfl)
theorem dX1_wide_122 : decode cX1_wide 122 = .ok (.ladd, 1) := dk_97 (dk_at dksX1_wide_5 7 rfl rfl)
theorem dX1_wide_123 : decode cX1_wide 123 = .ok (.lstore 9, 2) := dk_55 9 (dk_at dksX1_wide_5 8 rfl rfl)
theorem dX1_wide_125 : decode cX1_wide 125 = .ok (.iinc 11 16, 3) := dk_132 11 16 (dk_at dksX1_wide_5 10 rfl rfl)
theorem dX1_wide_128 : decode cX1_wide 128 = .ok (.goto (-98), 3) := dk_167 255 158 (dk_at dksX1_wide_5 13 rfl rfl)
theorem dX1_wide_131 : decode cX1_wide 131 = .ok (.iload 6, 2) := dk_21 6 (dk_at dksX1_wide_5 16 rfl rfl)
theorem dX1_wide_133 : decode cX1_wide 133 = .ok (.iload 11, 2) := dk_21 11 (dk_at dksX1_wide_5 18 rfl rfl)
theorem dX1_wide_135 : decode cX1_wide 135 = .ok (.isub, 1) := dk_100 (dk_at dksX1_wide_5 20 rfl rfl)
theorem dX1_wide_136 : decode cX1_wide 136 = .ok (.istore 12, 2) := dk_54 12 (dk_at dksX1_wide_5 21 rfl rfl)
theorem dX1_wide_138 : decode cX1_wide 138 = .ok (.iload 12, 2) := dk_21 12 (dk_at dksX1_wide_6 0 rfl rfl)
theorem dX1_wide_140 : decode cX1_wide 140 = .ok (.bipush 8, 2) := dk_16 8 (dk_at dksX1_wide_6 2 rfl rfl)
theorem dX1_wide_142 : decode cX1_wide 142 = .ok (.if_icmp .le 29, 3) := dk_164 0 29 (dk_at dksX1_wide_6 4 rfl rfl)
theorem dX1_wide_145 : decode cX1_wide 145 = .ok (.lload 9, 2) := dk_22 9 (dk_at dksX1_wide_6 7 rfl rfl)
theorem dX1_wide_147 : decode cX1_wide 147 = .ok (.aload_n 0, 1) := dk_42 (dk_at dksX1_wide_6 9 rfl rfl)
theorem dX1_wide_148 : decode cX1_wide 148 = .ok (.aload_n 0, 1) := dk_42 (dk_at dksX1_wide_6 10 rfl rfl)
theorem dX1_wide_149 : decode cX1_wide 149 = .ok (.iload 5, 2) := dk_21 5 (dk_at dksX1_wide_6 11 rfl rfl)
theorem dX1_wide_151 : decode cX1_wide 151 = .ok (.iload 11, 2) := dk_21 11 (dk_at dksX1_wide_6 13 rfl rfl)
theorem dX1_wide_153 : decode cX1_wide 153 = .ok (.iadd, 1) := dk_96 (dk_at dksX1_wide_6 15 rfl rfl)
theorem dX1_wide_154 : decode cX1_wide 154 = .ok (.bipush 8, 2) := dk_16 8 (dk_at dksX1_wide_6 16 rfl rfl)
theorem dX1_wide_156 : decode cX1_wide 156 = .ok (.iadd, 1) := dk_96 (dk_at dksX1_wide_6 18 rfl rfl)
theorem dX1_wide_157 : decode cX1_wide 157 = .ok (.iload 12, 2) := dk_21 12 (dk_at dksX1_wide_6 19 rfl rfl)
theorem dX1_wide_159 : decode cX1_wide 159 = .ok (.bipush 8, 2) := dk_16 8 (dk_at dksX1_wide_6 21 rfl rfl)
theorem dX1_wide_161 : decode cX1_wide 161 = .ok (.isub, 1) := dk_100 (dk_at dksX1_wide_6 23 rfl rfl)
theorem dX1_wide_162 : decode cX1_wide 162 = .ok (.invokevirtual 26, 3) := dk_182 0 26 (dk_at dksX1_wide_7 0 rfl rfl)
theorem dX1_wide_165 : decode cX1_wide 165 = .ok (.invokevirtual 57, 3) := dk_182 0 57 (dk_at dksX1_wide_7 3 rfl rfl)
theorem dX1_wide_168 : decode cX1_wide 168 = .ok (.lxor, 1) := dk_131 (dk_at dksX1_wide_7 6 rfl rfl)
theorem dX1_wide_169 : decode cX1_wide 169 = .ok (.lstore 9, 2) := dk_55 9 (dk_at dksX1_wide_7 7 rfl rfl)
theorem dX1_wide_171 : decode cX1_wide 171 = .ok (.iload 12, 2) := dk_21 12 (dk_at dksX1_wide_7 9 rfl rfl)
theorem dX1_wide_173 : decode cX1_wide 173 = .ok (.ifCond .le 35, 3) := dk_158 0 35 (dk_at dksX1_wide_7 11 rfl rfl)
theorem dX1_wide_176 : decode cX1_wide 176 = .ok (.lload 7, 2) := dk_22 7 (dk_at dksX1_wide_7 14 rfl rfl)
theorem dX1_wide_178 : decode cX1_wide 178 = .ok (.aload_n 0, 1) := dk_42 (dk_at dksX1_wide_7 16 rfl rfl)
theorem dX1_wide_179 : decode cX1_wide 179 = .ok (.aload_n 0, 1) := dk_42 (dk_at dksX1_wide_7 17 rfl rfl)
theorem dX1_wide_180 : decode cX1_wide 180 = .ok (.iload 5, 2) := dk_21 5 (dk_at dksX1_wide_7 18 rfl rfl)
theorem dX1_wide_182 : decode cX1_wide 182 = .ok (.iload 11, 2) := dk_21 11 (dk_at dksX1_wide_7 20 rfl rfl)
theorem dX1_wide_184 : decode cX1_wide 184 = .ok (.iadd, 1) := dk_96 (dk_at dksX1_wide_7 22 rfl rfl)
theorem dX1_wide_185 : decode cX1_wide 185 = .ok (.iload 12, 2) := dk_21 12 (dk_at dksX1_wide_8 0 rfl rfl)
theorem dX1_wide_187 : decode cX1_wide 187 = .ok (.bipush 8, 2) := dk_16 8 (dk_at dksX1_wide_8 2 rfl rfl)
theorem dX1_wide_189 : decode cX1_wide 189 = .ok (.if_icmp .le 8, 3) := dk_164 0 8 (dk_at dksX1_wide_8 4 rfl rfl)
theorem dX1_wide_192 : decode cX1_wide 192 = .ok (.bipush 8, 2) := dk_16 8 (dk_at dksX1_wide_8 7 rfl rfl)
theorem dX1_wide_194 : decode cX1_wide 194 = .ok (.goto 5, 3) := dk_167 0 5 (dk_at dksX1_wide_8 9 rfl rfl)
theorem dX1_wide_197 : decode cX1_wide 197 = .ok (.iload 12, 2) := dk_21 12 (dk_at dksX1_wide_8 12 rfl rfl)
theorem dX1_wide_199 : decode cX1_wide 199 = .ok (.invokevirtual 26, 3) := dk_182 0 26 (dk_at dksX1_wide_8 14 rfl rfl)
theorem dX1_wide_202 : decode cX1_wide 202 = .ok (.invokevirtual 49, 3) := dk_182 0 49 (dk_at dksX1_wide_8 17 rfl rfl)
theorem dX1_wide_205 : decode cX1_wide 205 = .ok (.lxor, 1) := dk_131 (dk_at dksX1_wide_8 20 rfl rfl)
theorem dX1_wide_206 : decode cX1_wide 206 = .ok (.lstore 7, 2) := dk_55 7 (dk_at dksX1_wide_8 21 rfl rfl)
theorem dX1_wide_208 : decode cX1_wide 208 = .ok (.lload 7, 2) := dk_22 7 (dk_at dksX1_wide_9 0 rfl rfl)
theorem dX1_wide_210 : decode cX1_wide 210 = .ok (.iload 6, 2) := dk_21 6 (dk_at dksX1_wide_9 2 rfl rfl)
theorem dX1_wide_212 : decode cX1_wide 212 = .ok (.i2l, 1) := dk_133 (dk_at dksX1_wide_9 4 rfl rfl)
theorem dX1_wide_213 : decode cX1_wide 213 = .ok (.lxor, 1) := dk_131 (dk_at dksX1_wide_9 5 rfl rfl)
theorem dX1_wide_214 : decode cX1_wide 214 = .ok (.lstore 7, 2) := dk_55 7 (dk_at dksX1_wide_9 6 rfl rfl)
theorem dX1_wide_216 : decode cX1_wide 216 = .ok (.lload 9, 2) := dk_22 9 (dk_at dksX1_wide_9 8 rfl rfl)
theorem dX1_wide_218 : decode cX1_wide 218 = .ok (.iload 6, 2) := dk_21 6 (dk_at dksX1_wide_9 10 rfl rfl)
theorem dX1_wide_220 : decode cX1_wide 220 = .ok (.i2l, 1) := dk_133 (dk_at dksX1_wide_9 12 rfl rfl)
theorem dX1_wide_221 : decode cX1_wide 221 = .ok (.lxor, 1) := dk_131 (dk_at dksX1_wide_9 13 rfl rfl)
theorem dX1_wide_222 : decode cX1_wide 222 = .ok (.lstore 9, 2) := dk_55 9 (dk_at dksX1_wide_9 14 rfl rfl)
theorem dX1_wide_224 : decode cX1_wide 224 = .ok (.lload 7, 2) := dk_22 7 (dk_at dksX1_wide_9 16 rfl rfl)
theorem dX1_wide_226 : decode cX1_wide 226 = .ok (.lload 9, 2) := dk_22 9 (dk_at dksX1_wide_9 18 rfl rfl)
theorem dX1_wide_228 : decode cX1_wide 228 = .ok (.ladd, 1) := dk_97 (dk_at dksX1_wide_9 20 rfl rfl)
theorem dX1_wide_229 : decode cX1_wide 229 = .ok (.lstore 7, 2) := dk_55 7 (dk_at dksX1_wide_9 21 rfl rfl)
theorem dX1_wide_231 : decode cX1_wide 231 = .ok (.lload 9, 2) := dk_22 9 (dk_at dksX1_wide_10 0 rfl rfl)
theorem dX1_wide_233 : decode cX1_wide 233 = .ok (.lload 7, 2) := dk_22 7 (dk_at dksX1_wide_10 2 rfl rfl)
theorem dX1_wide_235 : decode cX1_wide 235 = .ok (.ladd, 1) := dk_97 (dk_at dksX1_wide_10 4 rfl rfl)
theorem dX1_wide_236 : decode cX1_wide 236 = .ok (.lstore 9, 2) := dk_55 9 (dk_at dksX1_wide_10 5 rfl rfl)
theorem dX1_wide_238 : decode cX1_wide 238 = .ok (.aload_n 0, 1) := dk_42 (dk_at dksX1_wide_10 7 rfl rfl)
theorem dX1_wide_239 : decode cX1_wide 239 = .ok (.lload 7, 2) := dk_22 7 (dk_at dksX1_wide_10 8 rfl rfl)
theorem dX1_wide_241 : decode cX1_wide 241 = .ok (.invokevirtual 62, 3) := dk_182 0 62 (dk_at dksX1_wide_10 10 rfl rfl)
theorem dX1_wide_244 : decode cX1_wide 244 = .ok (.lstore 7, 2) := dk_55 7 (dk_at dksX1_wide_10 13 rfl rfl)
theorem dX1_wide_246 : decode cX1_wide 246 = .ok (.aload_n 0, 1) := dk_42 (dk_at dksX1_wide_10 15 rfl rfl)
theorem dX1_wide_247 : decode cX1_wide 247 = .ok (.lload 9, 2) := dk_22 9 (dk_at dksX1_wide_10 16 rfl rfl)
theorem dX1_wide_249 : decode cX1_wide 249 = .ok (.invokevirtual 62, 3) := dk_182 0 62 (dk_at dksX1_wide_10 18 rfl rfl)
theorem dX1_wide_252 : decode cX1_wide 252 = .ok (.lstore 9, 2) := dk_55 9 (dk_at dksX1_wide_10 21 rfl rfl)
theorem dX1_wide_254 : decode cX1_wide 254 = .ok (.lload 7, 2) := dk_22 7 (dk_at dksX1_wide_11 0 rfl rfl)
theorem dX1_wide_256 : decode cX1_wide 256 = .ok (.lload 9, 2) := dk_22 9 (dk_at dksX1_wide_11 2 rfl rfl)
theorem dX1_wide_258 : decode cX1_wide 258 = .ok (.ladd, 1) := dk_97 (dk_at dksX1_wide_11 4 rfl rfl)
theorem dX1_wide_259 : decode cX1_wide 259 = .ok (.lstore 7, 2) := dk_55 7 (dk_at dksX1_wide_11 5 rfl rfl)
theorem dX1_wide_261 : decode cX1_wide 261 = .ok (.lload 9, 2) := dk_22 9 (dk_at dksX1_wide_11 7 rfl rfl)
theorem dX1_wide_263 : decode cX1_wide 263 = .ok (.lload 7, 2) := dk_22 7 (dk_at dksX1_wide_11 9 rfl rfl)
theorem dX1_wide_265 : decode cX1_wide 265 = .ok (.ladd, 1) := dk_97 (dk_at dksX1_wide_11 11 rfl rfl)
theorem dX1_wide_266 : decode cX1_wide 266 = .ok (.lstore 9, 2) := dk_55 9 (dk_at dksX1_wide_11 12 rfl rfl)
theorem dX1_wide_268 : decode cX1_wide 268 = .ok (.iload 4, 2) := dk_21 4 (dk_at dksX1_wide_11 14 rfl rfl)
theorem dX1_wide_270 : decode cX1_wide 270 = .ok (.iconst 2, 1) := dk_5 (dk_at dksX1_wide_11 16 rfl rfl)
theorem dX1_wide_271 : decode cX1_wide 271 = .ok (.irem, 1) := dk_112 (dk_at dksX1_wide_11 17 rfl rfl)
theorem dX1_wide_272 : decode cX1_wide 272 = .ok (.ifCond .ne 8, 3) := dk_154 0 8 (dk_at dksX1_wide_11 18 rfl rfl)
theorem dX1_wide_275 : decode cX1_wide 275 = .ok (.lload 7, 2) := dk_22 7 (dk_at dksX1_wide_11 21 rfl rfl)
theorem dX1_wide_277 : decode cX1_wide 277 = .ok (.goto 5, 3) := dk_167 0 5 (dk_at dksX1_wide_12 0 rfl rfl)
theorem dX1_wide_280 : decode cX1_wide 280 = .ok (.lload 9, 2) := dk_22 9 (dk_at dksX1_wide_12 3 rfl rfl)
theorem dX1_wide_282 : decode cX1_wide 282 = .ok (.lreturn, 1) := dk_173 (dk_at dksX1_wide_12 5 rfl rfl)
abbrev cX1_stirredOne : ByteArray := prog_4_method_10_code
def yX1_stirredOne : MethodName := ⟨RX1, "stirredOne", "(J)J"⟩
def dkwX1_stirredOne_0 : List UInt8 := [42, 31, 20, 0, 38, 105, 16, 31, 182, 0, 40, 20, 0, 43, 105, 173]
abbrev dktX1_stirredOne_0 : List UInt8 := dkwX1_stirredOne_0 ++ []
theorem dksX1_stirredOne_0 : cX1_stirredOne.data.toList.drop 0 = dktX1_stirredOne_0 := by decide +kernel
theorem dX1_stirredOne_0 : decode cX1_stirredOne 0 = .ok (.aload_n 0, 1) := dk_42 (dk_at dksX1_stirredOne_0 0 rfl rfl)
theorem dX1_stirredOne_1 : decode cX1_stirredOne 1 = .ok (.lload_n 1, 1) := dk_31 (dk_at dksX1_stirredOne_0 1 rfl rfl)
theorem dX1_stirredOne_2 : decode cX1_stirredOne 2 = .ok (.ldc2_w 38, 3) := dk_20 0 38 (dk_at dksX1_stirredOne_0 2 rfl rfl)
theorem dX1_stirredOne_5 : decode cX1_stirredOne 5 = .ok (.lmul, 1) := dk_105 (dk_at dksX1_stirredOne_0 5 rfl rfl)
theorem dX1_stirredOne_6 : decode cX1_stirredOne 6 = .ok (.bipush 31, 2) := dk_16 31 (dk_at dksX1_stirredOne_0 6 rfl rfl)
theorem dX1_stirredOne_8 : decode cX1_stirredOne 8 = .ok (.invokevirtual 40, 3) := dk_182 0 40 (dk_at dksX1_stirredOne_0 8 rfl rfl)
theorem dX1_stirredOne_11 : decode cX1_stirredOne 11 = .ok (.ldc2_w 43, 3) := dk_20 0 43 (dk_at dksX1_stirredOne_0 11 rfl rfl)
theorem dX1_stirredOne_14 : decode cX1_stirredOne 14 = .ok (.lmul, 1) := dk_105 (dk_at dksX1_stirredOne_0 14 rfl rfl)
theorem dX1_stirredOne_15 : decode cX1_stirredOne 15 = .ok (.lreturn, 1) := dk_173 (dk_at dksX1_stirredOne_0 15 rfl rfl)
abbrev cX1_turned_2 : ByteArray := prog_4_method_7_code
def yX1_turned_2 : MethodName := ⟨RX1, "turned", "(JI)J"⟩
def dkwX1_turned_2_0 : List UInt8 := [31, 29, 121, 31, 16, 64, 29, 100, 125, 129, 173]
abbrev dktX1_turned_2_0 : List UInt8 := dkwX1_turned_2_0 ++ []
theorem dksX1_turned_2_0 : cX1_turned_2.data.toList.drop 0 = dktX1_turned_2_0 := by decide +kernel
theorem dX1_turned_2_0 : decode cX1_turned_2 0 = .ok (.lload_n 1, 1) := dk_31 (dk_at dksX1_turned_2_0 0 rfl rfl)
theorem dX1_turned_2_1 : decode cX1_turned_2 1 = .ok (.iload_n 3, 1) := dk_29 (dk_at dksX1_turned_2_0 1 rfl rfl)
theorem dX1_turned_2_2 : decode cX1_turned_2 2 = .ok (.lshl, 1) := dk_121 (dk_at dksX1_turned_2_0 2 rfl rfl)
theorem dX1_turned_2_3 : decode cX1_turned_2 3 = .ok (.lload_n 1, 1) := dk_31 (dk_at dksX1_turned_2_0 3 rfl rfl)
theorem dX1_turned_2_4 : decode cX1_turned_2 4 = .ok (.bipush 64, 2) := dk_16 64 (dk_at dksX1_turned_2_0 4 rfl rfl)
theorem dX1_turned_2_6 : decode cX1_turned_2 6 = .ok (.iload_n 3, 1) := dk_29 (dk_at dksX1_turned_2_0 6 rfl rfl)
theorem dX1_turned_2_7 : decode cX1_turned_2 7 = .ok (.isub, 1) := dk_100 (dk_at dksX1_turned_2_0 7 rfl rfl)
theorem dX1_turned_2_8 : decode cX1_turned_2 8 = .ok (.lushr, 1) := dk_125 (dk_at dksX1_turned_2_0 8 rfl rfl)
theorem dX1_turned_2_9 : decode cX1_turned_2 9 = .ok (.lor, 1) := dk_129 (dk_at dksX1_turned_2_0 9 rfl rfl)
theorem dX1_turned_2_10 : decode cX1_turned_2 10 = .ok (.lreturn, 1) := dk_173 (dk_at dksX1_turned_2_0 10 rfl rfl)
abbrev cX1_stirredTwo : ByteArray := prog_4_method_11_code
def yX1_stirredTwo : MethodName := ⟨RX1, "stirredTwo", "(J)J"⟩
def dkwX1_stirredTwo_0 : List UInt8 := [42, 31, 20, 0, 43, 105, 16, 33, 182, 0, 40, 20, 0, 38, 105, 173]
abbrev dktX1_stirredTwo_0 : List UInt8 := dkwX1_stirredTwo_0 ++ []
theorem dksX1_stirredTwo_0 : cX1_stirredTwo.data.toList.drop 0 = dktX1_stirredTwo_0 := by decide +kernel
theorem dX1_stirredTwo_0 : decode cX1_stirredTwo 0 = .ok (.aload_n 0, 1) := dk_42 (dk_at dksX1_stirredTwo_0 0 rfl rfl)
theorem dX1_stirredTwo_1 : decode cX1_stirredTwo 1 = .ok (.lload_n 1, 1) := dk_31 (dk_at dksX1_stirredTwo_0 1 rfl rfl)
theorem dX1_stirredTwo_2 : decode cX1_stirredTwo 2 = .ok (.ldc2_w 43, 3) := dk_20 0 43 (dk_at dksX1_stirredTwo_0 2 rfl rfl)
theorem dX1_stirredTwo_5 : decode cX1_stirredTwo 5 = .ok (.lmul, 1) := dk_105 (dk_at dksX1_stirredTwo_0 5 rfl rfl)
theorem dX1_stirredTwo_6 : decode cX1_stirredTwo 6 = .ok (.bipush 33, 2) := dk_16 33 (dk_at dksX1_stirredTwo_0 6 rfl rfl)
theorem dX1_stirredTwo_8 : decode cX1_stirredTwo 8 = .ok (.invokevirtual 40, 3) := dk_182 0 40 (dk_at dksX1_stirredTwo_0 8 rfl rfl)
theorem dX1_stirredTwo_11 : decode cX1_stirredTwo 11 = .ok (.ldc2_w 38, 3) := dk_20 0 38 (dk_at dksX1_stirredTwo_0 11 rfl rfl)
theorem dX1_stirredTwo_14 : decode cX1_stirredTwo 14 = .ok (.lmul, 1) := dk_105 (dk_at dksX1_stirredTwo_0 14 rfl rfl)
theorem dX1_stirredTwo_15 : decode cX1_stirredTwo 15 = .ok (.lreturn, 1) := dk_173 (dk_at dksX1_stirredTwo_0 15 rfl rfl)
abbrev cX1_ended : ByteArray := prog_4_method_12_code
def yX1_ended : MethodName := ⟨RX1, "ended", "(J)J"⟩
def dkwX1_ended_1 : List UInt8 := [20, 0, 47, 105, 66, 33, 33, 16, 33, 125, 131, 66, 33, 173]
abbrev dktX1_ended_1 : List UInt8 := dkwX1_ended_1 ++ []
def dkwX1_ended_0 : List UInt8 := [31, 66, 33, 33, 16, 33, 125, 131, 66, 33, 20, 0, 45, 105, 66, 33, 33, 16, 33, 125, 131, 66, 33]
abbrev dktX1_ended_0 : List UInt8 := dkwX1_ended_0 ++ dktX1_ended_1
theorem dksX1_ended_0 : cX1_ended.data.toList.drop 0 = dktX1_ended_0 := by decide +kernel
theorem dksX1_ended_1 : cX1_ended.data.toList.drop 23 = dktX1_ended_1 := dk_seg dksX1_ended_0 23 rfl rfl
theorem dX1_ended_0 : decode cX1_ended 0 = .ok (.lload_n 1, 1) := dk_31 (dk_at dksX1_ended_0 0 rfl rfl)
theorem dX1_ended_1 : decode cX1_ended 1 = .ok (.lstore_n 3, 1) := dk_66 (dk_at dksX1_ended_0 1 rfl rfl)
theorem dX1_ended_2 : decode cX1_ended 2 = .ok (.lload_n 3, 1) := dk_33 (dk_at dksX1_ended_0 2 rfl rfl)
theorem dX1_ended_3 : decode cX1_ended 3 = .ok (.lload_n 3, 1) := dk_33 (dk_at dksX1_ended_0 3 rfl rfl)
theorem dX1_ended_4 : decode cX1_ended 4 = .ok (.bipush 33, 2) := dk_16 33 (dk_at dksX1_ended_0 4 rfl rfl)
theorem dX1_ended_6 : decode cX1_ended 6 = .ok (.lushr, 1) := dk_125 (dk_at dksX1_ended_0 6 rfl rfl)
theorem dX1_ended_7 : decode cX1_ended 7 = .ok (.lxor, 1) := dk_131 (dk_at dksX1_ended_0 7 rfl rfl)
theorem dX1_ended_8 : decode cX1_ended 8 = .ok (.lstore_n 3, 1) := dk_66 (dk_at dksX1_ended_0 8 rfl rfl)
theorem dX1_ended_9 : decode cX1_ended 9 = .ok (.lload_n 3, 1) := dk_33 (dk_at dksX1_ended_0 9 rfl rfl)
theorem dX1_ended_10 : decode cX1_ended 10 = .ok (.ldc2_w 45, 3) := dk_20 0 45 (dk_at dksX1_ended_0 10 rfl rfl)
theorem dX1_ended_13 : decode cX1_ended 13 = .ok (.lmul, 1) := dk_105 (dk_at dksX1_ended_0 13 rfl rfl)
theorem dX1_ended_14 : decode cX1_ended 14 = .ok (.lstore_n 3, 1) := dk_66 (dk_at dksX1_ended_0 14 rfl rfl)
theorem dX1_ended_15 : decode cX1_ended 15 = .ok (.lload_n 3, 1) := dk_33 (dk_at dksX1_ended_0 15 rfl rfl)
theorem dX1_ended_16 : decode cX1_ended 16 = .ok (.lload_n 3, 1) := dk_33 (dk_at dksX1_ended_0 16 rfl rfl)
theorem dX1_ended_17 : decode cX1_ended 17 = .ok (.bipush 33, 2) := dk_16 33 (dk_at dksX1_ended_0 17 rfl rfl)
theorem dX1_ended_19 : decode cX1_ended 19 = .ok (.lushr, 1) := dk_125 (dk_at dksX1_ended_0 19 rfl rfl)
theorem dX1_ended_20 : decode cX1_ended 20 = .ok (.lxor, 1) := dk_131 (dk_at dksX1_ended_0 20 rfl rfl)
theorem dX1_ended_21 : decode cX1_ended 21 = .ok (.lstore_n 3, 1) := dk_66 (dk_at dksX1_ended_0 21 rfl rfl)
theorem dX1_ended_22 : decode cX1_ended 22 = .ok (.lload_n 3, 1) := dk_33 (dk_at dksX1_ended_0 22 rfl rfl)
theorem dX1_ended_23 : decode cX1_ended 23 = .ok (.ldc2_w 47, 3) := dk_20 0 47 (dk_at dksX1_ended_1 0 rfl rfl)
theorem dX1_ended_26 : decode cX1_ended 26 = .ok (.lmul, 1) := dk_105 (dk_at dksX1_ended_1 3 rfl rfl)
theorem dX1_ended_27 : decode cX1_ended 27 = .ok (.lstore_n 3, 1) := dk_66 (dk_at dksX1_ended_1 4 rfl rfl)
theorem dX1_ended_28 : decode cX1_ended 28 = .ok (.lload_n 3, 1) := dk_33 (dk_at dksX1_ended_1 5 rfl rfl)
theorem dX1_ended_29 : decode cX1_ended 29 = .ok (.lload_n 3, 1) := dk_33 (dk_at dksX1_ended_1 6 rfl rfl)
theorem dX1_ended_30 : decode cX1_ended 30 = .ok (.bipush 33, 2) := dk_16 33 (dk_at dksX1_ended_1 7 rfl rfl)
theorem dX1_ended_32 : decode cX1_ended 32 = .ok (.lushr, 1) := dk_125 (dk_at dksX1_ended_1 9 rfl rfl)
theorem dX1_ended_33 : decode cX1_ended 33 = .ok (.lxor, 1) := dk_131 (dk_at dksX1_ended_1 10 rfl rfl)
theorem dX1_ended_34 : decode cX1_ended 34 = .ok (.lstore_n 3, 1) := dk_66 (dk_at dksX1_ended_1 11 rfl rfl)
theorem dX1_ended_35 : decode cX1_ended 35 = .ok (.lload_n 3, 1) := dk_33 (dk_at dksX1_ended_1 12 rfl rfl)
theorem dX1_ended_36 : decode cX1_ended 36 = .ok (.lreturn, 1) := dk_173 (dk_at dksX1_ended_1 13 rfl rfl)
theorem q13 : (Jvm.Cond.initialized "MurmurDeskModel") ∈ lw_all := lw_g (lw_at lw_m0 2 rfl) rfl
theorem q95 : (Jvm.Cond.instantiable "MurmurDeskModel" (2 : Nat)) ∈ lw_all := lw_g (lw_at lw_m0 84 rfl) rfl
theorem q97 : (Jvm.Cond.instanceMethod ({ cls := "MurmurDeskModel", name := "<init>", desc := "()V" } : Jvm.MethodName)) ∈ lw_all := lw_g (lw_at lw_m0 86 rfl) rfl
theorem q98 : (Jvm.Cond.code ({ cls := "MurmurDeskModel", name := "<init>", desc := "()V" } : Jvm.MethodName) prog_4_method_1_code (1 : Nat) (Option.none : Option Jvm.ClassFile.FieldType)) ∈ lw_all := lw_g (lw_at lw_m0 87 rfl) rfl
theorem q99 : (Jvm.Cond.methodLink "MurmurDeskModel" (1 : Nat) ({ cls := "java/lang/Object", name := "<init>", desc := "()V" } : Jvm.MethodName)) ∈ lw_all := lw_g (lw_at lw_m0 88 rfl) rfl
theorem q100 : (Jvm.Cond.fieldLink "MurmurDeskModel" (7 : Nat) "MurmurDeskModel" "text" "[B") ∈ lw_all := lw_g (lw_at lw_m0 89 rfl) rfl
theorem q101 : (Jvm.Cond.fieldLink "MurmurDeskModel" (13 : Nat) "MurmurDeskModel" "size" "I") ∈ lw_all := lw_g (lw_at lw_m0 90 rfl) rfl
theorem q102 : (Jvm.Cond.laysFinal "MurmurDeskModel" "MurmurDeskModel" "text" "[B") ∈ lw_all := lw_g (lw_at lw_m0 91 rfl) rfl
theorem q103 : (Jvm.Cond.soleField "MurmurDeskModel" "text") ∈ lw_all := lw_g (lw_at lw_m0 92 rfl) rfl
theorem q104 : (Jvm.Cond.lays "MurmurDeskModel" "MurmurDeskModel" "size" "I") ∈ lw_all := lw_g (lw_at lw_m0 93 rfl) rfl
theorem q105 : (Jvm.Cond.soleField "MurmurDeskModel" "size") ∈ lw_all := lw_g (lw_at lw_m0 94 rfl) rfl
theorem q106 : (Jvm.Cond.superclass "MurmurDeskModel" "java/lang/Object") ∈ lw_all := lw_g (lw_at lw_m0 95 rfl) rfl
theorem q108 : (Jvm.Cond.instanceMethod ({ cls := "MurmurDeskModel", name := "put", desc := "(IIII)Z" } : Jvm.MethodName)) ∈ lw_all := lw_g (lw_at lw_m0 97 rfl) rfl
theorem q109 : (Jvm.Cond.selects "MurmurDeskModel" ({ cls := "MurmurDeskModel", name := "put", desc := "(IIII)Z" } : Jvm.MethodName) ({ cls := "MurmurDeskModel", name := "put", desc := "(IIII)Z" } : Jvm.MethodName)) ∈ lw_all := lw_g (lw_at lw_m0 98 rfl) rfl
theorem q110 : (Jvm.Cond.code ({ cls := "MurmurDeskModel", name := "put", desc := "(IIII)Z" } : Jvm.MethodName) prog_4_method_2_code (11 : Nat) (Option.some Jvm.ClassFile.FieldType.boolean)) ∈ lw_all := lw_g (lw_at lw_m0 99 rfl) rfl
theorem q113 : (Jvm.Cond.instanceMethod ({ cls := "MurmurDeskModel", name := "trim", desc := "(I)V" } : Jvm.MethodName)) ∈ lw_all := lw_g (lw_at lw_m0 102 rfl) rfl
theorem q114 : (Jvm.Cond.selects "MurmurDeskModel" ({ cls := "MurmurDeskModel", name := "trim", desc := "(I)V" } : Jvm.MethodName) ({ cls := "MurmurDeskModel", name := "trim", desc := "(I)V" } : Jvm.MethodName)) ∈ lw_all := lw_g (lw_at lw_m0 103 rfl) rfl
theorem q115 : (Jvm.Cond.code ({ cls := "MurmurDeskModel", name := "trim", desc := "(I)V" } : Jvm.MethodName) prog_4_method_3_code (2 : Nat) (Option.none : Option Jvm.ClassFile.FieldType)) ∈ lw_all := lw_g (lw_at lw_m0 104 rfl) rfl
theorem q116 : (Jvm.Cond.methodLink "MurmurDeskModel" (17 : Nat) ({ cls := "MurmurDeskModel", name := "place", desc := "(I)I" } : Jvm.MethodName)) ∈ lw_all := lw_g (lw_at lw_m0 105 rfl) rfl
theorem q117 : (Jvm.Cond.privateMethod ({ cls := "MurmurDeskModel", name := "place", desc := "(I)I" } : Jvm.MethodName)) ∈ lw_tbl := lw_at lw_m0 106 rfl
theorem q118 : (Jvm.Cond.instanceMethod ({ cls := "MurmurDeskModel", name := "place", desc := "(I)I" } : Jvm.MethodName)) ∈ lw_all := lw_g (lw_at lw_m0 107 rfl) rfl
theorem q119 : (Jvm.Cond.code ({ cls := "MurmurDeskModel", name := "place", desc := "(I)I" } : Jvm.MethodName) prog_4_method_4_code (2 : Nat) (Option.some Jvm.ClassFile.FieldType.int)) ∈ lw_all := lw_g (lw_at lw_m0 108 rfl) rfl
theorem q120 : (Jvm.Cond.constant "MurmurDeskModel" (21 : Nat) (2147483647 : Int32)) ∈ lw_all := lw_g (lw_at lw_m0 109 rfl) rfl
theorem q122 : (Jvm.Cond.instanceMethod ({ cls := "MurmurDeskModel", name := "small", desc := "(III)I" } : Jvm.MethodName)) ∈ lw_all := lw_g (lw_at lw_m0 111 rfl) rfl
theorem q123 : (Jvm.Cond.selects "MurmurDeskModel" ({ cls := "MurmurDeskModel", name := "small", desc := "(III)I" } : Jvm.MethodName) ({ cls := "MurmurDeskModel", name := "small", desc := "(III)I" } : Jvm.MethodName)) ∈ lw_all := lw_g (lw_at lw_m0 112 rfl) rfl
theorem q124 : (Jvm.Cond.code ({ cls := "MurmurDeskModel", name := "small", desc := "(III)I" } : Jvm.MethodName) prog_4_method_9_code (10 : Nat) (Option.some Jvm.ClassFile.FieldType.int)) ∈ lw_all := lw_g (lw_at lw_m0 113 rfl) rfl
theorem q125 : (Jvm.Cond.methodLink "MurmurDeskModel" (22 : Nat) ({ cls := "MurmurDeskModel", name := "many", desc := "(II)I" } : Jvm.MethodName)) ∈ lw_all := lw_g (lw_at lw_m0 114 rfl) rfl
theorem q126 : (Jvm.Cond.privateMethod ({ cls := "MurmurDeskModel", name := "many", desc := "(II)I" } : Jvm.MethodName)) ∈ lw_tbl := lw_at lw_m0 115 rfl
theorem q127 : (Jvm.Cond.instanceMethod ({ cls := "MurmurDeskModel", name := "many", desc := "(II)I" } : Jvm.MethodName)) ∈ lw_all := lw_g (lw_at lw_m0 116 rfl) rfl
theorem q128 : (Jvm.Cond.code ({ cls := "MurmurDeskModel", name := "many", desc := "(II)I" } : Jvm.MethodName) prog_4_method_5_code (3 : Nat) (Option.some Jvm.ClassFile.FieldType.int)) ∈ lw_all := lw_g (lw_at lw_m0 117 rfl) rfl
theorem q129 : (Jvm.Cond.methodLink "MurmurDeskModel" (26 : Nat) ({ cls := "MurmurDeskModel", name := "number", desc := "(II)J" } : Jvm.MethodName)) ∈ lw_all := lw_g (lw_at lw_m0 118 rfl) rfl
theorem q130 : (Jvm.Cond.privateMethod ({ cls := "MurmurDeskModel", name := "number", desc := "(II)J" } : Jvm.MethodName)) ∈ lw_tbl := lw_at lw_m0 119 rfl
theorem q131 : (Jvm.Cond.instanceMethod ({ cls := "MurmurDeskModel", name := "number", desc := "(II)J" } : Jvm.MethodName)) ∈ lw_all := lw_g (lw_at lw_m0 120 rfl) rfl
theorem q132 : (Jvm.Cond.code ({ cls := "MurmurDeskModel", name := "number", desc := "(II)J" } : Jvm.MethodName) prog_4_method_8_code (6 : Nat) (Option.some Jvm.ClassFile.FieldType.long)) ∈ lw_all := lw_g (lw_at lw_m0 121 rfl) rfl
theorem q133 : (Jvm.Cond.constant "MurmurDeskModel" (30 : Nat) (-862048943 : Int32)) ∈ lw_all := lw_g (lw_at lw_m0 122 rfl) rfl
theorem q134 : (Jvm.Cond.methodLink "MurmurDeskModel" (31 : Nat) ({ cls := "MurmurDeskModel", name := "turned", desc := "(II)I" } : Jvm.MethodName)) ∈ lw_all := lw_g (lw_at lw_m0 123 rfl) rfl
theorem q135 : (Jvm.Cond.privateMethod ({ cls := "MurmurDeskModel", name := "turned", desc := "(II)I" } : Jvm.MethodName)) ∈ lw_tbl := lw_at lw_m0 124 rfl
theorem q136 : (Jvm.Cond.instanceMethod ({ cls := "MurmurDeskModel", name := "turned", desc := "(II)I" } : Jvm.MethodName)) ∈ lw_all := lw_g (lw_at lw_m0 125 rfl) rfl
theorem q137 : (Jvm.Cond.code ({ cls := "MurmurDeskModel", name := "turned", desc := "(II)I" } : Jvm.MethodName) prog_4_method_6_code (3 : Nat) (Option.some Jvm.ClassFile.FieldType.int)) ∈ lw_all := lw_g (lw_at lw_m0 126 rfl) rfl
theorem q138 : (Jvm.Cond.constant "MurmurDeskModel" (34 : Nat) (461845907 : Int32)) ∈ lw_all := lw_g (lw_at lw_m0 127 rfl) rfl
theorem q139 : (Jvm.Cond.constant "MurmurDeskModel" (35 : Nat) (-430675100 : Int32)) ∈ lw_all := lw_g (lw_at lw_m0 128 rfl) rfl
theorem q140 : (Jvm.Cond.constant "MurmurDeskModel" (36 : Nat) (-2048144789 : Int32)) ∈ lw_all := lw_g (lw_at lw_m0 129 rfl) rfl
theorem q141 : (Jvm.Cond.constant "MurmurDeskModel" (37 : Nat) (-1028477387 : Int32)) ∈ lw_all := lw_g (lw_at lw_m0 130 rfl) rfl
theorem q143 : (Jvm.Cond.instanceMethod ({ cls := "MurmurDeskModel", name := "wide", desc := "(IIII)J" } : Jvm.MethodName)) ∈ lw_all := lw_g (lw_at lw_m0 132 rfl) rfl
theorem q144 : (Jvm.Cond.selects "MurmurDeskModel" ({ cls := "MurmurDeskModel", name := "wide", desc := "(IIII)J" } : Jvm.MethodName) ({ cls := "MurmurDeskModel", name := "wide", desc := "(IIII)J" } : Jvm.MethodName)) ∈ lw_all := lw_g (lw_at lw_m0 133 rfl) rfl
theorem q145 : (Jvm.Cond.code ({ cls := "MurmurDeskModel", name := "wide", desc := "(IIII)J" } : Jvm.MethodName) prog_4_method_13_code (13 : Nat) (Option.some Jvm.ClassFile.FieldType.long)) ∈ lw_all := lw_g (lw_at lw_m0 134 rfl) rfl
theorem q146 : (Jvm.Cond.methodLink "MurmurDeskModel" (49 : Nat) ({ cls := "MurmurDeskModel", name := "stirredOne", desc := "(J)J" } : Jvm.MethodName)) ∈ lw_all := lw_g (lw_at lw_m0 135 rfl) rfl
theorem q147 : (Jvm.Cond.privateMethod ({ cls := "MurmurDeskModel", name := "stirredOne", desc := "(J)J" } : Jvm.MethodName)) ∈ lw_tbl := lw_at lw_m0 136 rfl
theorem q148 : (Jvm.Cond.instanceMethod ({ cls := "MurmurDeskModel", name := "stirredOne", desc := "(J)J" } : Jvm.MethodName)) ∈ lw_all := lw_g (lw_at lw_m0 137 rfl) rfl
theorem q149 : (Jvm.Cond.code ({ cls := "MurmurDeskModel", name := "stirredOne", desc := "(J)J" } : Jvm.MethodName) prog_4_method_10_code (3 : Nat) (Option.some Jvm.ClassFile.FieldType.long)) ∈ lw_all := lw_g (lw_at lw_m0 138 rfl) rfl
theorem q150 : (Jvm.Cond.constantLong "MurmurDeskModel" (38 : Nat) (-8663945395140668459 : Int64)) ∈ lw_all := lw_g (lw_at lw_m0 139 rfl) rfl
theorem q151 : (Jvm.Cond.methodLink "MurmurDeskModel" (40 : Nat) ({ cls := "MurmurDeskModel", name := "turned", desc := "(JI)J" } : Jvm.MethodName)) ∈ lw_all := lw_g (lw_at lw_m0 140 rfl) rfl
theorem q152 : (Jvm.Cond.privateMethod ({ cls := "MurmurDeskModel", name := "turned", desc := "(JI)J" } : Jvm.MethodName)) ∈ lw_tbl := lw_at lw_m0 141 rfl
theorem q153 : (Jvm.Cond.instanceMethod ({ cls := "MurmurDeskModel", name := "turned", desc := "(JI)J" } : Jvm.MethodName)) ∈ lw_all := lw_g (lw_at lw_m0 142 rfl) rfl
theorem q154 : (Jvm.Cond.code ({ cls := "MurmurDeskModel", name := "turned", desc := "(JI)J" } : Jvm.MethodName) prog_4_method_7_code (4 : Nat) (Option.some Jvm.ClassFile.FieldType.long)) ∈ lw_all := lw_g (lw_at lw_m0 143 rfl) rfl
theorem q155 : (Jvm.Cond.constantLong "MurmurDeskModel" (43 : Nat) (5545529020109919103 : Int64)) ∈ lw_all := lw_g (lw_at lw_m0 144 rfl) rfl
theorem q156 : (Jvm.Cond.constantLong "MurmurDeskModel" (53 : Nat) (5 : Int64)) ∈ lw_all := lw_g (lw_at lw_m0 145 rfl) rfl
theorem q157 : (Jvm.Cond.constantLong "MurmurDeskModel" (55 : Nat) (1390208809 : Int64)) ∈ lw_all := lw_g (lw_at lw_m0 146 rfl) rfl
theorem q158 : (Jvm.Cond.methodLink "MurmurDeskModel" (57 : Nat) ({ cls := "MurmurDeskModel", name := "stirredTwo", desc := "(J)J" } : Jvm.MethodName)) ∈ lw_all := lw_g (lw_at lw_m0 147 rfl) rfl
theorem q159 : (Jvm.Cond.privateMethod ({ cls := "MurmurDeskModel", name := "stirredTwo", desc := "(J)J" } : Jvm.MethodName)) ∈ lw_tbl := lw_at lw_m0 148 rfl
theorem q160 : (Jvm.Cond.instanceMethod ({ cls := "MurmurDeskModel", name := "stirredTwo", desc := "(J)J" } : Jvm.MethodName)) ∈ lw_all := lw_g (lw_at lw_m0 149 rfl) rfl
theorem q161 : (Jvm.Cond.code ({ cls := "MurmurDeskModel", name := "stirredTwo", desc := "(J)J" } : Jvm.MethodName) prog_4_method_11_code (3 : Nat) (Option.some Jvm.ClassFile.FieldType.long)) ∈ lw_all := lw_g (lw_at lw_m0 150 rfl) rfl
theorem q162 : (Jvm.Cond.constantLong "MurmurDeskModel" (60 : Nat) (944331445 : Int64)) ∈ lw_all := lw_g (lw_at lw_m0 151 rfl) rfl
theorem q163 : (Jvm.Cond.methodLink "MurmurDeskModel" (62 : Nat) ({ cls := "MurmurDeskModel", name := "ended", desc := "(J)J" } : Jvm.MethodName)) ∈ lw_all := lw_g (lw_at lw_m0 152 rfl) rfl
theorem q164 : (Jvm.Cond.privateMethod ({ cls := "MurmurDeskModel", name := "ended", desc := "(J)J" } : Jvm.MethodName)) ∈ lw_tbl := lw_at lw_m0 153 rfl
theorem q165 : (Jvm.Cond.instanceMethod ({ cls := "MurmurDeskModel", name := "ended", desc := "(J)J" } : Jvm.MethodName)) ∈ lw_all := lw_g (lw_at lw_m0 154 rfl) rfl
theorem q166 : (Jvm.Cond.code ({ cls := "MurmurDeskModel", name := "ended", desc := "(J)J" } : Jvm.MethodName) prog_4_method_12_code (5 : Nat) (Option.some Jvm.ClassFile.FieldType.long)) ∈ lw_all := lw_g (lw_at lw_m0 155 rfl) rfl
theorem q167 : (Jvm.Cond.constantLong "MurmurDeskModel" (45 : Nat) (-49064778989728563 : Int64)) ∈ lw_all := lw_g (lw_at lw_m0 156 rfl) rfl
theorem q168 : (Jvm.Cond.constantLong "MurmurDeskModel" (47 : Nat) (-4265267296055464877 : Int64)) ∈ lw_all := lw_g (lw_at lw_m0 157 rfl) rfl
theorem in_X1 : ∀ w ∈ wsX10, w ∈ lw_all := lw_in wsX10 [102, 104] (by decide +kernel) (by decide +kernel)

/-! java/lang/Integer -/
set_option maxRecDepth 100000
def RJ0 : String := "java/lang/Integer"
abbrev cJ0_rotateLeft : ByteArray := prog_5_method_50_code
def yJ0_rotateLeft : MethodName := ⟨RJ0, "rotateLeft", "(II)I"⟩
def dkwJ0_rotateLeft_0 : List UInt8 := [26, 27, 120, 26, 27, 116, 124, 128, 172]
abbrev dktJ0_rotateLeft_0 : List UInt8 := dkwJ0_rotateLeft_0 ++ []
theorem dksJ0_rotateLeft_0 : cJ0_rotateLeft.data.toList.drop 0 = dktJ0_rotateLeft_0 := by decide +kernel
theorem dJ0_rotateLeft_0 : decode cJ0_rotateLeft 0 = .ok (.iload_n 0, 1) := dk_26 (dk_at dksJ0_rotateLeft_0 0 rfl rfl)
theorem dJ0_rotateLeft_1 : decode cJ0_rotateLeft 1 = .ok (.iload_n 1, 1) := dk_27 (dk_at dksJ0_rotateLeft_0 1 rfl rfl)
theorem dJ0_rotateLeft_2 : decode cJ0_rotateLeft 2 = .ok (.ishl, 1) := dk_120 (dk_at dksJ0_rotateLeft_0 2 rfl rfl)
theorem dJ0_rotateLeft_3 : decode cJ0_rotateLeft 3 = .ok (.iload_n 0, 1) := dk_26 (dk_at dksJ0_rotateLeft_0 3 rfl rfl)
theorem dJ0_rotateLeft_4 : decode cJ0_rotateLeft 4 = .ok (.iload_n 1, 1) := dk_27 (dk_at dksJ0_rotateLeft_0 4 rfl rfl)
theorem dJ0_rotateLeft_5 : decode cJ0_rotateLeft 5 = .ok (.ineg, 1) := dk_116 (dk_at dksJ0_rotateLeft_0 5 rfl rfl)
theorem dJ0_rotateLeft_6 : decode cJ0_rotateLeft 6 = .ok (.iushr, 1) := dk_124 (dk_at dksJ0_rotateLeft_0 6 rfl rfl)
theorem dJ0_rotateLeft_7 : decode cJ0_rotateLeft 7 = .ok (.ior, 1) := dk_128 (dk_at dksJ0_rotateLeft_0 7 rfl rfl)
theorem dJ0_rotateLeft_8 : decode cJ0_rotateLeft 8 = .ok (.ireturn, 1) := dk_172 (dk_at dksJ0_rotateLeft_0 8 rfl rfl)
theorem q15 : (Jvm.Cond.initialized "java/lang/Integer") ∈ lw_all := lw_g (lw_at lw_m0 4 rfl) rfl
theorem q66 : (Jvm.Cond.static ({ cls := "java/lang/Integer", name := "rotateLeft", desc := "(II)I" } : Jvm.MethodName)) ∈ lw_all := lw_g (lw_at lw_m0 55 rfl) rfl
theorem q67 : (Jvm.Cond.code ({ cls := "java/lang/Integer", name := "rotateLeft", desc := "(II)I" } : Jvm.MethodName) prog_5_method_50_code (2 : Nat) (Option.some Jvm.ClassFile.FieldType.int)) ∈ lw_all := lw_g (lw_at lw_m0 56 rfl) rfl

/-! java/lang/Long -/
set_option maxRecDepth 100000
def RJ1 : String := "java/lang/Long"
abbrev cJ1_rotateLeft : ByteArray := prog_6_method_51_code
def yJ1_rotateLeft : MethodName := ⟨RJ1, "rotateLeft", "(JI)J"⟩
def dkwJ1_rotateLeft_0 : List UInt8 := [30, 28, 121, 30, 28, 116, 125, 129, 173]
abbrev dktJ1_rotateLeft_0 : List UInt8 := dkwJ1_rotateLeft_0 ++ []
theorem dksJ1_rotateLeft_0 : cJ1_rotateLeft.data.toList.drop 0 = dktJ1_rotateLeft_0 := by decide +kernel
theorem dJ1_rotateLeft_0 : decode cJ1_rotateLeft 0 = .ok (.lload_n 0, 1) := dk_30 (dk_at dksJ1_rotateLeft_0 0 rfl rfl)
theorem dJ1_rotateLeft_1 : decode cJ1_rotateLeft 1 = .ok (.iload_n 2, 1) := dk_28 (dk_at dksJ1_rotateLeft_0 1 rfl rfl)
theorem dJ1_rotateLeft_2 : decode cJ1_rotateLeft 2 = .ok (.lshl, 1) := dk_121 (dk_at dksJ1_rotateLeft_0 2 rfl rfl)
theorem dJ1_rotateLeft_3 : decode cJ1_rotateLeft 3 = .ok (.lload_n 0, 1) := dk_30 (dk_at dksJ1_rotateLeft_0 3 rfl rfl)
theorem dJ1_rotateLeft_4 : decode cJ1_rotateLeft 4 = .ok (.iload_n 2, 1) := dk_28 (dk_at dksJ1_rotateLeft_0 4 rfl rfl)
theorem dJ1_rotateLeft_5 : decode cJ1_rotateLeft 5 = .ok (.ineg, 1) := dk_116 (dk_at dksJ1_rotateLeft_0 5 rfl rfl)
theorem dJ1_rotateLeft_6 : decode cJ1_rotateLeft 6 = .ok (.lushr, 1) := dk_125 (dk_at dksJ1_rotateLeft_0 6 rfl rfl)
theorem dJ1_rotateLeft_7 : decode cJ1_rotateLeft 7 = .ok (.lor, 1) := dk_129 (dk_at dksJ1_rotateLeft_0 7 rfl rfl)
theorem dJ1_rotateLeft_8 : decode cJ1_rotateLeft 8 = .ok (.lreturn, 1) := dk_173 (dk_at dksJ1_rotateLeft_0 8 rfl rfl)
theorem q16 : (Jvm.Cond.initialized "java/lang/Long") ∈ lw_all := lw_g (lw_at lw_m0 5 rfl) rfl
theorem q82 : (Jvm.Cond.static ({ cls := "java/lang/Long", name := "rotateLeft", desc := "(JI)J" } : Jvm.MethodName)) ∈ lw_all := lw_g (lw_at lw_m0 71 rfl) rfl
theorem q83 : (Jvm.Cond.code ({ cls := "java/lang/Long", name := "rotateLeft", desc := "(JI)J" } : Jvm.MethodName) prog_6_method_51_code (3 : Nat) (Option.some Jvm.ClassFile.FieldType.long)) ∈ lw_all := lw_g (lw_at lw_m0 72 rfl) rfl

/-! java/lang/Object -/
set_option maxRecDepth 100000
def RJ2 : String := "java/lang/Object"
abbrev cJ2_init : ByteArray := object_method_1_code
def yJ2_init : MethodName := ⟨RJ2, "<init>", "()V"⟩
theorem dJ2_init_0 : decode cJ2_init 0 = .ok (.return_, 1) := by decide +kernel
theorem q23 : (Jvm.Cond.instanceMethod ({ cls := "java/lang/Object", name := "<init>", desc := "()V" } : Jvm.MethodName)) ∈ lw_all := lw_g (lw_at lw_m0 12 rfl) rfl
theorem q24 : (Jvm.Cond.code ({ cls := "java/lang/Object", name := "<init>", desc := "()V" } : Jvm.MethodName) object_method_1_code (1 : Nat) (Option.none : Option Jvm.ClassFile.FieldType)) ∈ lw_all := lw_g (lw_at lw_m0 13 rfl) rfl

theorem q11 : (Jvm.Cond.initialized "MurmurDeskLaw") ∈ lw_all := lw_g (lw_at lw_m0 0 rfl) rfl
set_option maxRecDepth 100000
theorem q17 : (Jvm.Cond.classLink "MurmurDeskLaw" (7 : Nat) "MurmurDesk") ∈ lw_all := lw_g (lw_at lw_m0 6 rfl) rfl
theorem q19 : (Jvm.Cond.methodLink "MurmurDeskLaw" (9 : Nat) ({ cls := "MurmurDesk", name := "<init>", desc := "()V" } : Jvm.MethodName)) ∈ lw_all := lw_g (lw_at lw_m0 8 rfl) rfl
theorem q33 : (Jvm.Cond.methodLink "MurmurDeskLaw" (13 : Nat) ({ cls := "MurmurDesk", name := "put", desc := "(IIII)Z" } : Jvm.MethodName)) ∈ lw_all := lw_g (lw_at lw_m0 22 rfl) rfl
theorem q40 : (Jvm.Cond.methodLink "MurmurDeskLaw" (18 : Nat) ({ cls := "MurmurDesk", name := "trim", desc := "(I)V" } : Jvm.MethodName)) ∈ lw_all := lw_g (lw_at lw_m0 29 rfl) rfl
theorem q49 : (Jvm.Cond.methodLink "MurmurDeskLaw" (23 : Nat) ({ cls := "MurmurDesk", name := "small", desc := "(III)I" } : Jvm.MethodName)) ∈ lw_all := lw_g (lw_at lw_m0 38 rfl) rfl
theorem q72 : (Jvm.Cond.methodLink "MurmurDeskLaw" (28 : Nat) ({ cls := "MurmurDesk", name := "wide", desc := "(IIII)J" } : Jvm.MethodName)) ∈ lw_all := lw_g (lw_at lw_m0 61 rfl) rfl
theorem q94 : (Jvm.Cond.classLink "MurmurDeskLaw" (10 : Nat) "MurmurDeskModel") ∈ lw_all := lw_g (lw_at lw_m0 83 rfl) rfl
theorem q96 : (Jvm.Cond.methodLink "MurmurDeskLaw" (12 : Nat) ({ cls := "MurmurDeskModel", name := "<init>", desc := "()V" } : Jvm.MethodName)) ∈ lw_all := lw_g (lw_at lw_m0 85 rfl) rfl
theorem q107 : (Jvm.Cond.methodLink "MurmurDeskLaw" (17 : Nat) ({ cls := "MurmurDeskModel", name := "put", desc := "(IIII)Z" } : Jvm.MethodName)) ∈ lw_all := lw_g (lw_at lw_m0 96 rfl) rfl
theorem q112 : (Jvm.Cond.methodLink "MurmurDeskLaw" (22 : Nat) ({ cls := "MurmurDeskModel", name := "trim", desc := "(I)V" } : Jvm.MethodName)) ∈ lw_all := lw_g (lw_at lw_m0 101 rfl) rfl
theorem q121 : (Jvm.Cond.methodLink "MurmurDeskLaw" (27 : Nat) ({ cls := "MurmurDeskModel", name := "small", desc := "(III)I" } : Jvm.MethodName)) ∈ lw_all := lw_g (lw_at lw_m0 110 rfl) rfl
theorem q142 : (Jvm.Cond.methodLink "MurmurDeskLaw" (32 : Nat) ({ cls := "MurmurDeskModel", name := "wide", desc := "(IIII)J" } : Jvm.MethodName)) ∈ lw_all := lw_g (lw_at lw_m0 131 rfl) rfl

theorem q32 : (Jvm.Cond.arrayClass Jvm.ClassFile.FieldType.byte) ∈ lw_all := lw_g (lw_at lw_m0 21 rfl) rfl
set_option maxRecDepth 100000
theorem q93 : (Jvm.Cond.arrayClass Jvm.ClassFile.FieldType.long) ∈ lw_all := lw_g (lw_at lw_m0 82 rfl) rfl
theorem q111 : (Jvm.Cond.arrayClass Jvm.ClassFile.FieldType.int) ∈ lw_all := lw_g (lw_at lw_m0 100 rfl) rfl

/-! the law's own entry -/
set_option maxRecDepth 100000
abbrev cL_law : ByteArray := code
def dkwL_law_10 : List UInt8 := [153, 0, 5, 3, 172, 132, 3, 6, 167, 255, 36, 4, 172]
abbrev dktL_law_10 : List UInt8 := dkwL_law_10 ++ []
def dkwL_law_9 : List UInt8 := [29, 4, 96, 46, 42, 29, 5, 96, 46, 42, 29, 6, 96, 46, 42, 29, 7, 96, 46, 182, 0, 32, 148]
abbrev dktL_law_9 : List UInt8 := dkwL_law_9 ++ dktL_law_10
def dkwL_law_8 : List UInt8 := [29, 4, 96, 46, 42, 29, 5, 96, 46, 42, 29, 6, 96, 46, 42, 29, 7, 96, 46, 182, 0, 28, 44, 42]
abbrev dktL_law_8 : List UInt8 := dkwL_law_8 ++ dktL_law_9
def dkwL_law_7 : List UInt8 := [29, 4, 96, 46, 42, 29, 5, 96, 46, 42, 29, 6, 96, 46, 182, 0, 27, 159, 0, 59, 3, 172, 43, 42]
abbrev dktL_law_7 : List UInt8 := dkwL_law_7 ++ dktL_law_8
def dkwL_law_6 : List UInt8 := [167, 0, 100, 43, 42, 29, 4, 96, 46, 42, 29, 5, 96, 46, 42, 29, 6, 96, 46, 182, 0, 23, 44, 42]
abbrev dktL_law_6 : List UInt8 := dkwL_law_6 ++ dktL_law_7
def dkwL_law_5 : List UInt8 := [159, 0, 123, 3, 172, 43, 42, 29, 4, 96, 46, 182, 0, 18, 44, 42, 29, 4, 96, 46, 182, 0, 22]
abbrev dktL_law_5 : List UInt8 := dkwL_law_5 ++ dktL_law_6
def dkwL_law_4 : List UInt8 := [44, 42, 29, 4, 96, 46, 42, 29, 5, 96, 46, 42, 29, 6, 96, 46, 42, 29, 7, 96, 46, 182, 0, 17]
abbrev dktL_law_4 : List UInt8 := dkwL_law_4 ++ dktL_law_5
def dkwL_law_3 : List UInt8 := [43, 42, 29, 4, 96, 46, 42, 29, 5, 96, 46, 42, 29, 6, 96, 46, 42, 29, 7, 96, 46, 182, 0, 13]
abbrev dktL_law_3 : List UInt8 := dkwL_law_3 ++ dktL_law_4
def dkwL_law_2 : List UInt8 := [170, 0, 0, 0, 0, 0, 0, 203, 0, 0, 0, 0, 0, 0, 0, 3, 0, 0, 0, 32, 0, 0, 0, 85, 0, 0, 0, 106, 0, 0, 0, 149]
abbrev dktL_law_2 : List UInt8 := dkwL_law_2 ++ dktL_law_3
def dkwL_law_1 : List UInt8 := [163, 0, 217, 42, 29, 46, 6, 126]
abbrev dktL_law_1 : List UInt8 := dkwL_law_1 ++ dktL_law_2
def dkwL_law_0 : List UInt8 := [187, 0, 7, 89, 183, 0, 9, 76, 187, 0, 10, 89, 183, 0, 12, 77, 3, 62, 29, 42, 190, 16, 6, 100]
abbrev dktL_law_0 : List UInt8 := dkwL_law_0 ++ dktL_law_1
theorem dksL_law_0 : cL_law.data.toList.drop 0 = dktL_law_0 := by decide +kernel
theorem dksL_law_1 : cL_law.data.toList.drop 24 = dktL_law_1 := dk_seg dksL_law_0 24 rfl rfl
theorem dksL_law_2 : cL_law.data.toList.drop 32 = dktL_law_2 := dk_seg dksL_law_1 8 rfl rfl
theorem dksL_law_3 : cL_law.data.toList.drop 64 = dktL_law_3 := dk_seg dksL_law_2 32 rfl rfl
theorem dksL_law_4 : cL_law.data.toList.drop 88 = dktL_law_4 := dk_seg dksL_law_3 24 rfl rfl
theorem dksL_law_5 : cL_law.data.toList.drop 112 = dktL_law_5 := dk_seg dksL_law_4 24 rfl rfl
theorem dksL_law_6 : cL_law.data.toList.drop 135 = dktL_law_6 := dk_seg dksL_law_5 23 rfl rfl
theorem dksL_law_7 : cL_law.data.toList.drop 159 = dktL_law_7 := dk_seg dksL_law_6 24 rfl rfl
theorem dksL_law_8 : cL_law.data.toList.drop 183 = dktL_law_8 := dk_seg dksL_law_7 24 rfl rfl
theorem dksL_law_9 : cL_law.data.toList.drop 207 = dktL_law_9 := dk_seg dksL_law_8 24 rfl rfl
theorem dksL_law_10 : cL_law.data.toList.drop 230 = dktL_law_10 := dk_seg dksL_law_9 23 rfl rfl
theorem dL_law_0 : decode cL_law 0 = .ok (.new 7, 3) := dk_187 0 7 (dk_at dksL_law_0 0 rfl rfl)
theorem dL_law_3 : decode cL_law 3 = .ok (.dup, 1) := dk_89 (dk_at dksL_law_0 3 rfl rfl)
theorem dL_law_4 : decode cL_law 4 = .ok (.invokespecial 9, 3) := dk_183 0 9 (dk_at dksL_law_0 4 rfl rfl)
theorem dL_law_7 : decode cL_law 7 = .ok (.astore_n 1, 1) := dk_76 (dk_at dksL_law_0 7 rfl rfl)
theorem dL_law_8 : decode cL_law 8 = .ok (.new 10, 3) := dk_187 0 10 (dk_at dksL_law_0 8 rfl rfl)
theorem dL_law_11 : decode cL_law 11 = .ok (.dup, 1) := dk_89 (dk_at dksL_law_0 11 rfl rfl)
theorem dL_law_12 : decode cL_law 12 = .ok (.invokespecial 12, 3) := dk_183 0 12 (dk_at dksL_law_0 12 rfl rfl)
theorem dL_law_15 : decode cL_law 15 = .ok (.astore_n 2, 1) := dk_77 (dk_at dksL_law_0 15 rfl rfl)
theorem dL_law_16 : decode cL_law 16 = .ok (.iconst 0, 1) := dk_3 (dk_at dksL_law_0 16 rfl rfl)
theorem dL_law_17 : decode cL_law 17 = .ok (.istore_n 3, 1) := dk_62 (dk_at dksL_law_0 17 rfl rfl)
theorem dL_law_18 : decode cL_law 18 = .ok (.iload_n 3, 1) := dk_29 (dk_at dksL_law_0 18 rfl rfl)
theorem dL_law_19 : decode cL_law 19 = .ok (.aload_n 0, 1) := dk_42 (dk_at dksL_law_0 19 rfl rfl)
theorem dL_law_20 : decode cL_law 20 = .ok (.arraylength, 1) := dk_190 (dk_at dksL_law_0 20 rfl rfl)
theorem dL_law_21 : decode cL_law 21 = .ok (.bipush 6, 2) := dk_16 6 (dk_at dksL_law_0 21 rfl rfl)
theorem dL_law_23 : decode cL_law 23 = .ok (.isub, 1) := dk_100 (dk_at dksL_law_0 23 rfl rfl)
theorem dL_law_24 : decode cL_law 24 = .ok (.if_icmp .gt 217, 3) := dk_163 0 217 (dk_at dksL_law_1 0 rfl rfl)
theorem dL_law_27 : decode cL_law 27 = .ok (.aload_n 0, 1) := dk_42 (dk_at dksL_law_1 3 rfl rfl)
theorem dL_law_28 : decode cL_law 28 = .ok (.iload_n 3, 1) := dk_29 (dk_at dksL_law_1 4 rfl rfl)
theorem dL_law_29 : decode cL_law 29 = .ok (.iaload, 1) := dk_46 (dk_at dksL_law_1 5 rfl rfl)
theorem dL_law_30 : decode cL_law 30 = .ok (.iconst 3, 1) := dk_6 (dk_at dksL_law_1 6 rfl rfl)
theorem dL_law_31 : decode cL_law 31 = .ok (.iand, 1) := dk_126 (dk_at dksL_law_1 7 rfl rfl)
theorem dL_law_32 : decode cL_law 32 = .ok (.tableswitch 203 0 3 #[32, 85, 106, 149], 32) := by decide +kernel
theorem dL_law_64 : decode cL_law 64 = .ok (.aload_n 1, 1) := dk_43 (dk_at dksL_law_3 0 rfl rfl)
theorem dL_law_65 : decode cL_law 65 = .ok (.aload_n 0, 1) := dk_42 (dk_at dksL_law_3 1 rfl rfl)
theorem dL_law_66 : decode cL_law 66 = .ok (.iload_n 3, 1) := dk_29 (dk_at dksL_law_3 2 rfl rfl)
theorem dL_law_67 : decode cL_law 67 = .ok (.iconst 1, 1) := dk_4 (dk_at dksL_law_3 3 rfl rfl)
theorem dL_law_68 : decode cL_law 68 = .ok (.iadd, 1) := dk_96 (dk_at dksL_law_3 4 rfl rfl)
theorem dL_law_69 : decode cL_law 69 = .ok (.iaload, 1) := dk_46 (dk_at dksL_law_3 5 rfl rfl)
theorem dL_law_70 : decode cL_law 70 = .ok (.aload_n 0, 1) := dk_42 (dk_at dksL_law_3 6 rfl rfl)
theorem dL_law_71 : decode cL_law 71 = .ok (.iload_n 3, 1) := dk_29 (dk_at dksL_law_3 7 rfl rfl)
theorem dL_law_72 : decode cL_law 72 = .ok (.iconst 2, 1) := dk_5 (dk_at dksL_law_3 8 rfl rfl)
theorem dL_law_73 : decode cL_law 73 = .ok (.iadd, 1) := dk_96 (dk_at dksL_law_3 9 rfl rfl)
theorem dL_law_74 : decode cL_law 74 = .ok (.iaload, 1) := dk_46 (dk_at dksL_law_3 10 rfl rfl)
theorem dL_law_75 : decode cL_law 75 = .ok (.aload_n 0, 1) := dk_42 (dk_at dksL_law_3 11 rfl rfl)
theorem dL_law_76 : decode cL_law 76 = .ok (.iload_n 3, 1) := dk_29 (dk_at dksL_law_3 12 rfl rfl)
theorem dL_law_77 : decode cL_law 77 = .ok (.iconst 3, 1) := dk_6 (dk_at dksL_law_3 13 rfl rfl)
theorem dL_law_78 : decode cL_law 78 = .ok (.iadd, 1) := dk_96 (dk_at dksL_law_3 14 rfl rfl)
theorem dL_law_79 : decode cL_law 79 = .ok (.iaload, 1) := dk_46 (dk_at dksL_law_3 15 rfl rfl)
theorem dL_law_80 : decode cL_law 80 = .ok (.aload_n 0, 1) := dk_42 (dk_at dksL_law_3 16 rfl rfl)
theorem dL_law_81 : decode cL_law 81 = .ok (.iload_n 3, 1) := dk_29 (dk_at dksL_law_3 17 rfl rfl)
theorem dL_law_82 : decode cL_law 82 = .ok (.iconst 4, 1) := dk_7 (dk_at dksL_law_3 18 rfl rfl)
theorem dL_law_83 : decode cL_law 83 = .ok (.iadd, 1) := dk_96 (dk_at dksL_law_3 19 rfl rfl)
theorem dL_law_84 : decode cL_law 84 = .ok (.iaload, 1) := dk_46 (dk_at dksL_law_3 20 rfl rfl)
theorem dL_law_85 : decode cL_law 85 = .ok (.invokevirtual 13, 3) := dk_182 0 13 (dk_at dksL_law_3 21 rfl rfl)
theorem dL_law_88 : decode cL_law 88 = .ok (.aload_n 2, 1) := dk_44 (dk_at dksL_law_4 0 rfl rfl)
theorem dL_law_89 : decode cL_law 89 = .ok (.aload_n 0, 1) := dk_42 (dk_at dksL_law_4 1 rfl rfl)
theorem dL_law_90 : decode cL_law 90 = .ok (.iload_n 3, 1) := dk_29 (dk_at dksL_law_4 2 rfl rfl)
theorem dL_law_91 : decode cL_law 91 = .ok (.iconst 1, 1) := dk_4 (dk_at dksL_law_4 3 rfl rfl)
theorem dL_law_92 : decode cL_law 92 = .ok (.iadd, 1) := dk_96 (dk_at dksL_law_4 4 rfl rfl)
theorem dL_law_93 : decode cL_law 93 = .ok (.iaload, 1) := dk_46 (dk_at dksL_law_4 5 rfl rfl)
theorem dL_law_94 : decode cL_law 94 = .ok (.aload_n 0, 1) := dk_42 (dk_at dksL_law_4 6 rfl rfl)
theorem dL_law_95 : decode cL_law 95 = .ok (.iload_n 3, 1) := dk_29 (dk_at dksL_law_4 7 rfl rfl)
theorem dL_law_96 : decode cL_law 96 = .ok (.iconst 2, 1) := dk_5 (dk_at dksL_law_4 8 rfl rfl)
theorem dL_law_97 : decode cL_law 97 = .ok (.iadd, 1) := dk_96 (dk_at dksL_law_4 9 rfl rfl)
theorem dL_law_98 : decode cL_law 98 = .ok (.iaload, 1) := dk_46 (dk_at dksL_law_4 10 rfl rfl)
theorem dL_law_99 : decode cL_law 99 = .ok (.aload_n 0, 1) := dk_42 (dk_at dksL_law_4 11 rfl rfl)
theorem dL_law_100 : decode cL_law 100 = .ok (.iload_n 3, 1) := dk_29 (dk_at dksL_law_4 12 rfl rfl)
theorem dL_law_101 : decode cL_law 101 = .ok (.iconst 3, 1) := dk_6 (dk_at dksL_law_4 13 rfl rfl)
theorem dL_law_102 : decode cL_law 102 = .ok (.iadd, 1) := dk_96 (dk_at dksL_law_4 14 rfl rfl)
theorem dL_law_103 : decode cL_law 103 = .ok (.iaload, 1) := dk_46 (dk_at dksL_law_4 15 rfl rfl)
theorem dL_law_104 : decode cL_law 104 = .ok (.aload_n 0, 1) := dk_42 (dk_at dksL_law_4 16 rfl rfl)
theorem dL_law_105 : decode cL_law 105 = .ok (.iload_n 3, 1) := dk_29 (dk_at dksL_law_4 17 rfl rfl)
theorem dL_law_106 : decode cL_law 106 = .ok (.iconst 4, 1) := dk_7 (dk_at dksL_law_4 18 rfl rfl)
theorem dL_law_107 : decode cL_law 107 = .ok (.iadd, 1) := dk_96 (dk_at dksL_law_4 19 rfl rfl)
theorem dL_law_108 : decode cL_law 108 = .ok (.iaload, 1) := dk_46 (dk_at dksL_law_4 20 rfl rfl)
theorem dL_law_109 : decode cL_law 109 = .ok (.invokevirtual 17, 3) := dk_182 0 17 (dk_at dksL_law_4 21 rfl rfl)
theorem dL_law_112 : decode cL_law 112 = .ok (.if_icmp .eq 123, 3) := dk_159 0 123 (dk_at dksL_law_5 0 rfl rfl)
theorem dL_law_115 : decode cL_law 115 = .ok (.iconst 0, 1) := dk_3 (dk_at dksL_law_5 3 rfl rfl)
theorem dL_law_116 : decode cL_law 116 = .ok (.ireturn, 1) := dk_172 (dk_at dksL_law_5 4 rfl rfl)
theorem dL_law_117 : decode cL_law 117 = .ok (.aload_n 1, 1) := dk_43 (dk_at dksL_law_5 5 rfl rfl)
theorem dL_law_118 : decode cL_law 118 = .ok (.aload_n 0, 1) := dk_42 (dk_at dksL_law_5 6 rfl rfl)
theorem dL_law_119 : decode cL_law 119 = .ok (.iload_n 3, 1) := dk_29 (dk_at dksL_law_5 7 rfl rfl)
theorem dL_law_120 : decode cL_law 120 = .ok (.iconst 1, 1) := dk_4 (dk_at dksL_law_5 8 rfl rfl)
theorem dL_law_121 : decode cL_law 121 = .ok (.iadd, 1) := dk_96 (dk_at dksL_law_5 9 rfl rfl)
theorem dL_law_122 : decode cL_law 122 = .ok (.iaload, 1) := dk_46 (dk_at dksL_law_5 10 rfl rfl)
theorem dL_law_123 : decode cL_law 123 = .ok (.invokevirtual 18, 3) := dk_182 0 18 (dk_at dksL_law_5 11 rfl rfl)
theorem dL_law_126 : decode cL_law 126 = .ok (.aload_n 2, 1) := dk_44 (dk_at dksL_law_5 14 rfl rfl)
theorem dL_law_127 : decode cL_law 127 = .ok (.aload_n 0, 1) := dk_42 (dk_at dksL_law_5 15 rfl rfl)
theorem dL_law_128 : decode cL_law 128 = .ok (.iload_n 3, 1) := dk_29 (dk_at dksL_law_5 16 rfl rfl)
theorem dL_law_129 : decode cL_law 129 = .ok (.iconst 1, 1) := dk_4 (dk_at dksL_law_5 17 rfl rfl)
theorem dL_law_130 : decode cL_law 130 = .ok (.iadd, 1) := dk_96 (dk_at dksL_law_5 18 rfl rfl)
theorem dL_law_131 : decode cL_law 131 = .ok (.iaload, 1) := dk_46 (dk_at dksL_law_5 19 rfl rfl)
theorem dL_law_132 : decode cL_law 132 = .ok (.invokevirtual 22, 3) := dk_182 0 22 (dk_at dksL_law_5 20 rfl rfl)
theorem dL_law_135 : decode cL_law 135 = .ok (.goto 100, 3) := dk_167 0 100 (dk_at dksL_law_6 0 rfl rfl)
theorem dL_law_138 : decode cL_law 138 = .ok (.aload_n 1, 1) := dk_43 (dk_at dksL_law_6 3 rfl rfl)
theorem dL_law_139 : decode cL_law 139 = .ok (.aload_n 0, 1) := dk_42 (dk_at dksL_law_6 4 rfl rfl)
theorem dL_law_140 : decode cL_law 140 = .ok (.iload_n 3, 1) := dk_29 (dk_at dksL_law_6 5 rfl rfl)
theorem dL_law_141 : decode cL_law 141 = .ok (.iconst 1, 1) := dk_4 (dk_at dksL_law_6 6 rfl rfl)
theorem dL_law_142 : decode cL_law 142 = .ok (.iadd, 1) := dk_96 (dk_at dksL_law_6 7 rfl rfl)
theorem dL_law_143 : decode cL_law 143 = .ok (.iaload, 1) := dk_46 (dk_at dksL_law_6 8 rfl rfl)
theorem dL_law_144 : decode cL_law 144 = .ok (.aload_n 0, 1) := dk_42 (dk_at dksL_law_6 9 rfl rfl)
theorem dL_law_145 : decode cL_law 145 = .ok (.iload_n 3, 1) := dk_29 (dk_at dksL_law_6 10 rfl rfl)
theorem dL_law_146 : decode cL_law 146 = .ok (.iconst 2, 1) := dk_5 (dk_at dksL_law_6 11 rfl rfl)
theorem dL_law_147 : decode cL_law 147 = .ok (.iadd, 1) := dk_96 (dk_at dksL_law_6 12 rfl rfl)
theorem dL_law_148 : decode cL_law 148 = .ok (.iaload, 1) := dk_46 (dk_at dksL_law_6 13 rfl rfl)
theorem dL_law_149 : decode cL_law 149 = .ok (.aload_n 0, 1) := dk_42 (dk_at dksL_law_6 14 rfl rfl)
theorem dL_law_150 : decode cL_law 150 = .ok (.iload_n 3, 1) := dk_29 (dk_at dksL_law_6 15 rfl rfl)
theorem dL_law_151 : decode cL_law 151 = .ok (.iconst 3, 1) := dk_6 (dk_at dksL_law_6 16 rfl rfl)
theorem dL_law_152 : decode cL_law 152 = .ok (.iadd, 1) := dk_96 (dk_at dksL_law_6 17 rfl rfl)
theorem dL_law_153 : decode cL_law 153 = .ok (.iaload, 1) := dk_46 (dk_at dksL_law_6 18 rfl rfl)
theorem dL_law_154 : decode cL_law 154 = .ok (.invokevirtual 23, 3) := dk_182 0 23 (dk_at dksL_law_6 19 rfl rfl)
theorem dL_law_157 : decode cL_law 157 = .ok (.aload_n 2, 1) := dk_44 (dk_at dksL_law_6 22 rfl rfl)
theorem dL_law_158 : decode cL_law 158 = .ok (.aload_n 0, 1) := dk_42 (dk_at dksL_law_6 23 rfl rfl)
theorem dL_law_159 : decode cL_law 159 = .ok (.iload_n 3, 1) := dk_29 (dk_at dksL_law_7 0 rfl rfl)
theorem dL_law_160 : decode cL_law 160 = .ok (.iconst 1, 1) := dk_4 (dk_at dksL_law_7 1 rfl rfl)
theorem dL_law_161 : decode cL_law 161 = .ok (.iadd, 1) := dk_96 (dk_at dksL_law_7 2 rfl rfl)
theorem dL_law_162 : decode cL_law 162 = .ok (.iaload, 1) := dk_46 (dk_at dksL_law_7 3 rfl rfl)
theorem dL_law_163 : decode cL_law 163 = .ok (.aload_n 0, 1) := dk_42 (dk_at dksL_law_7 4 rfl rfl)
theorem dL_law_164 : decode cL_law 164 = .ok (.iload_n 3, 1) := dk_29 (dk_at dksL_law_7 5 rfl rfl)
theorem dL_law_165 : decode cL_law 165 = .ok (.iconst 2, 1) := dk_5 (dk_at dksL_law_7 6 rfl rfl)
theorem dL_law_166 : decode cL_law 166 = .ok (.iadd, 1) := dk_96 (dk_at dksL_law_7 7 rfl rfl)
theorem dL_law_167 : decode cL_law 167 = .ok (.iaload, 1) := dk_46 (dk_at dksL_law_7 8 rfl rfl)
theorem dL_law_168 : decode cL_law 168 = .ok (.aload_n 0, 1) := dk_42 (dk_at dksL_law_7 9 rfl rfl)
theorem dL_law_169 : decode cL_law 169 = .ok (.iload_n 3, 1) := dk_29 (dk_at dksL_law_7 10 rfl rfl)
theorem dL_law_170 : decode cL_law 170 = .ok (.iconst 3, 1) := dk_6 (dk_at dksL_law_7 11 rfl rfl)
theorem dL_law_171 : decode cL_law 171 = .ok (.iadd, 1) := dk_96 (dk_at dksL_law_7 12 rfl rfl)
theorem dL_law_172 : decode cL_law 172 = .ok (.iaload, 1) := dk_46 (dk_at dksL_law_7 13 rfl rfl)
theorem dL_law_173 : decode cL_law 173 = .ok (.invokevirtual 27, 3) := dk_182 0 27 (dk_at dksL_law_7 14 rfl rfl)
theorem dL_law_176 : decode cL_law 176 = .ok (.if_icmp .eq 59, 3) := dk_159 0 59 (dk_at dksL_law_7 17 rfl rfl)
theorem dL_law_179 : decode cL_law 179 = .ok (.iconst 0, 1) := dk_3 (dk_at dksL_law_7 20 rfl rfl)
theorem dL_law_180 : decode cL_law 180 = .ok (.ireturn, 1) := dk_172 (dk_at dksL_law_7 21 rfl rfl)
theorem dL_law_181 : decode cL_law 181 = .ok (.aload_n 1, 1) := dk_43 (dk_at dksL_law_7 22 rfl rfl)
theorem dL_law_182 : decode cL_law 182 = .ok (.aload_n 0, 1) := dk_42 (dk_at dksL_law_7 23 rfl rfl)
theorem dL_law_183 : decode cL_law 183 = .ok (.iload_n 3, 1) := dk_29 (dk_at dksL_law_8 0 rfl rfl)
theorem dL_law_184 : decode cL_law 184 = .ok (.iconst 1, 1) := dk_4 (dk_at dksL_law_8 1 rfl rfl)
theorem dL_law_185 : decode cL_law 185 = .ok (.iadd, 1) := dk_96 (dk_at dksL_law_8 2 rfl rfl)
theorem dL_law_186 : decode cL_law 186 = .ok (.iaload, 1) := dk_46 (dk_at dksL_law_8 3 rfl rfl)
theorem dL_law_187 : decode cL_law 187 = .ok (.aload_n 0, 1) := dk_42 (dk_at dksL_law_8 4 rfl rfl)
theorem dL_law_188 : decode cL_law 188 = .ok (.iload_n 3, 1) := dk_29 (dk_at dksL_law_8 5 rfl rfl)
theorem dL_law_189 : decode cL_law 189 = .ok (.iconst 2, 1) := dk_5 (dk_at dksL_law_8 6 rfl rfl)
theorem dL_law_190 : decode cL_law 190 = .ok (.iadd, 1) := dk_96 (dk_at dksL_law_8 7 rfl rfl)
theorem dL_law_191 : decode cL_law 191 = .ok (.iaload, 1) := dk_46 (dk_at dksL_law_8 8 rfl rfl)
theorem dL_law_192 : decode cL_law 192 = .ok (.aload_n 0, 1) := dk_42 (dk_at dksL_law_8 9 rfl rfl)
theorem dL_law_193 : decode cL_law 193 = .ok (.iload_n 3, 1) := dk_29 (dk_at dksL_law_8 10 rfl rfl)
theorem dL_law_194 : decode cL_law 194 = .ok (.iconst 3, 1) := dk_6 (dk_at dksL_law_8 11 rfl rfl)
theorem dL_law_195 : decode cL_law 195 = .ok (.iadd, 1) := dk_96 (dk_at dksL_law_8 12 rfl rfl)
theorem dL_law_196 : decode cL_law 196 = .ok (.iaload, 1) := dk_46 (dk_at dksL_law_8 13 rfl rfl)
theorem dL_law_197 : decode cL_law 197 = .ok (.aload_n 0, 1) := dk_42 (dk_at dksL_law_8 14 rfl rfl)
theorem dL_law_198 : decode cL_law 198 = .ok (.iload_n 3, 1) := dk_29 (dk_at dksL_law_8 15 rfl rfl)
theorem dL_law_199 : decode cL_law 199 = .ok (.iconst 4, 1) := dk_7 (dk_at dksL_law_8 16 rfl rfl)
theorem dL_law_200 : decode cL_law 200 = .ok (.iadd, 1) := dk_96 (dk_at dksL_law_8 17 rfl rfl)
theorem dL_law_201 : decode cL_law 201 = .ok (.iaload, 1) := dk_46 (dk_at dksL_law_8 18 rfl rfl)
theorem dL_law_202 : decode cL_law 202 = .ok (.invokevirtual 28, 3) := dk_182 0 28 (dk_at dksL_law_8 19 rfl rfl)
theorem dL_law_205 : decode cL_law 205 = .ok (.aload_n 2, 1) := dk_44 (dk_at dksL_law_8 22 rfl rfl)
theorem dL_law_206 : decode cL_law 206 = .ok (.aload_n 0, 1) := dk_42 (dk_at dksL_law_8 23 rfl rfl)
theorem dL_law_207 : decode cL_law 207 = .ok (.iload_n 3, 1) := dk_29 (dk_at dksL_law_9 0 rfl rfl)
theorem dL_law_208 : decode cL_law 208 = .ok (.iconst 1, 1) := dk_4 (dk_at dksL_law_9 1 rfl rfl)
theorem dL_law_209 : decode cL_law 209 = .ok (.iadd, 1) := dk_96 (dk_at dksL_law_9 2 rfl rfl)
theorem dL_law_210 : decode cL_law 210 = .ok (.iaload, 1) := dk_46 (dk_at dksL_law_9 3 rfl rfl)
theorem dL_law_211 : decode cL_law 211 = .ok (.aload_n 0, 1) := dk_42 (dk_at dksL_law_9 4 rfl rfl)
theorem dL_law_212 : decode cL_law 212 = .ok (.iload_n 3, 1) := dk_29 (dk_at dksL_law_9 5 rfl rfl)
theorem dL_law_213 : decode cL_law 213 = .ok (.iconst 2, 1) := dk_5 (dk_at dksL_law_9 6 rfl rfl)
theorem dL_law_214 : decode cL_law 214 = .ok (.iadd, 1) := dk_96 (dk_at dksL_law_9 7 rfl rfl)
theorem dL_law_215 : decode cL_law 215 = .ok (.iaload, 1) := dk_46 (dk_at dksL_law_9 8 rfl rfl)
theorem dL_law_216 : decode cL_law 216 = .ok (.aload_n 0, 1) := dk_42 (dk_at dksL_law_9 9 rfl rfl)
theorem dL_law_217 : decode cL_law 217 = .ok (.iload_n 3, 1) := dk_29 (dk_at dksL_law_9 10 rfl rfl)
theorem dL_law_218 : decode cL_law 218 = .ok (.iconst 3, 1) := dk_6 (dk_at dksL_law_9 11 rfl rfl)
theorem dL_law_219 : decode cL_law 219 = .ok (.iadd, 1) := dk_96 (dk_at dksL_law_9 12 rfl rfl)
theorem dL_law_220 : decode cL_law 220 = .ok (.iaload, 1) := dk_46 (dk_at dksL_law_9 13 rfl rfl)
theorem dL_law_221 : decode cL_law 221 = .ok (.aload_n 0, 1) := dk_42 (dk_at dksL_law_9 14 rfl rfl)
theorem dL_law_222 : decode cL_law 222 = .ok (.iload_n 3, 1) := dk_29 (dk_at dksL_law_9 15 rfl rfl)
theorem dL_law_223 : decode cL_law 223 = .ok (.iconst 4, 1) := dk_7 (dk_at dksL_law_9 16 rfl rfl)
theorem dL_law_224 : decode cL_law 224 = .ok (.iadd, 1) := dk_96 (dk_at dksL_law_9 17 rfl rfl)
theorem dL_law_225 : decode cL_law 225 = .ok (.iaload, 1) := dk_46 (dk_at dksL_law_9 18 rfl rfl)
theorem dL_law_226 : decode cL_law 226 = .ok (.invokevirtual 32, 3) := dk_182 0 32 (dk_at dksL_law_9 19 rfl rfl)
theorem dL_law_229 : decode cL_law 229 = .ok (.lcmp, 1) := dk_148 (dk_at dksL_law_9 22 rfl rfl)
theorem dL_law_230 : decode cL_law 230 = .ok (.ifCond .eq 5, 3) := dk_153 0 5 (dk_at dksL_law_10 0 rfl rfl)
theorem dL_law_233 : decode cL_law 233 = .ok (.iconst 0, 1) := dk_3 (dk_at dksL_law_10 3 rfl rfl)
theorem dL_law_234 : decode cL_law 234 = .ok (.ireturn, 1) := dk_172 (dk_at dksL_law_10 4 rfl rfl)
theorem dL_law_235 : decode cL_law 235 = .ok (.iinc 3 6, 3) := dk_132 3 6 (dk_at dksL_law_10 5 rfl rfl)
theorem dL_law_238 : decode cL_law 238 = .ok (.goto (-220), 3) := dk_167 255 36 (dk_at dksL_law_10 8 rfl rfl)
theorem dL_law_241 : decode cL_law 241 = .ok (.iconst 1, 1) := dk_4 (dk_at dksL_law_10 11 rfl rfl)
theorem dL_law_242 : decode cL_law 242 = .ok (.ireturn, 1) := dk_172 (dk_at dksL_law_10 12 rfl rfl)
end
section
/-! Murmur3 -/
set_option maxRecDepth 100000
def RX2 : String := "Murmur3"
abbrev cX2_hash32 : ByteArray := prog_1_method_2_code
def yX2_hash32 : MethodName := ⟨RX2, "hash32", "([BII)I"⟩
def dkwX2_hash32_11 : List UInt8 := [16, 16, 124, 130, 62, 29, 172]
abbrev dktX2_hash32_11 : List UInt8 := dkwX2_hash32_11 ++ []
def dkwX2_hash32_10 : List UInt8 := [16, 16, 124, 130, 62, 29, 18, 18, 104, 62, 29, 29, 16, 13, 124, 130, 62, 29, 18, 19, 104, 62, 29, 29]
abbrev dktX2_hash32_10 : List UInt8 := dkwX2_hash32_10 ++ dktX2_hash32_11
def dkwX2_hash32_9 : List UInt8 := [184, 0, 10, 54, 6, 21, 6, 18, 16, 104, 54, 6, 29, 21, 6, 130, 62, 29, 27, 130, 62, 29, 29]
abbrev dktX2_hash32_9 : List UInt8 := dkwX2_hash32_9 ++ dktX2_hash32_10
def dkwX2_hash32_8 : List UInt8 := [120, 130, 54, 6, 21, 6, 42, 21, 5, 51, 130, 54, 6, 21, 6, 18, 9, 104, 54, 6, 21, 6, 16, 15]
abbrev dktX2_hash32_8 : List UInt8 := dkwX2_hash32_8 ++ dktX2_hash32_9
def dkwX2_hash32_7 : List UInt8 := [21, 6, 42, 21, 5, 5, 96, 51, 16, 16, 120, 130, 54, 6, 21, 6, 42, 21, 5, 4, 96, 51, 16, 8]
abbrev dktX2_hash32_7 : List UInt8 := dkwX2_hash32_7 ++ dktX2_hash32_8
def dkwX2_hash32_6 : List UInt8 := [170, 0, 0, 0, 0, 91, 0, 0, 0, 1, 0, 0, 0, 3, 0, 0, 0, 54, 0, 0, 0, 40, 0, 0, 0, 26]
abbrev dktX2_hash32_6 : List UInt8 := dkwX2_hash32_6 ++ dktX2_hash32_7
def dkwX2_hash32_5 : List UInt8 := [167, 255, 148, 21, 4, 5, 120, 54, 5, 3, 54, 6, 27, 21, 5, 100]
abbrev dktX2_hash32_5 : List UInt8 := dkwX2_hash32_5 ++ dktX2_hash32_6
def dkwX2_hash32_4 : List UInt8 := [54, 7, 29, 21, 7, 130, 62, 29, 16, 13, 184, 0, 10, 8, 104, 18, 17, 96, 62, 132, 5, 1]
abbrev dktX2_hash32_4 : List UInt8 := dkwX2_hash32_4 ++ dktX2_hash32_5
def dkwX2_hash32_3 : List UInt8 := [128, 54, 7, 21, 7, 18, 9, 104, 54, 7, 21, 7, 16, 15, 184, 0, 10, 54, 7, 21, 7, 18, 16, 104]
abbrev dktX2_hash32_3 : List UInt8 := dkwX2_hash32_3 ++ dktX2_hash32_4
def dkwX2_hash32_2 : List UInt8 := [5, 96, 51, 17, 0, 255, 126, 16, 16, 120, 128, 42, 21, 6, 6, 96, 51, 17, 0, 255, 126, 16, 24, 120]
abbrev dktX2_hash32_2 : List UInt8 := dkwX2_hash32_2 ++ dktX2_hash32_3
def dkwX2_hash32_1 : List UInt8 := [21, 6, 51, 17, 0, 255, 126, 42, 21, 6, 4, 96, 51, 17, 0, 255, 126, 16, 8, 120, 128, 42, 21, 6]
abbrev dktX2_hash32_1 : List UInt8 := dkwX2_hash32_1 ++ dktX2_hash32_2
def dkwX2_hash32_0 : List UInt8 := [28, 62, 27, 5, 122, 54, 4, 3, 54, 5, 21, 5, 21, 4, 162, 0, 107, 21, 5, 5, 120, 54, 6, 42]
abbrev dktX2_hash32_0 : List UInt8 := dkwX2_hash32_0 ++ dktX2_hash32_1
theorem dksX2_hash32_0 : cX2_hash32.data.toList.drop 0 = dktX2_hash32_0 := by decide +kernel
theorem dksX2_hash32_1 : cX2_hash32.data.toList.drop 24 = dktX2_hash32_1 := dk_seg dksX2_hash32_0 24 rfl rfl
theorem dksX2_hash32_2 : cX2_hash32.data.toList.drop 48 = dktX2_hash32_2 := dk_seg dksX2_hash32_1 24 rfl rfl
theorem dksX2_hash32_3 : cX2_hash32.data.toList.drop 72 = dktX2_hash32_3 := dk_seg dksX2_hash32_2 24 rfl rfl
theorem dksX2_hash32_4 : cX2_hash32.data.toList.drop 96 = dktX2_hash32_4 := dk_seg dksX2_hash32_3 24 rfl rfl
theorem dksX2_hash32_5 : cX2_hash32.data.toList.drop 118 = dktX2_hash32_5 := dk_seg dksX2_hash32_4 22 rfl rfl
theorem dksX2_hash32_6 : cX2_hash32.data.toList.drop 134 = dktX2_hash32_6 := dk_seg dksX2_hash32_5 16 rfl rfl
theorem dksX2_hash32_7 : cX2_hash32.data.toList.drop 160 = dktX2_hash32_7 := dk_seg dksX2_hash32_6 26 rfl rfl
theorem dksX2_hash32_8 : cX2_hash32.data.toList.drop 184 = dktX2_hash32_8 := dk_seg dksX2_hash32_7 24 rfl rfl
theorem dksX2_hash32_9 : cX2_hash32.data.toList.drop 208 = dktX2_hash32_9 := dk_seg dksX2_hash32_8 24 rfl rfl
theorem dksX2_hash32_10 : cX2_hash32.data.toList.drop 231 = dktX2_hash32_10 := dk_seg dksX2_hash32_9 23 rfl rfl
theorem dksX2_hash32_11 : cX2_hash32.data.toList.drop 255 = dktX2_hash32_11 := dk_seg dksX2_hash32_10 24 rfl rfl
theorem dX2_hash32_0 : decode cX2_hash32 0 = .ok (.iload_n 2, 1) := dk_28 (dk_at dksX2_hash32_0 0 rfl rfl)
theorem dX2_hash32_1 : decode cX2_hash32 1 = .ok (.istore_n 3, 1) := dk_62 (dk_at dksX2_hash32_0 1 rfl rfl)
theorem dX2_hash32_2 : decode cX2_hash32 2 = .ok (.iload_n 1, 1) := dk_27 (dk_at dksX2_hash32_0 2 rfl rfl)
theorem dX2_hash32_3 : decode cX2_hash32 3 = .ok (.iconst 2, 1) := dk_5 (dk_at dksX2_hash32_0 3 rfl rfl)
theorem dX2_hash32_4 : decode cX2_hash32 4 = .ok (.ishr, 1) := dk_122 (dk_at dksX2_hash32_0 4 rfl rfl)
theorem dX2_hash32_5 : decode cX2_hash32 5 = .ok (.istore 4, 2) := dk_54 4 (dk_at dksX2_hash32_0 5 rfl rfl)
theorem dX2_hash32_7 : decode cX2_hash32 7 = .ok (.iconst 0, 1) := dk_3 (dk_at dksX2_hash32_0 7 rfl rfl)
theorem dX2_hash32_8 : decode cX2_hash32 8 = .ok (.istore 5, 2) := dk_54 5 (dk_at dksX2_hash32_0 8 rfl rfl)
theorem dX2_hash32_10 : decode cX2_hash32 10 = .ok (.iload 5, 2) := dk_21 5 (dk_at dksX2_hash32_0 10 rfl rfl)
theorem dX2_hash32_12 : decode cX2_hash32 12 = .ok (.iload 4, 2) := dk_21 4 (dk_at dksX2_hash32_0 12 rfl rfl)
theorem dX2_hash32_14 : decode cX2_hash32 14 = .ok (.if_icmp .ge 107, 3) := dk_162 0 107 (dk_at dksX2_hash32_0 14 rfl rfl)
theorem dX2_hash32_17 : decode cX2_hash32 17 = .ok (.iload 5, 2) := dk_21 5 (dk_at dksX2_hash32_0 17 rfl rfl)
theorem dX2_hash32_19 : decode cX2_hash32 19 = .ok (.iconst 2, 1) := dk_5 (dk_at dksX2_hash32_0 19 rfl rfl)
theorem dX2_hash32_20 : decode cX2_hash32 20 = .ok (.ishl, 1) := dk_120 (dk_at dksX2_hash32_0 20 rfl rfl)
theorem dX2_hash32_21 : decode cX2_hash32 21 = .ok (.istore 6, 2) := dk_54 6 (dk_at dksX2_hash32_0 21 rfl rfl)
theorem dX2_hash32_23 : decode cX2_hash32 23 = .ok (.aload_n 0, 1) := dk_42 (dk_at dksX2_hash32_0 23 rfl rfl)
theorem dX2_hash32_24 : decode cX2_hash32 24 = .ok (.iload 6, 2) := dk_21 6 (dk_at dksX2_hash32_1 0 rfl rfl)
theorem dX2_hash32_26 : decode cX2_hash32 26 = .ok (.baload, 1) := dk_51 (dk_at dksX2_hash32_1 2 rfl rfl)
theorem dX2_hash32_27 : decode cX2_hash32 27 = .ok (.sipush 255, 3) := dk_17 0 255 (dk_at dksX2_hash32_1 3 rfl rfl)
theorem dX2_hash32_30 : decode cX2_hash32 30 = .ok (.iand, 1) := dk_126 (dk_at dksX2_hash32_1 6 rfl rfl)
theorem dX2_hash32_31 : decode cX2_hash32 31 = .ok (.aload_n 0, 1) := dk_42 (dk_at dksX2_hash32_1 7 rfl rfl)
theorem dX2_hash32_32 : decode cX2_hash32 32 = .ok (.iload 6, 2) := dk_21 6 (dk_at dksX2_hash32_1 8 rfl rfl)
theorem dX2_hash32_34 : decode cX2_hash32 34 = .ok (.iconst 1, 1) := dk_4 (dk_at dksX2_hash32_1 10 rfl rfl)
theorem dX2_hash32_35 : decode cX2_hash32 35 = .ok (.iadd, 1) := dk_96 (dk_at dksX2_hash32_1 11 rfl rfl)
theorem dX2_hash32_36 : decode cX2_hash32 36 = .ok (.baload, 1) := dk_51 (dk_at dksX2_hash32_1 12 rfl rfl)
theorem dX2_hash32_37 : decode cX2_hash32 37 = .ok (.sipush 255, 3) := dk_17 0 255 (dk_at dksX2_hash32_1 13 rfl rfl)
theorem dX2_hash32_40 : decode cX2_hash32 40 = .ok (.iand, 1) := dk_126 (dk_at dksX2_hash32_1 16 rfl rfl)
theorem dX2_hash32_41 : decode cX2_hash32 41 = .ok (.bipush 8, 2) := dk_16 8 (dk_at dksX2_hash32_1 17 rfl rfl)
theorem dX2_hash32_43 : decode cX2_hash32 43 = .ok (.ishl, 1) := dk_120 (dk_at dksX2_hash32_1 19 rfl rfl)
theorem dX2_hash32_44 : decode cX2_hash32 44 = .ok (.ior, 1) := dk_128 (dk_at dksX2_hash32_1 20 rfl rfl)
theorem dX2_hash32_45 : decode cX2_hash32 45 = .ok (.aload_n 0, 1) := dk_42 (dk_at dksX2_hash32_1 21 rfl rfl)
theorem dX2_hash32_46 : decode cX2_hash32 46 = .ok (.iload 6, 2) := dk_21 6 (dk_at dksX2_hash32_1 22 rfl rfl)
theorem dX2_hash32_48 : decode cX2_hash32 48 = .ok (.iconst 2, 1) := dk_5 (dk_at dksX2_hash32_2 0 rfl rfl)
theorem dX2_hash32_49 : decode cX2_hash32 49 = .ok (.iadd, 1) := dk_96 (dk_at dksX2_hash32_2 1 rfl rfl)
theorem dX2_hash32_50 : decode cX2_hash32 50 = .ok (.baload, 1) := dk_51 (dk_at dksX2_hash32_2 2 rfl rfl)
theorem dX2_hash32_51 : decode cX2_hash32 51 = .ok (.sipush 255, 3) := dk_17 0 255 (dk_at dksX2_hash32_2 3 rfl rfl)
theorem dX2_hash32_54 : decode cX2_hash32 54 = .ok (.iand, 1) := dk_126 (dk_at dksX2_hash32_2 6 rfl rfl)
theorem dX2_hash32_55 : decode cX2_hash32 55 = .ok (.bipush 16, 2) := dk_16 16 (dk_at dksX2_hash32_2 7 rfl rfl)
theorem dX2_hash32_57 : decode cX2_hash32 57 = .ok (.ishl, 1) := dk_120 (dk_at dksX2_hash32_2 9 rfl rfl)
theorem dX2_hash32_58 : decode cX2_hash32 58 = .ok (.ior, 1) := dk_128 (dk_at dksX2_hash32_2 10 rfl rfl)
theorem dX2_hash32_59 : decode cX2_hash32 59 = .ok (.aload_n 0, 1) := dk_42 (dk_at dksX2_hash32_2 11 rfl rfl)
theorem dX2_hash32_60 : decode cX2_hash32 60 = .ok (.iload 6, 2) := dk_21 6 (dk_at dksX2_hash32_2 12 rfl rfl)
theorem dX2_hash32_62 : decode cX2_hash32 62 = .ok (.iconst 3, 1) := dk_6 (dk_at dksX2_hash32_2 14 rfl rfl)
theorem dX2_hash32_63 : decode cX2_hash32 63 = .ok (.iadd, 1) := dk_96 (dk_at dksX2_hash32_2 15 rfl rfl)
theorem dX2_hash32_64 : decode cX2_hash32 64 = .ok (.baload, 1) := dk_51 (dk_at dksX2_hash32_2 16 rfl rfl)
theorem dX2_hash32_65 : decode cX2_hash32 65 = .ok (.sipush 255, 3) := dk_17 0 255 (dk_at dksX2_hash32_2 17 rfl rfl)
theorem dX2_hash32_68 : decode cX2_hash32 68 = .ok (.iand, 1) := dk_126 (dk_at dksX2_hash32_2 20 rfl rfl)
theorem dX2_hash32_69 : decode cX2_hash32 69 = .ok (.bipush 24, 2) := dk_16 24 (dk_at dksX2_hash32_2 21 rfl rfl)
theorem dX2_hash32_71 : decode cX2_hash32 71 = .ok (.ishl, 1) := dk_120 (dk_at dksX2_hash32_2 23 rfl rfl)
theorem dX2_hash32_72 : decode cX2_hash32 72 = .ok (.ior, 1) := dk_128 (dk_at dksX2_hash32_3 0 rfl rfl)
theorem dX2_hash32_73 : decode cX2_hash32 73 = .ok (.istore 7, 2) := dk_54 7 (dk_at dksX2_hash32_3 1 rfl rfl)
theorem dX2_hash32_75 : decode cX2_hash32 75 = .ok (.iload 7, 2) := dk_21 7 (dk_at dksX2_hash32_3 3 rfl rfl)
theorem dX2_hash32_77 : decode cX2_hash32 77 = .ok (.ldc 9, 2) := dk_18 9 (dk_at dksX2_hash32_3 5 rfl rfl)
theorem dX2_hash32_79 : decode cX2_hash32 79 = .ok (.imul, 1) := dk_104 (dk_at dksX2_hash32_3 7 rfl rfl)
theorem dX2_hash32_80 : decode cX2_hash32 80 = .ok (.istore 7, 2) := dk_54 7 (dk_at dksX2_hash32_3 8 rfl rfl)
theorem dX2_hash32_82 : decode cX2_hash32 82 = .ok (.iload 7, 2) := dk_21 7 (dk_at dksX2_hash32_3 10 rfl rfl)
theorem dX2_hash32_84 : decode cX2_hash32 84 = .ok (.bipush 15, 2) := dk_16 15 (dk_at dksX2_hash32_3 12 rfl rfl)
theorem dX2_hash32_86 : decode cX2_hash32 86 = .ok (.invokestatic 10, 3) := dk_184 0 10 (dk_at dksX2_hash32_3 14 rfl rfl)
theorem dX2_hash32_89 : decode cX2_hash32 89 = .ok (.istore 7, 2) := dk_54 7 (dk_at dksX2_hash32_3 17 rfl rfl)
theorem dX2_hash32_91 : decode cX2_hash32 91 = .ok (.iload 7, 2) := dk_21 7 (dk_at dksX2_hash32_3 19 rfl rfl)
theorem dX2_hash32_93 : decode cX2_hash32 93 = .ok (.ldc 16, 2) := dk_18 16 (dk_at dksX2_hash32_3 21 rfl rfl)
theorem dX2_hash32_95 : decode cX2_hash32 95 = .ok (.imul, 1) := dk_104 (dk_at dksX2_hash32_3 23 rfl rfl)
theorem dX2_hash32_96 : decode cX2_hash32 96 = .ok (.istore 7, 2) := dk_54 7 (dk_at dksX2_hash32_4 0 rfl rfl)
theorem dX2_hash32_98 : decode cX2_hash32 98 = .ok (.iload_n 3, 1) := dk_29 (dk_at dksX2_hash32_4 2 rfl rfl)
theorem dX2_hash32_99 : decode cX2_hash32 99 = .ok (.iload 7, 2) := dk_21 7 (dk_at dksX2_hash32_4 3 rfl rfl)
theorem dX2_hash32_101 : decode cX2_hash32 101 = .ok (.ixor, 1) := dk_130 (dk_at dksX2_hash32_4 5 rfl rfl)
theorem dX2_hash32_102 : decode cX2_hash32 102 = .ok (.istore_n 3, 1) := dk_62 (dk_at dksX2_hash32_4 6 rfl rfl)
theorem dX2_hash32_103 : decode cX2_hash32 103 = .ok (.iload_n 3, 1) := dk_29 (dk_at dksX2_hash32_4 7 rfl rfl)
theorem dX2_hash32_104 : decode cX2_hash32 104 = .ok (.bipush 13, 2) := dk_16 13 (dk_at dksX2_hash32_4 8 rfl rfl)
theorem dX2_hash32_106 : decode cX2_hash32 106 = .ok (.invokestatic 10, 3) := dk_184 0 10 (dk_at dksX2_hash32_4 10 rfl rfl)
theorem dX2_hash32_109 : decode cX2_hash32 109 = .ok (.iconst 5, 1) := dk_8 (dk_at dksX2_hash32_4 13 rfl rfl)
theorem dX2_hash32_110 : decode cX2_hash32 110 = .ok (.imul, 1) := dk_104 (dk_at dksX2_hash32_4 14 rfl rfl)
theorem dX2_hash32_111 : decode cX2_hash32 111 = .ok (.ldc 17, 2) := dk_18 17 (dk_at dksX2_hash32_4 15 rfl rfl)
theorem dX2_hash32_113 : decode cX2_hash32 113 = .ok (.iadd, 1) := dk_96 (dk_at dksX2_hash32_4 17 rfl rfl)
theorem dX2_hash32_114 : decode cX2_hash32 114 = .ok (.istore_n 3, 1) := dk_62 (dk_at dksX2_hash32_4 18 rfl rfl)
theorem dX2_hash32_115 : decode cX2_hash32 115 = .ok (.iinc 5 1, 3) := dk_132 5 1 (dk_at dksX2_hash32_4 19 rfl rfl)
theorem dX2_hash32_118 : decode cX2_hash32 118 = .ok (.goto (-108), 3) := dk_167 255 148 (dk_at dksX2_hash32_5 0 rfl rfl)
theorem dX2_hash32_121 : decode cX2_hash32 121 = .ok (.iload 4, 2) := dk_21 4 (dk_at dksX2_hash32_5 3 rfl rfl)
theorem dX2_hash32_123 : decode cX2_hash32 123 = .ok (.iconst 2, 1) := dk_5 (dk_at dksX2_hash32_5 5 rfl rfl)
theorem dX2_hash32_124 : decode cX2_hash32 124 = .ok (.ishl, 1) := dk_120 (dk_at dksX2_hash32_5 6 rfl rfl)
theorem dX2_hash32_125 : decode cX2_hash32 125 = .ok (.istore 5, 2) := dk_54 5 (dk_at dksX2_hash32_5 7 rfl rfl)
theorem dX2_hash32_127 : decode cX2_hash32 127 = .ok (.iconst 0, 1) := dk_3 (dk_at dksX2_hash32_5 9 rfl rfl)
theorem dX2_hash32_128 : decode cX2_hash32 128 = .ok (.istore 6, 2) := dk_54 6 (dk_at dksX2_hash32_5 10 rfl rfl)
theorem dX2_hash32_130 : decode cX2_hash32 130 = .ok (.iload_n 1, 1) := dk_27 (dk_at dksX2_hash32_5 12 rfl rfl)
theorem dX2_hash32_131 : decode cX2_hash32 131 = .ok (.iload 5, 2) := dk_21 5 (dk_at dksX2_hash32_5 13 rfl rfl)
theorem dX2_hash32_133 : decode cX2_hash32 133 = .ok (.isub, 1) := dk_100 (dk_at dksX2_hash32_5 15 rfl rfl)
theorem dX2_hash32_134 : decode cX2_hash32 134 = .ok (.tableswitch 91 1 3 #[54, 40, 26], 26) := by decide +kernel
theorem dX2_hash32_160 : decode cX2_hash32 160 = .ok (.iload 6, 2) := dk_21 6 (dk_at dksX2_hash32_7 0 rfl rfl)
theorem dX2_hash32_162 : decode cX2_hash32 162 = .ok (.aload_n 0, 1) := dk_42 (dk_at dksX2_hash32_7 2 rfl rfl)
theorem dX2_hash32_163 : decode cX2_hash32 163 = .ok (.iload 5, 2) := dk_21 5 (dk_at dksX2_hash32_7 3 rfl rfl)
theorem dX2_hash32_165 : decode cX2_hash32 165 = .ok (.iconst 2, 1) := dk_5 (dk_at dksX2_hash32_7 5 rfl rfl)
theorem dX2_hash32_166 : decode cX2_hash32 166 = .ok (.iadd, 1) := dk_96 (dk_at dksX2_hash32_7 6 rfl rfl)
theorem dX2_hash32_167 : decode cX2_hash32 167 = .ok (.baload, 1) := dk_51 (dk_at dksX2_hash32_7 7 rfl rfl)
theorem dX2_hash32_168 : decode cX2_hash32 168 = .ok (.bipush 16, 2) := dk_16 16 (dk_at dksX2_hash32_7 8 rfl rfl)
theorem dX2_hash32_170 : decode cX2_hash32 170 = .ok (.ishl, 1) := dk_120 (dk_at dksX2_hash32_7 10 rfl rfl)
theorem dX2_hash32_171 : decode cX2_hash32 171 = .ok (.ixor, 1) := dk_130 (dk_at dksX2_hash32_7 11 rfl rfl)
theorem dX2_hash32_172 : decode cX2_hash32 172 = .ok (.istore 6, 2) := dk_54 6 (dk_at dksX2_hash32_7 12 rfl rfl)
theorem dX2_hash32_174 : decode cX2_hash32 174 = .ok (.iload 6, 2) := dk_21 6 (dk_at dksX2_hash32_7 14 rfl rfl)
theorem dX2_hash32_176 : decode cX2_hash32 176 = .ok (.aload_n 0, 1) := dk_42 (dk_at dksX2_hash32_7 16 rfl rfl)
theorem dX2_hash32_177 : decode cX2_hash32 177 = .ok (.iload 5, 2) := dk_21 5 (dk_at dksX2_hash32_7 17 rfl rfl)
theorem dX2_hash32_179 : decode cX2_hash32 179 = .ok (.iconst 1, 1) := dk_4 (dk_at dksX2_hash32_7 19 rfl rfl)
theorem dX2_hash32_180 : decode cX2_hash32 180 = .ok (.iadd, 1) := dk_96 (dk_at dksX2_hash32_7 20 rfl rfl)
theorem dX2_hash32_181 : decode cX2_hash32 181 = .ok (.baload, 1) := dk_51 (dk_at dksX2_hash32_7 21 rfl rfl)
theorem dX2_hash32_182 : decode cX2_hash32 182 = .ok (.bipush 8, 2) := dk_16 8 (dk_at dksX2_hash32_7 22 rfl rfl)
theorem dX2_hash32_184 : decode cX2_hash32 184 = .ok (.ishl, 1) := dk_120 (dk_at dksX2_hash32_8 0 rfl rfl)
theorem dX2_hash32_185 : decode cX2_hash32 185 = .ok (.ixor, 1) := dk_130 (dk_at dksX2_hash32_8 1 rfl rfl)
theorem dX2_hash32_186 : decode cX2_hash32 186 = .ok (.istore 6, 2) := dk_54 6 (dk_at dksX2_hash32_8 2 rfl rfl)
theorem dX2_hash32_188 : decode cX2_hash32 188 = .ok (.iload 6, 2) := dk_21 6 (dk_at dksX2_hash32_8 4 rfl rfl)
theorem dX2_hash32_190 : decode cX2_hash32 190 = .ok (.aload_n 0, 1) := dk_42 (dk_at dksX2_hash32_8 6 rfl rfl)
theorem dX2_hash32_191 : decode cX2_hash32 191 = .ok (.iload 5, 2) := dk_21 5 (dk_at dksX2_hash32_8 7 rfl rfl)
theorem dX2_hash32_193 : decode cX2_hash32 193 = .ok (.baload, 1) := dk_51 (dk_at dksX2_hash32_8 9 rfl rfl)
theorem dX2_hash32_194 : decode cX2_hash32 194 = .ok (.ixor, 1) := dk_130 (dk_at dksX2_hash32_8 10 rfl rfl)
theorem dX2_hash32_195 : decode cX2_hash32 195 = .ok (.istore 6, 2) := dk_54 6 (dk_at dksX2_hash32_8 11 rfl rfl)
theorem dX2_hash32_197 : decode cX2_hash32 197 = .ok (.iload 6, 2) := dk_21 6 (dk_at dksX2_hash32_8 13 rfl rfl)
theorem dX2_hash32_199 : decode cX2_hash32 199 = .ok (.ldc 9, 2) := dk_18 9 (dk_at dksX2_hash32_8 15 rfl rfl)
theorem dX2_hash32_201 : decode cX2_hash32 201 = .ok (.imul, 1) := dk_104 (dk_at dksX2_hash32_8 17 rfl rfl)
theorem dX2_hash32_202 : decode cX2_hash32 202 = .ok (.istore 6, 2) := dk_54 6 (dk_at dksX2_hash32_8 18 rfl rfl)
theorem dX2_hash32_204 : decode cX2_hash32 204 = .ok (.iload 6, 2) := dk_21 6 (dk_at dksX2_hash32_8 20 rfl rfl)
theorem dX2_hash32_206 : decode cX2_hash32 206 = .ok (.bipush 15, 2) := dk_16 15 (dk_at dksX2_hash32_8 22 rfl rfl)
theorem dX2_hash32_208 : decode cX2_hash32 208 = .ok (.invokestatic 10, 3) := dk_184 0 10 (dk_at dksX2_hash32_9 0 rfl rfl)
theorem dX2_hash32_211 : decode cX2_hash32 211 = .ok (.istore 6, 2) := dk_54 6 (dk_at dksX2_hash32_9 3 rfl rfl)
theorem dX2_hash32_213 : decode cX2_hash32 213 = .ok (.iload 6, 2) := dk_21 6 (dk_at dksX2_hash32_9 5 rfl rfl)
theorem dX2_hash32_215 : decode cX2_hash32 215 = .ok (.ldc 16, 2) := dk_18 16 (dk_at dksX2_hash32_9 7 rfl rfl)
theorem dX2_hash32_217 : decode cX2_hash32 217 = .ok (.imul, 1) := dk_104 (dk_at dksX2_hash32_9 9 rfl rfl)
theorem dX2_hash32_218 : decode cX2_hash32 218 = .ok (.istore 6, 2) := dk_54 6 (dk_at dksX2_hash32_9 10 rfl rfl)
theorem dX2_hash32_220 : decode cX2_hash32 220 = .ok (.iload_n 3, 1) := dk_29 (dk_at dksX2_hash32_9 12 rfl rfl)
theorem dX2_hash32_221 : decode cX2_hash32 221 = .ok (.iload 6, 2) := dk_21 6 (dk_at dksX2_hash32_9 13 rfl rfl)
theorem dX2_hash32_223 : decode cX2_hash32 223 = .ok (.ixor, 1) := dk_130 (dk_at dksX2_hash32_9 15 rfl rfl)
theorem dX2_hash32_224 : decode cX2_hash32 224 = .ok (.istore_n 3, 1) := dk_62 (dk_at dksX2_hash32_9 16 rfl rfl)
theorem dX2_hash32_225 : decode cX2_hash32 225 = .ok (.iload_n 3, 1) := dk_29 (dk_at dksX2_hash32_9 17 rfl rfl)
theorem dX2_hash32_226 : decode cX2_hash32 226 = .ok (.iload_n 1, 1) := dk_27 (dk_at dksX2_hash32_9 18 rfl rfl)
theorem dX2_hash32_227 : decode cX2_hash32 227 = .ok (.ixor, 1) := dk_130 (dk_at dksX2_hash32_9 19 rfl rfl)
theorem dX2_hash32_228 : decode cX2_hash32 228 = .ok (.istore_n 3, 1) := dk_62 (dk_at dksX2_hash32_9 20 rfl rfl)
theorem dX2_hash32_229 : decode cX2_hash32 229 = .ok (.iload_n 3, 1) := dk_29 (dk_at dksX2_hash32_9 21 rfl rfl)
theorem dX2_hash32_230 : decode cX2_hash32 230 = .ok (.iload_n 3, 1) := dk_29 (dk_at dksX2_hash32_9 22 rfl rfl)
theorem dX2_hash32_231 : decode cX2_hash32 231 = .ok (.bipush 16, 2) := dk_16 16 (dk_at dksX2_hash32_10 0 rfl rfl)
theorem dX2_hash32_233 : decode cX2_hash32 233 = .ok (.iushr, 1) := dk_124 (dk_at dksX2_hash32_10 2 rfl rfl)
theorem dX2_hash32_234 : decode cX2_hash32 234 = .ok (.ixor, 1) := dk_130 (dk_at dksX2_hash32_10 3 rfl rfl)
theorem dX2_hash32_235 : decode cX2_hash32 235 = .ok (.istore_n 3, 1) := dk_62 (dk_at dksX2_hash32_10 4 rfl rfl)
theorem dX2_hash32_236 : decode cX2_hash32 236 = .ok (.iload_n 3, 1) := dk_29 (dk_at dksX2_hash32_10 5 rfl rfl)
theorem dX2_hash32_237 : decode cX2_hash32 237 = .ok (.ldc 18, 2) := dk_18 18 (dk_at dksX2_hash32_10 6 rfl rfl)
theorem dX2_hash32_239 : decode cX2_hash32 239 = .ok (.imul, 1) := dk_104 (dk_at dksX2_hash32_10 8 rfl rfl)
theorem dX2_hash32_240 : decode cX2_hash32 240 = .ok (.istore_n 3, 1) := dk_62 (dk_at dksX2_hash32_10 9 rfl rfl)
theorem dX2_hash32_241 : decode cX2_hash32 241 = .ok (.iload_n 3, 1) := dk_29 (dk_at dksX2_hash32_10 10 rfl rfl)
theorem dX2_hash32_242 : decode cX2_hash32 242 = .ok (.iload_n 3, 1) := dk_29 (dk_at dksX2_hash32_10 11 rfl rfl)
theorem dX2_hash32_243 : decode cX2_hash32 243 = .ok (.bipush 13, 2) := dk_16 13 (dk_at dksX2_hash32_10 12 rfl rfl)
theorem dX2_hash32_245 : decode cX2_hash32 245 = .ok (.iushr, 1) := dk_124 (dk_at dksX2_hash32_10 14 rfl rfl)
theorem dX2_hash32_246 : decode cX2_hash32 246 = .ok (.ixor, 1) := dk_130 (dk_at dksX2_hash32_10 15 rfl rfl)
theorem dX2_hash32_247 : decode cX2_hash32 247 = .ok (.istore_n 3, 1) := dk_62 (dk_at dksX2_hash32_10 16 rfl rfl)
theorem dX2_hash32_248 : decode cX2_hash32 248 = .ok (.iload_n 3, 1) := dk_29 (dk_at dksX2_hash32_10 17 rfl rfl)
theorem dX2_hash32_249 : decode cX2_hash32 249 = .ok (.ldc 19, 2) := dk_18 19 (dk_at dksX2_hash32_10 18 rfl rfl)
theorem dX2_hash32_251 : decode cX2_hash32 251 = .ok (.imul, 1) := dk_104 (dk_at dksX2_hash32_10 20 rfl rfl)
theorem dX2_hash32_252 : decode cX2_hash32 252 = .ok (.istore_n 3, 1) := dk_62 (dk_at dksX2_hash32_10 21 rfl rfl)
theorem dX2_hash32_253 : decode cX2_hash32 253 = .ok (.iload_n 3, 1) := dk_29 (dk_at dksX2_hash32_10 22 rfl rfl)
theorem dX2_hash32_254 : decode cX2_hash32 254 = .ok (.iload_n 3, 1) := dk_29 (dk_at dksX2_hash32_10 23 rfl rfl)
theorem dX2_hash32_255 : decode cX2_hash32 255 = .ok (.bipush 16, 2) := dk_16 16 (dk_at dksX2_hash32_11 0 rfl rfl)
theorem dX2_hash32_257 : decode cX2_hash32 257 = .ok (.iushr, 1) := dk_124 (dk_at dksX2_hash32_11 2 rfl rfl)
theorem dX2_hash32_258 : decode cX2_hash32 258 = .ok (.ixor, 1) := dk_130 (dk_at dksX2_hash32_11 3 rfl rfl)
theorem dX2_hash32_259 : decode cX2_hash32 259 = .ok (.istore_n 3, 1) := dk_62 (dk_at dksX2_hash32_11 4 rfl rfl)
theorem dX2_hash32_260 : decode cX2_hash32 260 = .ok (.iload_n 3, 1) := dk_29 (dk_at dksX2_hash32_11 5 rfl rfl)
theorem dX2_hash32_261 : decode cX2_hash32 261 = .ok (.ireturn, 1) := dk_172 (dk_at dksX2_hash32_11 6 rfl rfl)
abbrev cX2_hash128 : ByteArray := prog_1_method_3_code
def yX2_hash128 : MethodName := ⟨RX2, "hash128", "([BIII)[J"⟩
def dkwX2_hash128_38 : List UInt8 := [55, 4, 22, 6, 22, 4, 97, 55, 6, 5, 188, 11, 89, 3, 22, 4, 80, 89, 4, 22, 6, 80, 176]
abbrev dktX2_hash128_38 : List UInt8 := dkwX2_hash128_38 ++ []
def dkwX2_hash128_37 : List UInt8 := [22, 4, 97, 55, 6, 22, 4, 184, 0, 37, 55, 4, 22, 6, 184, 0, 37, 55, 6, 22, 4, 22, 6, 97]
abbrev dktX2_hash128_37 : List UInt8 := dkwX2_hash128_37 ++ dktX2_hash128_38
def dkwX2_hash128_36 : List UInt8 := [22, 4, 28, 133, 131, 55, 4, 22, 6, 28, 133, 131, 55, 6, 22, 4, 22, 6, 97, 55, 4, 22, 6]
abbrev dktX2_hash128_36 : List UInt8 := dkwX2_hash128_36 ++ dktX2_hash128_37
def dkwX2_hash128_35 : List UInt8 := [22, 9, 16, 31, 184, 0, 24, 55, 9, 22, 9, 20, 0, 29, 105, 55, 9, 22, 4, 22, 9, 131, 55, 4]
abbrev dktX2_hash128_35 : List UInt8 := dkwX2_hash128_35 ++ dktX2_hash128_36
def dkwX2_hash128_34 : List UInt8 := [22, 9, 42, 27, 21, 13, 96, 51, 17, 0, 255, 126, 133, 131, 55, 9, 22, 9, 20, 0, 22, 105, 55, 9]
abbrev dktX2_hash128_34 : List UInt8 := dkwX2_hash128_34 ++ dktX2_hash128_35
def dkwX2_hash128_33 : List UInt8 := [131, 55, 9, 22, 9, 42, 27, 21, 13, 96, 4, 96, 51, 17, 0, 255, 126, 133, 16, 8, 121, 131, 55, 9]
abbrev dktX2_hash128_33 : List UInt8 := dkwX2_hash128_33 ++ dktX2_hash128_34
def dkwX2_hash128_32 : List UInt8 := [16, 24, 121, 131, 55, 9, 22, 9, 42, 27, 21, 13, 96, 5, 96, 51, 17, 0, 255, 126, 133, 16, 16, 121]
abbrev dktX2_hash128_32 : List UInt8 := dkwX2_hash128_32 ++ dktX2_hash128_33
def dkwX2_hash128_31 : List UInt8 := [126, 133, 16, 32, 121, 131, 55, 9, 22, 9, 42, 27, 21, 13, 96, 6, 96, 51, 17, 0, 255, 126, 133]
abbrev dktX2_hash128_31 : List UInt8 := dkwX2_hash128_31 ++ dktX2_hash128_32
def dkwX2_hash128_30 : List UInt8 := [17, 0, 255, 126, 133, 16, 40, 121, 131, 55, 9, 22, 9, 42, 27, 21, 13, 96, 7, 96, 51, 17, 0, 255]
abbrev dktX2_hash128_30 : List UInt8 := dkwX2_hash128_30 ++ dktX2_hash128_31
def dkwX2_hash128_29 : List UInt8 := [96, 51, 17, 0, 255, 126, 133, 16, 48, 121, 131, 55, 9, 22, 9, 42, 27, 21, 13, 96, 8, 96, 51]
abbrev dktX2_hash128_29 : List UInt8 := dkwX2_hash128_29 ++ dktX2_hash128_30
def dkwX2_hash128_28 : List UInt8 := [16, 7, 96, 51, 17, 0, 255, 126, 133, 16, 56, 121, 131, 55, 9, 22, 9, 42, 27, 21, 13, 96, 16, 6]
abbrev dktX2_hash128_28 : List UInt8 := dkwX2_hash128_28 ++ dktX2_hash128_29
def dkwX2_hash128_27 : List UInt8 := [55, 11, 22, 11, 20, 0, 22, 105, 55, 11, 22, 6, 22, 11, 131, 55, 6, 22, 9, 42, 27, 21, 13, 96]
abbrev dktX2_hash128_27 : List UInt8 := dkwX2_hash128_27 ++ dktX2_hash128_28
def dkwX2_hash128_26 : List UInt8 := [17, 0, 255, 126, 133, 131, 55, 11, 22, 11, 20, 0, 29, 105, 55, 11, 22, 11, 16, 33, 184, 0, 24]
abbrev dktX2_hash128_26 : List UInt8 := dkwX2_hash128_26 ++ dktX2_hash128_27
def dkwX2_hash128_25 : List UInt8 := [96, 51, 17, 0, 255, 126, 133, 16, 8, 121, 131, 55, 11, 22, 11, 42, 27, 21, 13, 96, 16, 8, 96, 51]
abbrev dktX2_hash128_25 : List UInt8 := dkwX2_hash128_25 ++ dktX2_hash128_26
def dkwX2_hash128_24 : List UInt8 := [16, 10, 96, 51, 17, 0, 255, 126, 133, 16, 16, 121, 131, 55, 11, 22, 11, 42, 27, 21, 13, 96, 16, 9]
abbrev dktX2_hash128_24 : List UInt8 := dkwX2_hash128_24 ++ dktX2_hash128_25
def dkwX2_hash128_23 : List UInt8 := [96, 16, 11, 96, 51, 17, 0, 255, 126, 133, 16, 24, 121, 131, 55, 11, 22, 11, 42, 27, 21, 13, 96]
abbrev dktX2_hash128_23 : List UInt8 := dkwX2_hash128_23 ++ dktX2_hash128_24
def dkwX2_hash128_22 : List UInt8 := [21, 13, 96, 16, 12, 96, 51, 17, 0, 255, 126, 133, 16, 32, 121, 131, 55, 11, 22, 11, 42, 27, 21, 13]
abbrev dktX2_hash128_22 : List UInt8 := dkwX2_hash128_22 ++ dktX2_hash128_23
def dkwX2_hash128_21 : List UInt8 := [42, 27, 21, 13, 96, 16, 13, 96, 51, 17, 0, 255, 126, 133, 16, 40, 121, 131, 55, 11, 22, 11, 42, 27]
abbrev dktX2_hash128_21 : List UInt8 := dkwX2_hash128_21 ++ dktX2_hash128_22
def dkwX2_hash128_20 : List UInt8 := [22, 11, 42, 27, 21, 13, 96, 16, 14, 96, 51, 17, 0, 255, 126, 133, 16, 48, 121, 131, 55, 11, 22, 11]
abbrev dktX2_hash128_20 : List UInt8 := dkwX2_hash128_20 ++ dktX2_hash128_21
def dkwX2_hash128_19 : List UInt8 := [170, 0, 0, 1, 197, 0, 0, 0, 1, 0, 0, 0, 15, 0, 0, 1, 149, 0, 0, 1, 128, 0, 0, 1, 107, 0, 0, 1, 86, 0, 0, 1, 65, 0, 0, 1, 44, 0, 0, 1, 22, 0, 0, 1, 0, 0, 0, 0, 205, 0, 0, 0, 183, 0, 0, 0, 161, 0, 0, 0, 139, 0, 0, 0, 117, 0, 0, 0, 95, 0, 0, 0, 73]
abbrev dktX2_hash128_19 : List UInt8 := dkwX2_hash128_19 ++ dktX2_hash128_20
def dkwX2_hash128_18 : List UInt8 := [132, 9, 1, 167, 254, 100, 9, 55, 9, 9, 55, 11, 21, 8, 7, 120, 54, 13, 28, 21, 13, 100]
abbrev dktX2_hash128_18 : List UInt8 := dkwX2_hash128_18 ++ dktX2_hash128_19
def dkwX2_hash128_17 : List UInt8 := [184, 0, 24, 55, 6, 22, 6, 22, 4, 97, 55, 6, 22, 6, 20, 0, 31, 105, 20, 0, 35, 97, 55, 6]
abbrev dktX2_hash128_17 : List UInt8 := dkwX2_hash128_17 ++ dktX2_hash128_18
def dkwX2_hash128_16 : List UInt8 := [184, 0, 24, 55, 13, 22, 13, 20, 0, 22, 105, 55, 13, 22, 6, 22, 13, 131, 55, 6, 22, 6, 16, 31]
abbrev dktX2_hash128_16 : List UInt8 := dkwX2_hash128_16 ++ dktX2_hash128_17
def dkwX2_hash128_15 : List UInt8 := [22, 4, 20, 0, 31, 105, 20, 0, 33, 97, 55, 4, 22, 13, 20, 0, 29, 105, 55, 13, 22, 13, 16, 33]
abbrev dktX2_hash128_15 : List UInt8 := dkwX2_hash128_15 ++ dktX2_hash128_16
def dkwX2_hash128_14 : List UInt8 := [22, 4, 22, 11, 131, 55, 4, 22, 4, 16, 27, 184, 0, 24, 55, 4, 22, 4, 22, 6, 97, 55, 4]
abbrev dktX2_hash128_14 : List UInt8 := dkwX2_hash128_14 ++ dktX2_hash128_15
def dkwX2_hash128_13 : List UInt8 := [20, 0, 22, 105, 55, 11, 22, 11, 16, 31, 184, 0, 24, 55, 11, 22, 11, 20, 0, 29, 105, 55, 11]
abbrev dktX2_hash128_13 : List UInt8 := dkwX2_hash128_13 ++ dktX2_hash128_14
def dkwX2_hash128_12 : List UInt8 := [121, 129, 42, 27, 21, 10, 96, 16, 15, 96, 51, 133, 20, 0, 20, 127, 16, 56, 121, 129, 55, 13, 22, 11]
abbrev dktX2_hash128_12 : List UInt8 := dkwX2_hash128_12 ++ dktX2_hash128_13
def dkwX2_hash128_11 : List UInt8 := [20, 0, 20, 127, 16, 40, 121, 129, 42, 27, 21, 10, 96, 16, 14, 96, 51, 133, 20, 0, 20, 127, 16, 48]
abbrev dktX2_hash128_11 : List UInt8 := dkwX2_hash128_11 ++ dktX2_hash128_12
def dkwX2_hash128_10 : List UInt8 := [96, 16, 12, 96, 51, 133, 20, 0, 20, 127, 16, 32, 121, 129, 42, 27, 21, 10, 96, 16, 13, 96, 51, 133]
abbrev dktX2_hash128_10 : List UInt8 := dkwX2_hash128_10 ++ dktX2_hash128_11
def dkwX2_hash128_9 : List UInt8 := [121, 129, 42, 27, 21, 10, 96, 16, 11, 96, 51, 133, 20, 0, 20, 127, 16, 24, 121, 129, 42, 27, 21, 10]
abbrev dktX2_hash128_9 : List UInt8 := dkwX2_hash128_9 ++ dktX2_hash128_10
def dkwX2_hash128_8 : List UInt8 := [20, 0, 20, 127, 16, 8, 121, 129, 42, 27, 21, 10, 96, 16, 10, 96, 51, 133, 20, 0, 20, 127, 16, 16]
abbrev dktX2_hash128_8 : List UInt8 := dkwX2_hash128_8 ++ dktX2_hash128_9
def dkwX2_hash128_7 : List UInt8 := [21, 10, 96, 16, 8, 96, 51, 133, 20, 0, 20, 127, 42, 27, 21, 10, 96, 16, 9, 96, 51, 133]
abbrev dktX2_hash128_7 : List UInt8 := dkwX2_hash128_7 ++ dktX2_hash128_8
def dkwX2_hash128_6 : List UInt8 := [121, 129, 42, 27, 21, 10, 96, 16, 7, 96, 51, 133, 20, 0, 20, 127, 16, 56, 121, 129, 55, 11, 42, 27]
abbrev dktX2_hash128_6 : List UInt8 := dkwX2_hash128_6 ++ dktX2_hash128_7
def dkwX2_hash128_5 : List UInt8 := [20, 0, 20, 127, 16, 40, 121, 129, 42, 27, 21, 10, 96, 16, 6, 96, 51, 133, 20, 0, 20, 127, 16, 48]
abbrev dktX2_hash128_5 : List UInt8 := dkwX2_hash128_5 ++ dktX2_hash128_6
def dkwX2_hash128_4 : List UInt8 := [21, 10, 96, 7, 96, 51, 133, 20, 0, 20, 127, 16, 32, 121, 129, 42, 27, 21, 10, 96, 8, 96, 51, 133]
abbrev dktX2_hash128_4 : List UInt8 := dkwX2_hash128_4 ++ dktX2_hash128_5
def dkwX2_hash128_3 : List UInt8 := [16, 16, 121, 129, 42, 27, 21, 10, 96, 6, 96, 51, 133, 20, 0, 20, 127, 16, 24, 121, 129, 42, 27]
abbrev dktX2_hash128_3 : List UInt8 := dkwX2_hash128_3 ++ dktX2_hash128_4
def dkwX2_hash128_2 : List UInt8 := [51, 133, 20, 0, 20, 127, 16, 8, 121, 129, 42, 27, 21, 10, 96, 5, 96, 51, 133, 20, 0, 20, 127]
abbrev dktX2_hash128_2 : List UInt8 := dkwX2_hash128_2 ++ dktX2_hash128_3
def dkwX2_hash128_1 : List UInt8 := [21, 9, 7, 120, 54, 10, 42, 27, 21, 10, 96, 51, 133, 20, 0, 20, 127, 42, 27, 21, 10, 96, 4, 96]
abbrev dktX2_hash128_1 : List UInt8 := dkwX2_hash128_1 ++ dktX2_hash128_2
def dkwX2_hash128_0 : List UInt8 := [29, 133, 55, 4, 29, 133, 55, 6, 28, 7, 122, 54, 8, 3, 54, 9, 21, 9, 21, 8, 162, 1, 155]
abbrev dktX2_hash128_0 : List UInt8 := dkwX2_hash128_0 ++ dktX2_hash128_1
theorem dksX2_hash128_0 : cX2_hash128.data.toList.drop 0 = dktX2_hash128_0 := by decide +kernel
theorem dksX2_hash128_1 : cX2_hash128.data.toList.drop 23 = dktX2_hash128_1 := dk_seg dksX2_hash128_0 23 rfl rfl
theorem dksX2_hash128_2 : cX2_hash128.data.toList.drop 47 = dktX2_hash128_2 := dk_seg dksX2_hash128_1 24 rfl rfl
theorem dksX2_hash128_3 : cX2_hash128.data.toList.drop 70 = dktX2_hash128_3 := dk_seg dksX2_hash128_2 23 rfl rfl
theorem dksX2_hash128_4 : cX2_hash128.data.toList.drop 93 = dktX2_hash128_4 := dk_seg dksX2_hash128_3 23 rfl rfl
theorem dksX2_hash128_5 : cX2_hash128.data.toList.drop 117 = dktX2_hash128_5 := dk_seg dksX2_hash128_4 24 rfl rfl
theorem dksX2_hash128_6 : cX2_hash128.data.toList.drop 141 = dktX2_hash128_6 := dk_seg dksX2_hash128_5 24 rfl rfl
theorem dksX2_hash128_7 : cX2_hash128.data.toList.drop 165 = dktX2_hash128_7 := dk_seg dksX2_hash128_6 24 rfl rfl
theorem dksX2_hash128_8 : cX2_hash128.data.toList.drop 187 = dktX2_hash128_8 := dk_seg dksX2_hash128_7 22 rfl rfl
theorem dksX2_hash128_9 : cX2_hash128.data.toList.drop 211 = dktX2_hash128_9 := dk_seg dksX2_hash128_8 24 rfl rfl
theorem dksX2_hash128_10 : cX2_hash128.data.toList.drop 235 = dktX2_hash128_10 := dk_seg dksX2_hash128_9 24 rfl rfl
theorem dksX2_hash128_11 : cX2_hash128.data.toList.drop 259 = dktX2_hash128_11 := dk_seg dksX2_hash128_10 24 rfl rfl
theorem dksX2_hash128_12 : cX2_hash128.data.toList.drop 283 = dktX2_hash128_12 := dk_seg dksX2_hash128_11 24 rfl rfl
theorem dksX2_hash128_13 : cX2_hash128.data.toList.drop 307 = dktX2_hash128_13 := dk_seg dksX2_hash128_12 24 rfl rfl
theorem dksX2_hash128_14 : cX2_hash128.data.toList.drop 330 = dktX2_hash128_14 := dk_seg dksX2_hash128_13 23 rfl rfl
theorem dksX2_hash128_15 : cX2_hash128.data.toList.drop 353 = dktX2_hash128_15 := dk_seg dksX2_hash128_14 23 rfl rfl
theorem dksX2_hash128_16 : cX2_hash128.data.toList.drop 377 = dktX2_hash128_16 := dk_seg dksX2_hash128_15 24 rfl rfl
theorem dksX2_hash128_17 : cX2_hash128.data.toList.drop 401 = dktX2_hash128_17 := dk_seg dksX2_hash128_16 24 rfl rfl
theorem dksX2_hash128_18 : cX2_hash128.data.toList.drop 425 = dktX2_hash128_18 := dk_seg dksX2_hash128_17 24 rfl rfl
theorem dksX2_hash128_19 : cX2_hash128.data.toList.drop 447 = dktX2_hash128_19 := dk_seg dksX2_hash128_18 22 rfl rfl
theorem dksX2_hash128_20 : cX2_hash128.data.toList.drop 520 = dktX2_hash128_20 := dk_seg dksX2_hash128_19 73 rfl rfl
theorem dksX2_hash128_21 : cX2_hash128.data.toList.drop 544 = dktX2_hash128_21 := dk_seg dksX2_hash128_20 24 rfl rfl
theorem dksX2_hash128_22 : cX2_hash128.data.toList.drop 568 = dktX2_hash128_22 := dk_seg dksX2_hash128_21 24 rfl rfl
theorem dksX2_hash128_23 : cX2_hash128.data.toList.drop 592 = dktX2_hash128_23 := dk_seg dksX2_hash128_22 24 rfl rfl
theorem dksX2_hash128_24 : cX2_hash128.data.toList.drop 615 = dktX2_hash128_24 := dk_seg dksX2_hash128_23 23 rfl rfl
theorem dksX2_hash128_25 : cX2_hash128.data.toList.drop 639 = dktX2_hash128_25 := dk_seg dksX2_hash128_24 24 rfl rfl
theorem dksX2_hash128_26 : cX2_hash128.data.toList.drop 663 = dktX2_hash128_26 := dk_seg dksX2_hash128_25 24 rfl rfl
theorem dksX2_hash128_27 : cX2_hash128.data.toList.drop 686 = dktX2_hash128_27 := dk_seg dksX2_hash128_26 23 rfl rfl
theorem dksX2_hash128_28 : cX2_hash128.data.toList.drop 710 = dktX2_hash128_28 := dk_seg dksX2_hash128_27 24 rfl rfl
theorem dksX2_hash128_29 : cX2_hash128.data.toList.drop 734 = dktX2_hash128_29 := dk_seg dksX2_hash128_28 24 rfl rfl
theorem dksX2_hash128_30 : cX2_hash128.data.toList.drop 757 = dktX2_hash128_30 := dk_seg dksX2_hash128_29 23 rfl rfl
theorem dksX2_hash128_31 : cX2_hash128.data.toList.drop 781 = dktX2_hash128_31 := dk_seg dksX2_hash128_30 24 rfl rfl
theorem dksX2_hash128_32 : cX2_hash128.data.toList.drop 804 = dktX2_hash128_32 := dk_seg dksX2_hash128_31 23 rfl rfl
theorem dksX2_hash128_33 : cX2_hash128.data.toList.drop 828 = dktX2_hash128_33 := dk_seg dksX2_hash128_32 24 rfl rfl
theorem dksX2_hash128_34 : cX2_hash128.data.toList.drop 852 = dktX2_hash128_34 := dk_seg dksX2_hash128_33 24 rfl rfl
theorem dksX2_hash128_35 : cX2_hash128.data.toList.drop 876 = dktX2_hash128_35 := dk_seg dksX2_hash128_34 24 rfl rfl
theorem dksX2_hash128_36 : cX2_hash128.data.toList.drop 900 = dktX2_hash128_36 := dk_seg dksX2_hash128_35 24 rfl rfl
theorem dksX2_hash128_37 : cX2_hash128.data.toList.drop 923 = dktX2_hash128_37 := dk_seg dksX2_hash128_36 23 rfl rfl
theorem dksX2_hash128_38 : cX2_hash128.data.toList.drop 947 = dktX2_hash128_38 := dk_seg dksX2_hash128_37 24 rfl rfl
theorem dX2_hash128_0 : decode cX2_hash128 0 = .ok (.iload_n 3, 1) := dk_29 (dk_at dksX2_hash128_0 0 rfl rfl)
theorem dX2_hash128_1 : decode cX2_hash128 1 = .ok (.i2l, 1) := dk_133 (dk_at dksX2_hash128_0 1 rfl rfl)
theorem dX2_hash128_2 : decode cX2_hash128 2 = .ok (.lstore 4, 2) := dk_55 4 (dk_at dksX2_hash128_0 2 rfl rfl)
theorem dX2_hash128_4 : decode cX2_hash128 4 = .ok (.iload_n 3, 1) := dk_29 (dk_at dksX2_hash128_0 4 rfl rfl)
theorem dX2_hash128_5 : decode cX2_hash128 5 = .ok (.i2l, 1) := dk_133 (dk_at dksX2_hash128_0 5 rfl rfl)
theorem dX2_hash128_6 : decode cX2_hash128 6 = .ok (.lstore 6, 2) := dk_55 6 (dk_at dksX2_hash128_0 6 rfl rfl)
theorem dX2_hash128_8 : decode cX2_hash128 8 = .ok (.iload_n 2, 1) := dk_28 (dk_at dksX2_hash128_0 8 rfl rfl)
theorem dX2_hash128_9 : decode cX2_hash128 9 = .ok (.iconst 4, 1) := dk_7 (dk_at dksX2_hash128_0 9 rfl rfl)
theorem dX2_hash128_10 : decode cX2_hash128 10 = .ok (.ishr, 1) := dk_122 (dk_at dksX2_hash128_0 10 rfl rfl)
theorem dX2_hash128_11 : decode cX2_hash128 11 = .ok (.istore 8, 2) := dk_54 8 (dk_at dksX2_hash128_0 11 rfl rfl)
theorem dX2_hash128_13 : decode cX2_hash128 13 = .ok (.iconst 0, 1) := dk_3 (dk_at dksX2_hash128_0 13 rfl rfl)
theorem dX2_hash128_14 : decode cX2_hash128 14 = .ok (.istore 9, 2) := dk_54 9 (dk_at dksX2_hash128_0 14 rfl rfl)
theorem dX2_hash128_16 : decode cX2_hash128 16 = .ok (.iload 9, 2) := dk_21 9 (dk_at dksX2_hash128_0 16 rfl rfl)
theorem dX2_hash128_18 : decode cX2_hash128 18 = .ok (.iload 8, 2) := dk_21 8 (dk_at dksX2_hash128_0 18 rfl rfl)
theorem dX2_hash128_20 : decode cX2_hash128 20 = .ok (.if_icmp .ge 411, 3) := dk_162 1 155 (dk_at dksX2_hash128_0 20 rfl rfl)
theorem dX2_hash128_23 : decode cX2_hash128 23 = .ok (.iload 9, 2) := dk_21 9 (dk_at dksX2_hash128_1 0 rfl rfl)
theorem dX2_hash128_25 : decode cX2_hash128 25 = .ok (.iconst 4, 1) := dk_7 (dk_at dksX2_hash128_1 2 rfl rfl)
theorem dX2_hash128_26 : decode cX2_hash128 26 = .ok (.ishl, 1) := dk_120 (dk_at dksX2_hash128_1 3 rfl rfl)
theorem dX2_hash128_27 : decode cX2_hash128 27 = .ok (.istore 10, 2) := dk_54 10 (dk_at dksX2_hash128_1 4 rfl rfl)
theorem dX2_hash128_29 : decode cX2_hash128 29 = .ok (.aload_n 0, 1) := dk_42 (dk_at dksX2_hash128_1 6 rfl rfl)
theorem dX2_hash128_30 : decode cX2_hash128 30 = .ok (.iload_n 1, 1) := dk_27 (dk_at dksX2_hash128_1 7 rfl rfl)
theorem dX2_hash128_31 : decode cX2_hash128 31 = .ok (.iload 10, 2) := dk_21 10 (dk_at dksX2_hash128_1 8 rfl rfl)
theorem dX2_hash128_33 : decode cX2_hash128 33 = .ok (.iadd, 1) := dk_96 (dk_at dksX2_hash128_1 10 rfl rfl)
theorem dX2_hash128_34 : decode cX2_hash128 34 = .ok (.baload, 1) := dk_51 (dk_at dksX2_hash128_1 11 rfl rfl)
theorem dX2_hash128_35 : decode cX2_hash128 35 = .ok (.i2l, 1) := dk_133 (dk_at dksX2_hash128_1 12 rfl rfl)
theorem dX2_hash128_36 : decode cX2_hash128 36 = .ok (.ldc2_w 20, 3) := dk_20 0 20 (dk_at dksX2_hash128_1 13 rfl rfl)
theorem dX2_hash128_39 : decode cX2_hash128 39 = .ok (.land, 1) := dk_127 (dk_at dksX2_hash128_1 16 rfl rfl)
theorem dX2_hash128_40 : decode cX2_hash128 40 = .ok (.aload_n 0, 1) := dk_42 (dk_at dksX2_hash128_1 17 rfl rfl)
theorem dX2_hash128_41 : decode cX2_hash128 41 = .ok (.iload_n 1, 1) := dk_27 (dk_at dksX2_hash128_1 18 rfl rfl)
theorem dX2_hash128_42 : decode cX2_hash128 42 = .ok (.iload 10, 2) := dk_21 10 (dk_at dksX2_hash128_1 19 rfl rfl)
theorem dX2_hash128_44 : decode cX2_hash128 44 = .ok (.iadd, 1) := dk_96 (dk_at dksX2_hash128_1 21 rfl rfl)
theorem dX2_hash128_45 : decode cX2_hash128 45 = .ok (.iconst 1, 1) := dk_4 (dk_at dksX2_hash128_1 22 rfl rfl)
theorem dX2_hash128_46 : decode cX2_hash128 46 = .ok (.iadd, 1) := dk_96 (dk_at dksX2_hash128_1 23 rfl rfl)
theorem dX2_hash128_47 : decode cX2_hash128 47 = .ok (.baload, 1) := dk_51 (dk_at dksX2_hash128_2 0 rfl rfl)
theorem dX2_hash128_48 : decode cX2_hash128 48 = .ok (.i2l, 1) := dk_133 (dk_at dksX2_hash128_2 1 rfl rfl)
theorem dX2_hash128_49 : decode cX2_hash128 49 = .ok (.ldc2_w 20, 3) := dk_20 0 20 (dk_at dksX2_hash128_2 2 rfl rfl)
theorem dX2_hash128_52 : decode cX2_hash128 52 = .ok (.land, 1) := dk_127 (dk_at dksX2_hash128_2 5 rfl rfl)
theorem dX2_hash128_53 : decode cX2_hash128 53 = .ok (.bipush 8, 2) := dk_16 8 (dk_at dksX2_hash128_2 6 rfl rfl)
theorem dX2_hash128_55 : decode cX2_hash128 55 = .ok (.lshl, 1) := dk_121 (dk_at dksX2_hash128_2 8 rfl rfl)
theorem dX2_hash128_56 : decode cX2_hash128 56 = .ok (.lor, 1) := dk_129 (dk_at dksX2_hash128_2 9 rfl rfl)
theorem dX2_hash128_57 : decode cX2_hash128 57 = .ok (.aload_n 0, 1) := dk_42 (dk_at dksX2_hash128_2 10 rfl rfl)
theorem dX2_hash128_58 : decode cX2_hash128 58 = .ok (.iload_n 1, 1) := dk_27 (dk_at dksX2_hash128_2 11 rfl rfl)
theorem dX2_hash128_59 : decode cX2_hash128 59 = .ok (.iload 10, 2) := dk_21 10 (dk_at dksX2_hash128_2 12 rfl rfl)
theorem dX2_hash128_61 : decode cX2_hash128 61 = .ok (.iadd, 1) := dk_96 (dk_at dksX2_hash128_2 14 rfl rfl)
theorem dX2_hash128_62 : decode cX2_hash128 62 = .ok (.iconst 2, 1) := dk_5 (dk_at dksX2_hash128_2 15 rfl rfl)
theorem dX2_hash128_63 : decode cX2_hash128 63 = .ok (.iadd, 1) := dk_96 (dk_at dksX2_hash128_2 16 rfl rfl)
theorem dX2_hash128_64 : decode cX2_hash128 64 = .ok (.baload, 1) := dk_51 (dk_at dksX2_hash128_2 17 rfl rfl)
theorem dX2_hash128_65 : decode cX2_hash128 65 = .ok (.i2l, 1) := dk_133 (dk_at dksX2_hash128_2 18 rfl rfl)
theorem dX2_hash128_66 : decode cX2_hash128 66 = .ok (.ldc2_w 20, 3) := dk_20 0 20 (dk_at dksX2_hash128_2 19 rfl rfl)
theorem dX2_hash128_69 : decode cX2_hash128 69 = .ok (.land, 1) := dk_127 (dk_at dksX2_hash128_2 22 rfl rfl)
theorem dX2_hash128_70 : decode cX2_hash128 70 = .ok (.bipush 16, 2) := dk_16 16 (dk_at dksX2_hash128_3 0 rfl rfl)
theorem dX2_hash128_72 : decode cX2_hash128 72 = .ok (.lshl, 1) := dk_121 (dk_at dksX2_hash128_3 2 rfl rfl)
theorem dX2_hash128_73 : decode cX2_hash128 73 = .ok (.lor, 1) := dk_129 (dk_at dksX2_hash128_3 3 rfl rfl)
theorem dX2_hash128_74 : decode cX2_hash128 74 = .ok (.aload_n 0, 1) := dk_42 (dk_at dksX2_hash128_3 4 rfl rfl)
theorem dX2_hash128_75 : decode cX2_hash128 75 = .ok (.iload_n 1, 1) := dk_27 (dk_at dksX2_hash128_3 5 rfl rfl)
theorem dX2_hash128_76 : decode cX2_hash128 76 = .ok (.iload 10, 2) := dk_21 10 (dk_at dksX2_hash128_3 6 rfl rfl)
theorem dX2_hash128_78 : decode cX2_hash128 78 = .ok (.iadd, 1) := dk_96 (dk_at dksX2_hash128_3 8 rfl rfl)
theorem dX2_hash128_79 : decode cX2_hash128 79 = .ok (.iconst 3, 1) := dk_6 (dk_at dksX2_hash128_3 9 rfl rfl)
theorem dX2_hash128_80 : decode cX2_hash128 80 = .ok (.iadd, 1) := dk_96 (dk_at dksX2_hash128_3 10 rfl rfl)
theorem dX2_hash128_81 : decode cX2_hash128 81 = .ok (.baload, 1) := dk_51 (dk_at dksX2_hash128_3 11 rfl rfl)
theorem dX2_hash128_82 : decode cX2_hash128 82 = .ok (.i2l, 1) := dk_133 (dk_at dksX2_hash128_3 12 rfl rfl)
theorem dX2_hash128_83 : decode cX2_hash128 83 = .ok (.ldc2_w 20, 3) := dk_20 0 20 (dk_at dksX2_hash128_3 13 rfl rfl)
theorem dX2_hash128_86 : decode cX2_hash128 86 = .ok (.land, 1) := dk_127 (dk_at dksX2_hash128_3 16 rfl rfl)
theorem dX2_hash128_87 : decode cX2_hash128 87 = .ok (.bipush 24, 2) := dk_16 24 (dk_at dksX2_hash128_3 17 rfl rfl)
theorem dX2_hash128_89 : decode cX2_hash128 89 = .ok (.lshl, 1) := dk_121 (dk_at dksX2_hash128_3 19 rfl rfl)
theorem dX2_hash128_90 : decode cX2_hash128 90 = .ok (.lor, 1) := dk_129 (dk_at dksX2_hash128_3 20 rfl rfl)
theorem dX2_hash128_91 : decode cX2_hash128 91 = .ok (.aload_n 0, 1) := dk_42 (dk_at dksX2_hash128_3 21 rfl rfl)
theorem dX2_hash128_92 : decode cX2_hash128 92 = .ok (.iload_n 1, 1) := dk_27 (dk_at dksX2_hash128_3 22 rfl rfl)
theorem dX2_hash128_93 : decode cX2_hash128 93 = .ok (.iload 10, 2) := dk_21 10 (dk_at dksX2_hash128_4 0 rfl rfl)
theorem dX2_hash128_95 : decode cX2_hash128 95 = .ok (.iadd, 1) := dk_96 (dk_at dksX2_hash128_4 2 rfl rfl)
theorem dX2_hash128_96 : decode cX2_hash128 96 = .ok (.iconst 4, 1) := dk_7 (dk_at dksX2_hash128_4 3 rfl rfl)
theorem dX2_hash128_97 : decode cX2_hash128 97 = .ok (.iadd, 1) := dk_96 (dk_at dksX2_hash128_4 4 rfl rfl)
theorem dX2_hash128_98 : decode cX2_hash128 98 = .ok (.baload, 1) := dk_51 (dk_at dksX2_hash128_4 5 rfl rfl)
theorem dX2_hash128_99 : decode cX2_hash128 99 = .ok (.i2l, 1) := dk_133 (dk_at dksX2_hash128_4 6 rfl rfl)
theorem dX2_hash128_100 : decode cX2_hash128 100 = .ok (.ldc2_w 20, 3) := dk_20 0 20 (dk_at dksX2_hash128_4 7 rfl rfl)
theorem dX2_hash128_103 : decode cX2_hash128 103 = .ok (.land, 1) := dk_127 (dk_at dksX2_hash128_4 10 rfl rfl)
theorem dX2_hash128_104 : decode cX2_hash128 104 = .ok (.bipush 32, 2) := dk_16 32 (dk_at dksX2_hash128_4 11 rfl rfl)
theorem dX2_hash128_106 : decode cX2_hash128 106 = .ok (.lshl, 1) := dk_121 (dk_at dksX2_hash128_4 13 rfl rfl)
theorem dX2_hash128_107 : decode cX2_hash128 107 = .ok (.lor, 1) := dk_129 (dk_at dksX2_hash128_4 14 rfl rfl)
theorem dX2_hash128_108 : decode cX2_hash128 108 = .ok (.aload_n 0, 1) := dk_42 (dk_at dksX2_hash128_4 15 rfl rfl)
theorem dX2_hash128_109 : decode cX2_hash128 109 = .ok (.iload_n 1, 1) := dk_27 (dk_at dksX2_hash128_4 16 rfl rfl)
theorem dX2_hash128_110 : decode cX2_hash128 110 = .ok (.iload 10, 2) := dk_21 10 (dk_at dksX2_hash128_4 17 rfl rfl)
theorem dX2_hash128_112 : decode cX2_hash128 112 = .ok (.iadd, 1) := dk_96 (dk_at dksX2_hash128_4 19 rfl rfl)
theorem dX2_hash128_113 : decode cX2_hash128 113 = .ok (.iconst 5, 1) := dk_8 (dk_at dksX2_hash128_4 20 rfl rfl)
theorem dX2_hash128_114 : decode cX2_hash128 114 = .ok (.iadd, 1) := dk_96 (dk_at dksX2_hash128_4 21 rfl rfl)
theorem dX2_hash128_115 : decode cX2_hash128 115 = .ok (.baload, 1) := dk_51 (dk_at dksX2_hash128_4 22 rfl rfl)
theorem dX2_hash128_116 : decode cX2_hash128 116 = .ok (.i2l, 1) := dk_133 (dk_at dksX2_hash128_4 23 rfl rfl)
theorem dX2_hash128_117 : decode cX2_hash128 117 = .ok (.ldc2_w 20, 3) := dk_20 0 20 (dk_at dksX2_hash128_5 0 rfl rfl)
theorem dX2_hash128_120 : decode cX2_hash128 120 = .ok (.land, 1) := dk_127 (dk_at dksX2_hash128_5 3 rfl rfl)
theorem dX2_hash128_121 : decode cX2_hash128 121 = .ok (.bipush 40, 2) := dk_16 40 (dk_at dksX2_hash128_5 4 rfl rfl)
theorem dX2_hash128_123 : decode cX2_hash128 123 = .ok (.lshl, 1) := dk_121 (dk_at dksX2_hash128_5 6 rfl rfl)
theorem dX2_hash128_124 : decode cX2_hash128 124 = .ok (.lor, 1) := dk_129 (dk_at dksX2_hash128_5 7 rfl rfl)
theorem dX2_hash128_125 : decode cX2_hash128 125 = .ok (.aload_n 0, 1) := dk_42 (dk_at dksX2_hash128_5 8 rfl rfl)
theorem dX2_hash128_126 : decode cX2_hash128 126 = .ok (.iload_n 1, 1) := dk_27 (dk_at dksX2_hash128_5 9 rfl rfl)
theorem dX2_hash128_127 : decode cX2_hash128 127 = .ok (.iload 10, 2) := dk_21 10 (dk_at dksX2_hash128_5 10 rfl rfl)
theorem dX2_hash128_129 : decode cX2_hash128 129 = .ok (.iadd, 1) := dk_96 (dk_at dksX2_hash128_5 12 rfl rfl)
theorem dX2_hash128_130 : decode cX2_hash128 130 = .ok (.bipush 6, 2) := dk_16 6 (dk_at dksX2_hash128_5 13 rfl rfl)
theorem dX2_hash128_132 : decode cX2_hash128 132 = .ok (.iadd, 1) := dk_96 (dk_at dksX2_hash128_5 15 rfl rfl)
theorem dX2_hash128_133 : decode cX2_hash128 133 = .ok (.baload, 1) := dk_51 (dk_at dksX2_hash128_5 16 rfl rfl)
theorem dX2_hash128_134 : decode cX2_hash128 134 = .ok (.i2l, 1) := dk_133 (dk_at dksX2_hash128_5 17 rfl rfl)
theorem dX2_hash128_135 : decode cX2_hash128 135 = .ok (.ldc2_w 20, 3) := dk_20 0 20 (dk_at dksX2_hash128_5 18 rfl rfl)
theorem dX2_hash128_138 : decode cX2_hash128 138 = .ok (.land, 1) := dk_127 (dk_at dksX2_hash128_5 21 rfl rfl)
theorem dX2_hash128_139 : decode cX2_hash128 139 = .ok (.bipush 48, 2) := dk_16 48 (dk_at dksX2_hash128_5 22 rfl rfl)
theorem dX2_hash128_141 : decode cX2_hash128 141 = .ok (.lshl, 1) := dk_121 (dk_at dksX2_hash128_6 0 rfl rfl)
theorem dX2_hash128_142 : decode cX2_hash128 142 = .ok (.lor, 1) := dk_129 (dk_at dksX2_hash128_6 1 rfl rfl)
theorem dX2_hash128_143 : decode cX2_hash128 143 = .ok (.aload_n 0, 1) := dk_42 (dk_at dksX2_hash128_6 2 rfl rfl)
theorem dX2_hash128_144 : decode cX2_hash128 144 = .ok (.iload_n 1, 1) := dk_27 (dk_at dksX2_hash128_6 3 rfl rfl)
theorem dX2_hash128_145 : decode cX2_hash128 145 = .ok (.iload 10, 2) := dk_21 10 (dk_at dksX2_hash128_6 4 rfl rfl)
theorem dX2_hash128_147 : decode cX2_hash128 147 = .ok (.iadd, 1) := dk_96 (dk_at dksX2_hash128_6 6 rfl rfl)
theorem dX2_hash128_148 : decode cX2_hash128 148 = .ok (.bipush 7, 2) := dk_16 7 (dk_at dksX2_hash128_6 7 rfl rfl)
theorem dX2_hash128_150 : decode cX2_hash128 150 = .ok (.iadd, 1) := dk_96 (dk_at dksX2_hash128_6 9 rfl rfl)
theorem dX2_hash128_151 : decode cX2_hash128 151 = .ok (.baload, 1) := dk_51 (dk_at dksX2_hash128_6 10 rfl rfl)
theorem dX2_hash128_152 : decode cX2_hash128 152 = .ok (.i2l, 1) := dk_133 (dk_at dksX2_hash128_6 11 rfl rfl)
theorem dX2_hash128_153 : decode cX2_hash128 153 = .ok (.ldc2_w 20, 3) := dk_20 0 20 (dk_at dksX2_hash128_6 12 rfl rfl)
theorem dX2_hash128_156 : decode cX2_hash128 156 = .ok (.land, 1) := dk_127 (dk_at dksX2_hash128_6 15 rfl rfl)
theorem dX2_hash128_157 : decode cX2_hash128 157 = .ok (.bipush 56, 2) := dk_16 56 (dk_at dksX2_hash128_6 16 rfl rfl)
theorem dX2_hash128_159 : decode cX2_hash128 159 = .ok (.lshl, 1) := dk_121 (dk_at dksX2_hash128_6 18 rfl rfl)
theorem dX2_hash128_160 : decode cX2_hash128 160 = .ok (.lor, 1) := dk_129 (dk_at dksX2_hash128_6 19 rfl rfl)
theorem dX2_hash128_161 : decode cX2_hash128 161 = .ok (.lstore 11, 2) := dk_55 11 (dk_at dksX2_hash128_6 20 rfl rfl)
theorem dX2_hash128_163 : decode cX2_hash128 163 = .ok (.aload_n 0, 1) := dk_42 (dk_at dksX2_hash128_6 22 rfl rfl)
theorem dX2_hash128_164 : decode cX2_hash128 164 = .ok (.iload_n 1, 1) := dk_27 (dk_at dksX2_hash128_6 23 rfl rfl)
theorem dX2_hash128_165 : decode cX2_hash128 165 = .ok (.iload 10, 2) := dk_21 10 (dk_at dksX2_hash128_7 0 rfl rfl)
theorem dX2_hash128_167 : decode cX2_hash128 167 = .ok (.iadd, 1) := dk_96 (dk_at dksX2_hash128_7 2 rfl rfl)
theorem dX2_hash128_168 : decode cX2_hash128 168 = .ok (.bipush 8, 2) := dk_16 8 (dk_at dksX2_hash128_7 3 rfl rfl)
theorem dX2_hash128_170 : decode cX2_hash128 170 = .ok (.iadd, 1) := dk_96 (dk_at dksX2_hash128_7 5 rfl rfl)
theorem dX2_hash128_171 : decode cX2_hash128 171 = .ok (.baload, 1) := dk_51 (dk_at dksX2_hash128_7 6 rfl rfl)
theorem dX2_hash128_172 : decode cX2_hash128 172 = .ok (.i2l, 1) := dk_133 (dk_at dksX2_hash128_7 7 rfl rfl)
theorem dX2_hash128_173 : decode cX2_hash128 173 = .ok (.ldc2_w 20, 3) := dk_20 0 20 (dk_at dksX2_hash128_7 8 rfl rfl)
theorem dX2_hash128_176 : decode cX2_hash128 176 = .ok (.land, 1) := dk_127 (dk_at dksX2_hash128_7 11 rfl rfl)
theorem dX2_hash128_177 : decode cX2_hash128 177 = .ok (.aload_n 0, 1) := dk_42 (dk_at dksX2_hash128_7 12 rfl rfl)
theorem dX2_hash128_178 : decode cX2_hash128 178 = .ok (.iload_n 1, 1) := dk_27 (dk_at dksX2_hash128_7 13 rfl rfl)
theorem dX2_hash128_179 : decode cX2_hash128 179 = .ok (.iload 10, 2) := dk_21 10 (dk_at dksX2_hash128_7 14 rfl rfl)
theorem dX2_hash128_181 : decode cX2_hash128 181 = .ok (.iadd, 1) := dk_96 (dk_at dksX2_hash128_7 16 rfl rfl)
theorem dX2_hash128_182 : decode cX2_hash128 182 = .ok (.bipush 9, 2) := dk_16 9 (dk_at dksX2_hash128_7 17 rfl rfl)
theorem dX2_hash128_184 : decode cX2_hash128 184 = .ok (.iadd, 1) := dk_96 (dk_at dksX2_hash128_7 19 rfl rfl)
theorem dX2_hash128_185 : decode cX2_hash128 185 = .ok (.baload, 1) := dk_51 (dk_at dksX2_hash128_7 20 rfl rfl)
theorem dX2_hash128_186 : decode cX2_hash128 186 = .ok (.i2l, 1) := dk_133 (dk_at dksX2_hash128_7 21 rfl rfl)
theorem dX2_hash128_187 : decode cX2_hash128 187 = .ok (.ldc2_w 20, 3) := dk_20 0 20 (dk_at dksX2_hash128_8 0 rfl rfl)
theorem dX2_hash128_190 : decode cX2_hash128 190 = .ok (.land, 1) := dk_127 (dk_at dksX2_hash128_8 3 rfl rfl)
theorem dX2_hash128_191 : decode cX2_hash128 191 = .ok (.bipush 8, 2) := dk_16 8 (dk_at dksX2_hash128_8 4 rfl rfl)
theorem dX2_hash128_193 : decode cX2_hash128 193 = .ok (.lshl, 1) := dk_121 (dk_at dksX2_hash128_8 6 rfl rfl)
theorem dX2_hash128_194 : decode cX2_hash128 194 = .ok (.lor, 1) := dk_129 (dk_at dksX2_hash128_8 7 rfl rfl)
theorem dX2_hash128_195 : decode cX2_hash128 195 = .ok (.aload_n 0, 1) := dk_42 (dk_at dksX2_hash128_8 8 rfl rfl)
theorem dX2_hash128_196 : decode cX2_hash128 196 = .ok (.iload_n 1, 1) := dk_27 (dk_at dksX2_hash128_8 9 rfl rfl)
theorem dX2_hash128_197 : decode cX2_hash128 197 = .ok (.iload 10, 2) := dk_21 10 (dk_at dksX2_hash128_8 10 rfl rfl)
theorem dX2_hash128_199 : decode cX2_hash128 199 = .ok (.iadd, 1) := dk_96 (dk_at dksX2_hash128_8 12 rfl rfl)
theorem dX2_hash128_200 : decode cX2_hash128 200 = .ok (.bipush 10, 2) := dk_16 10 (dk_at dksX2_hash128_8 13 rfl rfl)
theorem dX2_hash128_202 : decode cX2_hash128 202 = .ok (.iadd, 1) := dk_96 (dk_at dksX2_hash128_8 15 rfl rfl)
theorem dX2_hash128_203 : decode cX2_hash128 203 = .ok (.baload, 1) := dk_51 (dk_at dksX2_hash128_8 16 rfl rfl)
theorem dX2_hash128_204 : decode cX2_hash128 204 = .ok (.i2l, 1) := dk_133 (dk_at dksX2_hash128_8 17 rfl rfl)
theorem dX2_hash128_205 : decode cX2_hash128 205 = .ok (.ldc2_w 20, 3) := dk_20 0 20 (dk_at dksX2_hash128_8 18 rfl rfl)
theorem dX2_hash128_208 : decode cX2_hash128 208 = .ok (.land, 1) := dk_127 (dk_at dksX2_hash128_8 21 rfl rfl)
theorem dX2_hash128_209 : decode cX2_hash128 209 = .ok (.bipush 16, 2) := dk_16 16 (dk_at dksX2_hash128_8 22 rfl rfl)
theorem dX2_hash128_211 : decode cX2_hash128 211 = .ok (.lshl, 1) := dk_121 (dk_at dksX2_hash128_9 0 rfl rfl)
theorem dX2_hash128_212 : decode cX2_hash128 212 = .ok (.lor, 1) := dk_129 (dk_at dksX2_hash128_9 1 rfl rfl)
theorem dX2_hash128_213 : decode cX2_hash128 213 = .ok (.aload_n 0, 1) := dk_42 (dk_at dksX2_hash128_9 2 rfl rfl)
theorem dX2_hash128_214 : decode cX2_hash128 214 = .ok (.iload_n 1, 1) := dk_27 (dk_at dksX2_hash128_9 3 rfl rfl)
theorem dX2_hash128_215 : decode cX2_hash128 215 = .ok (.iload 10, 2) := dk_21 10 (dk_at dksX2_hash128_9 4 rfl rfl)
theorem dX2_hash128_217 : decode cX2_hash128 217 = .ok (.iadd, 1) := dk_96 (dk_at dksX2_hash128_9 6 rfl rfl)
theorem dX2_hash128_218 : decode cX2_hash128 218 = .ok (.bipush 11, 2) := dk_16 11 (dk_at dksX2_hash128_9 7 rfl rfl)
theorem dX2_hash128_220 : decode cX2_hash128 220 = .ok (.iadd, 1) := dk_96 (dk_at dksX2_hash128_9 9 rfl rfl)
theorem dX2_hash128_221 : decode cX2_hash128 221 = .ok (.baload, 1) := dk_51 (dk_at dksX2_hash128_9 10 rfl rfl)
theorem dX2_hash128_222 : decode cX2_hash128 222 = .ok (.i2l, 1) := dk_133 (dk_at dksX2_hash128_9 11 rfl rfl)
theorem dX2_hash128_223 : decode cX2_hash128 223 = .ok (.ldc2_w 20, 3) := dk_20 0 20 (dk_at dksX2_hash128_9 12 rfl rfl)
theorem dX2_hash128_226 : decode cX2_hash128 226 = .ok (.land, 1) := dk_127 (dk_at dksX2_hash128_9 15 rfl rfl)
theorem dX2_hash128_227 : decode cX2_hash128 227 = .ok (.bipush 24, 2) := dk_16 24 (dk_at dksX2_hash128_9 16 rfl rfl)
theorem dX2_hash128_229 : decode cX2_hash128 229 = .ok (.lshl, 1) := dk_121 (dk_at dksX2_hash128_9 18 rfl rfl)
theorem dX2_hash128_230 : decode cX2_hash128 230 = .ok (.lor, 1) := dk_129 (dk_at dksX2_hash128_9 19 rfl rfl)
theorem dX2_hash128_231 : decode cX2_hash128 231 = .ok (.aload_n 0, 1) := dk_42 (dk_at dksX2_hash128_9 20 rfl rfl)
theorem dX2_hash128_232 : decode cX2_hash128 232 = .ok (.iload_n 1, 1) := dk_27 (dk_at dksX2_hash128_9 21 rfl rfl)
theorem dX2_hash128_233 : decode cX2_hash128 233 = .ok (.iload 10, 2) := dk_21 10 (dk_at dksX2_hash128_9 22 rfl rfl)
theorem dX2_hash128_235 : decode cX2_hash128 235 = .ok (.iadd, 1) := dk_96 (dk_at dksX2_hash128_10 0 rfl rfl)
theorem dX2_hash128_236 : decode cX2_hash128 236 = .ok (.bipush 12, 2) := dk_16 12 (dk_at dksX2_hash128_10 1 rfl rfl)
theorem dX2_hash128_238 : decode cX2_hash128 238 = .ok (.iadd, 1) := dk_96 (dk_at dksX2_hash128_10 3 rfl rfl)
theorem dX2_hash128_239 : decode cX2_hash128 239 = .ok (.baload, 1) := dk_51 (dk_at dksX2_hash128_10 4 rfl rfl)
theorem dX2_hash128_240 : decode cX2_hash128 240 = .ok (.i2l, 1) := dk_133 (dk_at dksX2_hash128_10 5 rfl rfl)
theorem dX2_hash128_241 : decode cX2_hash128 241 = .ok (.ldc2_w 20, 3) := dk_20 0 20 (dk_at dksX2_hash128_10 6 rfl rfl)
theorem dX2_hash128_244 : decode cX2_hash128 244 = .ok (.land, 1) := dk_127 (dk_at dksX2_hash128_10 9 rfl rfl)
theorem dX2_hash128_245 : decode cX2_hash128 245 = .ok (.bipush 32, 2) := dk_16 32 (dk_at dksX2_hash128_10 10 rfl rfl)
theorem dX2_hash128_247 : decode cX2_hash128 247 = .ok (.lshl, 1) := dk_121 (dk_at dksX2_hash128_10 12 rfl rfl)
theorem dX2_hash128_248 : decode cX2_hash128 248 = .ok (.lor, 1) := dk_129 (dk_at dksX2_hash128_10 13 rfl rfl)
theorem dX2_hash128_249 : decode cX2_hash128 249 = .ok (.aload_n 0, 1) := dk_42 (dk_at dksX2_hash128_10 14 rfl rfl)
theorem dX2_hash128_250 : decode cX2_hash128 250 = .ok (.iload_n 1, 1) := dk_27 (dk_at dksX2_hash128_10 15 rfl rfl)
theorem dX2_hash128_251 : decode cX2_hash128 251 = .ok (.iload 10, 2) := dk_21 10 (dk_at dksX2_hash128_10 16 rfl rfl)
theorem dX2_hash128_253 : decode cX2_hash128 253 = .ok (.iadd, 1) := dk_96 (dk_at dksX2_hash128_10 18 rfl rfl)
theorem dX2_hash128_254 : decode cX2_hash128 254 = .ok (.bipush 13, 2) := dk_16 13 (dk_at dksX2_hash128_10 19 rfl rfl)
theorem dX2_hash128_256 : decode cX2_hash128 256 = .ok (.iadd, 1) := dk_96 (dk_at dksX2_hash128_10 21 rfl rfl)
theorem dX2_hash128_257 : decode cX2_hash128 257 = .ok (.baload, 1) := dk_51 (dk_at dksX2_hash128_10 22 rfl rfl)
theorem dX2_hash128_258 : decode cX2_hash128 258 = .ok (.i2l, 1) := dk_133 (dk_at dksX2_hash128_10 23 rfl rfl)
theorem dX2_hash128_259 : decode cX2_hash128 259 = .ok (.ldc2_w 20, 3) := dk_20 0 20 (dk_at dksX2_hash128_11 0 rfl rfl)
theorem dX2_hash128_262 : decode cX2_hash128 262 = .ok (.land, 1) := dk_127 (dk_at dksX2_hash128_11 3 rfl rfl)
theorem dX2_hash128_263 : decode cX2_hash128 263 = .ok (.bipush 40, 2) := dk_16 40 (dk_at dksX2_hash128_11 4 rfl rfl)
theorem dX2_hash128_265 : decode cX2_hash128 265 = .ok (.lshl, 1) := dk_121 (dk_at dksX2_hash128_11 6 rfl rfl)
theorem dX2_hash128_266 : decode cX2_hash128 266 = .ok (.lor, 1) := dk_129 (dk_at dksX2_hash128_11 7 rfl rfl)
theorem dX2_hash128_267 : decode cX2_hash128 267 = .ok (.aload_n 0, 1) := dk_42 (dk_at dksX2_hash128_11 8 rfl rfl)
theorem dX2_hash128_268 : decode cX2_hash128 268 = .ok (.iload_n 1, 1) := dk_27 (dk_at dksX2_hash128_11 9 rfl rfl)
theorem dX2_hash128_269 : decode cX2_hash128 269 = .ok (.iload 10, 2) := dk_21 10 (dk_at dksX2_hash128_11 10 rfl rfl)
theorem dX2_hash128_271 : decode cX2_hash128 271 = .ok (.iadd, 1) := dk_96 (dk_at dksX2_hash128_11 12 rfl rfl)
theorem dX2_hash128_272 : decode cX2_hash128 272 = .ok (.bipush 14, 2) := dk_16 14 (dk_at dksX2_hash128_11 13 rfl rfl)
theorem dX2_hash128_274 : decode cX2_hash128 274 = .ok (.iadd, 1) := dk_96 (dk_at dksX2_hash128_11 15 rfl rfl)
theorem dX2_hash128_275 : decode cX2_hash128 275 = .ok (.baload, 1) := dk_51 (dk_at dksX2_hash128_11 16 rfl rfl)
theorem dX2_hash128_276 : decode cX2_hash128 276 = .ok (.i2l, 1) := dk_133 (dk_at dksX2_hash128_11 17 rfl rfl)
theorem dX2_hash128_277 : decode cX2_hash128 277 = .ok (.ldc2_w 20, 3) := dk_20 0 20 (dk_at dksX2_hash128_11 18 rfl rfl)
theorem dX2_hash128_280 : decode cX2_hash128 280 = .ok (.land, 1) := dk_127 (dk_at dksX2_hash128_11 21 rfl rfl)
theorem dX2_hash128_281 : decode cX2_hash128 281 = .ok (.bipush 48, 2) := dk_16 48 (dk_at dksX2_hash128_11 22 rfl rfl)
theorem dX2_hash128_283 : decode cX2_hash128 283 = .ok (.lshl, 1) := dk_121 (dk_at dksX2_hash128_12 0 rfl rfl)
theorem dX2_hash128_284 : decode cX2_hash128 284 = .ok (.lor, 1) := dk_129 (dk_at dksX2_hash128_12 1 rfl rfl)
theorem dX2_hash128_285 : decode cX2_hash128 285 = .ok (.aload_n 0, 1) := dk_42 (dk_at dksX2_hash128_12 2 rfl rfl)
theorem dX2_hash128_286 : decode cX2_hash128 286 = .ok (.iload_n 1, 1) := dk_27 (dk_at dksX2_hash128_12 3 rfl rfl)
theorem dX2_hash128_287 : decode cX2_hash128 287 = .ok (.iload 10, 2) := dk_21 10 (dk_at dksX2_hash128_12 4 rfl rfl)
theorem dX2_hash128_289 : decode cX2_hash128 289 = .ok (.iadd, 1) := dk_96 (dk_at dksX2_hash128_12 6 rfl rfl)
theorem dX2_hash128_290 : decode cX2_hash128 290 = .ok (.bipush 15, 2) := dk_16 15 (dk_at dksX2_hash128_12 7 rfl rfl)
theorem dX2_hash128_292 : decode cX2_hash128 292 = .ok (.iadd, 1) := dk_96 (dk_at dksX2_hash128_12 9 rfl rfl)
theorem dX2_hash128_293 : decode cX2_hash128 293 = .ok (.baload, 1) := dk_51 (dk_at dksX2_hash128_12 10 rfl rfl)
theorem dX2_hash128_294 : decode cX2_hash128 294 = .ok (.i2l, 1) := dk_133 (dk_at dksX2_hash128_12 11 rfl rfl)
theorem dX2_hash128_295 : decode cX2_hash128 295 = .ok (.ldc2_w 20, 3) := dk_20 0 20 (dk_at dksX2_hash128_12 12 rfl rfl)
theorem dX2_hash128_298 : decode cX2_hash128 298 = .ok (.land, 1) := dk_127 (dk_at dksX2_hash128_12 15 rfl rfl)
theorem dX2_hash128_299 : decode cX2_hash128 299 = .ok (.bipush 56, 2) := dk_16 56 (dk_at dksX2_hash128_12 16 rfl rfl)
theorem dX2_hash128_301 : decode cX2_hash128 301 = .ok (.lshl, 1) := dk_121 (dk_at dksX2_hash128_12 18 rfl rfl)
theorem dX2_hash128_302 : decode cX2_hash128 302 = .ok (.lor, 1) := dk_129 (dk_at dksX2_hash128_12 19 rfl rfl)
theorem dX2_hash128_303 : decode cX2_hash128 303 = .ok (.lstore 13, 2) := dk_55 13 (dk_at dksX2_hash128_12 20 rfl rfl)
theorem dX2_hash128_305 : decode cX2_hash128 305 = .ok (.lload 11, 2) := dk_22 11 (dk_at dksX2_hash128_12 22 rfl rfl)
theorem dX2_hash128_307 : decode cX2_hash128 307 = .ok (.ldc2_w 22, 3) := dk_20 0 22 (dk_at dksX2_hash128_13 0 rfl rfl)
theorem dX2_hash128_310 : decode cX2_hash128 310 = .ok (.lmul, 1) := dk_105 (dk_at dksX2_hash128_13 3 rfl rfl)
theorem dX2_hash128_311 : decode cX2_hash128 311 = .ok (.lstore 11, 2) := dk_55 11 (dk_at dksX2_hash128_13 4 rfl rfl)
theorem dX2_hash128_313 : decode cX2_hash128 313 = .ok (.lload 11, 2) := dk_22 11 (dk_at dksX2_hash128_13 6 rfl rfl)
theorem dX2_hash128_315 : decode cX2_hash128 315 = .ok (.bipush 31, 2) := dk_16 31 (dk_at dksX2_hash128_13 8 rfl rfl)
theorem dX2_hash128_317 : decode cX2_hash128 317 = .ok (.invokestatic 24, 3) := dk_184 0 24 (dk_at dksX2_hash128_13 10 rfl rfl)
theorem dX2_hash128_320 : decode cX2_hash128 320 = .ok (.lstore 11, 2) := dk_55 11 (dk_at dksX2_hash128_13 13 rfl rfl)
theorem dX2_hash128_322 : decode cX2_hash128 322 = .ok (.lload 11, 2) := dk_22 11 (dk_at dksX2_hash128_13 15 rfl rfl)
theorem dX2_hash128_324 : decode cX2_hash128 324 = .ok (.ldc2_w 29, 3) := dk_20 0 29 (dk_at dksX2_hash128_13 17 rfl rfl)
theorem dX2_hash128_327 : decode cX2_hash128 327 = .ok (.lmul, 1) := dk_105 (dk_at dksX2_hash128_13 20 rfl rfl)
theorem dX2_hash128_328 : decode cX2_hash128 328 = .ok (.lstore 11, 2) := dk_55 11 (dk_at dksX2_hash128_13 21 rfl rfl)
theorem dX2_hash128_330 : decode cX2_hash128 330 = .ok (.lload 4, 2) := dk_22 4 (dk_at dksX2_hash128_14 0 rfl rfl)
theorem dX2_hash128_332 : decode cX2_hash128 332 = .ok (.lload 11, 2) := dk_22 11 (dk_at dksX2_hash128_14 2 rfl rfl)
theorem dX2_hash128_334 : decode cX2_hash128 334 = .ok (.lxor, 1) := dk_131 (dk_at dksX2_hash128_14 4 rfl rfl)
theorem dX2_hash128_335 : decode cX2_hash128 335 = .ok (.lstore 4, 2) := dk_55 4 (dk_at dksX2_hash128_14 5 rfl rfl)
theorem dX2_hash128_337 : decode cX2_hash128 337 = .ok (.lload 4, 2) := dk_22 4 (dk_at dksX2_hash128_14 7 rfl rfl)
theorem dX2_hash128_339 : decode cX2_hash128 339 = .ok (.bipush 27, 2) := dk_16 27 (dk_at dksX2_hash128_14 9 rfl rfl)
theorem dX2_hash128_341 : decode cX2_hash128 341 = .ok (.invokestatic 24, 3) := dk_184 0 24 (dk_at dksX2_hash128_14 11 rfl rfl)
theorem dX2_hash128_344 : decode cX2_hash128 344 = .ok (.lstore 4, 2) := dk_55 4 (dk_at dksX2_hash128_14 14 rfl rfl)
theorem dX2_hash128_346 : decode cX2_hash128 346 = .ok (.lload 4, 2) := dk_22 4 (dk_at dksX2_hash128_14 16 rfl rfl)
theorem dX2_hash128_348 : decode cX2_hash128 348 = .ok (.lload 6, 2) := dk_22 6 (dk_at dksX2_hash128_14 18 rfl rfl)
theorem dX2_hash128_350 : decode cX2_hash128 350 = .ok (.ladd, 1) := dk_97 (dk_at dksX2_hash128_14 20 rfl rfl)
theorem dX2_hash128_351 : decode cX2_hash128 351 = .ok (.lstore 4, 2) := dk_55 4 (dk_at dksX2_hash128_14 21 rfl rfl)
theorem dX2_hash128_353 : decode cX2_hash128 353 = .ok (.lload 4, 2) := dk_22 4 (dk_at dksX2_hash128_15 0 rfl rfl)
theorem dX2_hash128_355 : decode cX2_hash128 355 = .ok (.ldc2_w 31, 3) := dk_20 0 31 (dk_at dksX2_hash128_15 2 rfl rfl)
theorem dX2_hash128_358 : decode cX2_hash128 358 = .ok (.lmul, 1) := dk_105 (dk_at dksX2_hash128_15 5 rfl rfl)
theorem dX2_hash128_359 : decode cX2_hash128 359 = .ok (.ldc2_w 33, 3) := dk_20 0 33 (dk_at dksX2_hash128_15 6 rfl rfl)
theorem dX2_hash128_362 : decode cX2_hash128 362 = .ok (.ladd, 1) := dk_97 (dk_at dksX2_hash128_15 9 rfl rfl)
theorem dX2_hash128_363 : decode cX2_hash128 363 = .ok (.lstore 4, 2) := dk_55 4 (dk_at dksX2_hash128_15 10 rfl rfl)
theorem dX2_hash128_365 : decode cX2_hash128 365 = .ok (.lload 13, 2) := dk_22 13 (dk_at dksX2_hash128_15 12 rfl rfl)
theorem dX2_hash128_367 : decode cX2_hash128 367 = .ok (.ldc2_w 29, 3) := dk_20 0 29 (dk_at dksX2_hash128_15 14 rfl rfl)
theorem dX2_hash128_370 : decode cX2_hash128 370 = .ok (.lmul, 1) := dk_105 (dk_at dksX2_hash128_15 17 rfl rfl)
theorem dX2_hash128_371 : decode cX2_hash128 371 = .ok (.lstore 13, 2) := dk_55 13 (dk_at dksX2_hash128_15 18 rfl rfl)
theorem dX2_hash128_373 : decode cX2_hash128 373 = .ok (.lload 13, 2) := dk_22 13 (dk_at dksX2_hash128_15 20 rfl rfl)
theorem dX2_hash128_375 : decode cX2_hash128 375 = .ok (.bipush 33, 2) := dk_16 33 (dk_at dksX2_hash128_15 22 rfl rfl)
theorem dX2_hash128_377 : decode cX2_hash128 377 = .ok (.invokestatic 24, 3) := dk_184 0 24 (dk_at dksX2_hash128_16 0 rfl rfl)
theorem dX2_hash128_380 : decode cX2_hash128 380 = .ok (.lstore 13, 2) := dk_55 13 (dk_at dksX2_hash128_16 3 rfl rfl)
theorem dX2_hash128_382 : decode cX2_hash128 382 = .ok (.lload 13, 2) := dk_22 13 (dk_at dksX2_hash128_16 5 rfl rfl)
theorem dX2_hash128_384 : decode cX2_hash128 384 = .ok (.ldc2_w 22, 3) := dk_20 0 22 (dk_at dksX2_hash128_16 7 rfl rfl)
theorem dX2_hash128_387 : decode cX2_hash128 387 = .ok (.lmul, 1) := dk_105 (dk_at dksX2_hash128_16 10 rfl rfl)
theorem dX2_hash128_388 : decode cX2_hash128 388 = .ok (.lstore 13, 2) := dk_55 13 (dk_at dksX2_hash128_16 11 rfl rfl)
theorem dX2_hash128_390 : decode cX2_hash128 390 = .ok (.lload 6, 2) := dk_22 6 (dk_at dksX2_hash128_16 13 rfl rfl)
theorem dX2_hash128_392 : decode cX2_hash128 392 = .ok (.lload 13, 2) := dk_22 13 (dk_at dksX2_hash128_16 15 rfl rfl)
theorem dX2_hash128_394 : decode cX2_hash128 394 = .ok (.lxor, 1) := dk_131 (dk_at dksX2_hash128_16 17 rfl rfl)
theorem dX2_hash128_395 : decode cX2_hash128 395 = .ok (.lstore 6, 2) := dk_55 6 (dk_at dksX2_hash128_16 18 rfl rfl)
theorem dX2_hash128_397 : decode cX2_hash128 397 = .ok (.lload 6, 2) := dk_22 6 (dk_at dksX2_hash128_16 20 rfl rfl)
theorem dX2_hash128_399 : decode cX2_hash128 399 = .ok (.bipush 31, 2) := dk_16 31 (dk_at dksX2_hash128_16 22 rfl rfl)
theorem dX2_hash128_401 : decode cX2_hash128 401 = .ok (.invokestatic 24, 3) := dk_184 0 24 (dk_at dksX2_hash128_17 0 rfl rfl)
theorem dX2_hash128_404 : decode cX2_hash128 404 = .ok (.lstore 6, 2) := dk_55 6 (dk_at dksX2_hash128_17 3 rfl rfl)
theorem dX2_hash128_406 : decode cX2_hash128 406 = .ok (.lload 6, 2) := dk_22 6 (dk_at dksX2_hash128_17 5 rfl rfl)
theorem dX2_hash128_408 : decode cX2_hash128 408 = .ok (.lload 4, 2) := dk_22 4 (dk_at dksX2_hash128_17 7 rfl rfl)
theorem dX2_hash128_410 : decode cX2_hash128 410 = .ok (.ladd, 1) := dk_97 (dk_at dksX2_hash128_17 9 rfl rfl)
theorem dX2_hash128_411 : decode cX2_hash128 411 = .ok (.lstore 6, 2) := dk_55 6 (dk_at dksX2_hash128_17 10 rfl rfl)
theorem dX2_hash128_413 : decode cX2_hash128 413 = .ok (.lload 6, 2) := dk_22 6 (dk_at dksX2_hash128_17 12 rfl rfl)
theorem dX2_hash128_415 : decode cX2_hash128 415 = .ok (.ldc2_w 31, 3) := dk_20 0 31 (dk_at dksX2_hash128_17 14 rfl rfl)
theorem dX2_hash128_418 : decode cX2_hash128 418 = .ok (.lmul, 1) := dk_105 (dk_at dksX2_hash128_17 17 rfl rfl)
theorem dX2_hash128_419 : decode cX2_hash128 419 = .ok (.ldc2_w 35, 3) := dk_20 0 35 (dk_at dksX2_hash128_17 18 rfl rfl)
theorem dX2_hash128_422 : decode cX2_hash128 422 = .ok (.ladd, 1) := dk_97 (dk_at dksX2_hash128_17 21 rfl rfl)
theorem dX2_hash128_423 : decode cX2_hash128 423 = .ok (.lstore 6, 2) := dk_55 6 (dk_at dksX2_hash128_17 22 rfl rfl)
theorem dX2_hash128_425 : decode cX2_hash128 425 = .ok (.iinc 9 1, 3) := dk_132 9 1 (dk_at dksX2_hash128_18 0 rfl rfl)
theorem dX2_hash128_428 : decode cX2_hash128 428 = .ok (.goto (-412), 3) := dk_167 254 100 (dk_at dksX2_hash128_18 3 rfl rfl)
theorem dX2_hash128_431 : decode cX2_hash128 431 = .ok (.lconst 0, 1) := dk_9 (dk_at dksX2_hash128_18 6 rfl rfl)
theorem dX2_hash128_432 : decode cX2_hash128 432 = .ok (.lstore 9, 2) := dk_55 9 (dk_at dksX2_hash128_18 7 rfl rfl)
theorem dX2_hash128_434 : decode cX2_hash128 434 = .ok (.lconst 0, 1) := dk_9 (dk_at dksX2_hash128_18 9 rfl rfl)
theorem dX2_hash128_435 : decode cX2_hash128 435 = .ok (.lstore 11, 2) := dk_55 11 (dk_at dksX2_hash128_18 10 rfl rfl)
theorem dX2_hash128_437 : decode cX2_hash128 437 = .ok (.iload 8, 2) := dk_21 8 (dk_at dksX2_hash128_18 12 rfl rfl)
theorem dX2_hash128_439 : decode cX2_hash128 439 = .ok (.iconst 4, 1) := dk_7 (dk_at dksX2_hash128_18 14 rfl rfl)
theorem dX2_hash128_440 : decode cX2_hash128 440 = .ok (.ishl, 1) := dk_120 (dk_at dksX2_hash128_18 15 rfl rfl)
theorem dX2_hash128_441 : decode cX2_hash128 441 = .ok (.istore 13, 2) := dk_54 13 (dk_at dksX2_hash128_18 16 rfl rfl)
theorem dX2_hash128_443 : decode cX2_hash128 443 = .ok (.iload_n 2, 1) := dk_28 (dk_at dksX2_hash128_18 18 rfl rfl)
theorem dX2_hash128_444 : decode cX2_hash128 444 = .ok (.iload 13, 2) := dk_21 13 (dk_at dksX2_hash128_18 19 rfl rfl)
theorem dX2_hash128_446 : decode cX2_hash128 446 = .ok (.isub, 1) := dk_100 (dk_at dksX2_hash128_18 21 rfl rfl)
theorem dX2_hash128_447 : decode cX2_hash128 447 = .ok (.tableswitch 453 1 15 #[405, 384, 363, 342, 321, 300, 278, 256, 205, 183, 161, 139, 117, 95, 73], 73) := by decide +kernel
theorem dX2_hash128_520 : decode cX2_hash128 520 = .ok (.lload 11, 2) := dk_22 11 (dk_at dksX2_hash128_20 0 rfl rfl)
theorem dX2_hash128_522 : decode cX2_hash128 522 = .ok (.aload_n 0, 1) := dk_42 (dk_at dksX2_hash128_20 2 rfl rfl)
theorem dX2_hash128_523 : decode cX2_hash128 523 = .ok (.iload_n 1, 1) := dk_27 (dk_at dksX2_hash128_20 3 rfl rfl)
theorem dX2_hash128_524 : decode cX2_hash128 524 = .ok (.iload 13, 2) := dk_21 13 (dk_at dksX2_hash128_20 4 rfl rfl)
theorem dX2_hash128_526 : decode cX2_hash128 526 = .ok (.iadd, 1) := dk_96 (dk_at dksX2_hash128_20 6 rfl rfl)
theorem dX2_hash128_527 : decode cX2_hash128 527 = .ok (.bipush 14, 2) := dk_16 14 (dk_at dksX2_hash128_20 7 rfl rfl)
theorem dX2_hash128_529 : decode cX2_hash128 529 = .ok (.iadd, 1) := dk_96 (dk_at dksX2_hash128_20 9 rfl rfl)
theorem dX2_hash128_530 : decode cX2_hash128 530 = .ok (.baload, 1) := dk_51 (dk_at dksX2_hash128_20 10 rfl rfl)
theorem dX2_hash128_531 : decode cX2_hash128 531 = .ok (.sipush 255, 3) := dk_17 0 255 (dk_at dksX2_hash128_20 11 rfl rfl)
theorem dX2_hash128_534 : decode cX2_hash128 534 = .ok (.iand, 1) := dk_126 (dk_at dksX2_hash128_20 14 rfl rfl)
theorem dX2_hash128_535 : decode cX2_hash128 535 = .ok (.i2l, 1) := dk_133 (dk_at dksX2_hash128_20 15 rfl rfl)
theorem dX2_hash128_536 : decode cX2_hash128 536 = .ok (.bipush 48, 2) := dk_16 48 (dk_at dksX2_hash128_20 16 rfl rfl)
theorem dX2_hash128_538 : decode cX2_hash128 538 = .ok (.lshl, 1) := dk_121 (dk_at dksX2_hash128_20 18 rfl rfl)
theorem dX2_hash128_539 : decode cX2_hash128 539 = .ok (.lxor, 1) := dk_131 (dk_at dksX2_hash128_20 19 rfl rfl)
theorem dX2_hash128_540 : decode cX2_hash128 540 = .ok (.lstore 11, 2) := dk_55 11 (dk_at dksX2_hash128_20 20 rfl rfl)
theorem dX2_hash128_542 : decode cX2_hash128 542 = .ok (.lload 11, 2) := dk_22 11 (dk_at dksX2_hash128_20 22 rfl rfl)
theorem dX2_hash128_544 : decode cX2_hash128 544 = .ok (.aload_n 0, 1) := dk_42 (dk_at dksX2_hash128_21 0 rfl rfl)
theorem dX2_hash128_545 : decode cX2_hash128 545 = .ok (.iload_n 1, 1) := dk_27 (dk_at dksX2_hash128_21 1 rfl rfl)
theorem dX2_hash128_546 : decode cX2_hash128 546 = .ok (.iload 13, 2) := dk_21 13 (dk_at dksX2_hash128_21 2 rfl rfl)
theorem dX2_hash128_548 : decode cX2_hash128 548 = .ok (.iadd, 1) := dk_96 (dk_at dksX2_hash128_21 4 rfl rfl)
theorem dX2_hash128_549 : decode cX2_hash128 549 = .ok (.bipush 13, 2) := dk_16 13 (dk_at dksX2_hash128_21 5 rfl rfl)
theorem dX2_hash128_551 : decode cX2_hash128 551 = .ok (.iadd, 1) := dk_96 (dk_at dksX2_hash128_21 7 rfl rfl)
theorem dX2_hash128_552 : decode cX2_hash128 552 = .ok (.baload, 1) := dk_51 (dk_at dksX2_hash128_21 8 rfl rfl)
theorem dX2_hash128_553 : decode cX2_hash128 553 = .ok (.sipush 255, 3) := dk_17 0 255 (dk_at dksX2_hash128_21 9 rfl rfl)
theorem dX2_hash128_556 : decode cX2_hash128 556 = .ok (.iand, 1) := dk_126 (dk_at dksX2_hash128_21 12 rfl rfl)
theorem dX2_hash128_557 : decode cX2_hash128 557 = .ok (.i2l, 1) := dk_133 (dk_at dksX2_hash128_21 13 rfl rfl)
theorem dX2_hash128_558 : decode cX2_hash128 558 = .ok (.bipush 40, 2) := dk_16 40 (dk_at dksX2_hash128_21 14 rfl rfl)
theorem dX2_hash128_560 : decode cX2_hash128 560 = .ok (.lshl, 1) := dk_121 (dk_at dksX2_hash128_21 16 rfl rfl)
theorem dX2_hash128_561 : decode cX2_hash128 561 = .ok (.lxor, 1) := dk_131 (dk_at dksX2_hash128_21 17 rfl rfl)
theorem dX2_hash128_562 : decode cX2_hash128 562 = .ok (.lstore 11, 2) := dk_55 11 (dk_at dksX2_hash128_21 18 rfl rfl)
theorem dX2_hash128_564 : decode cX2_hash128 564 = .ok (.lload 11, 2) := dk_22 11 (dk_at dksX2_hash128_21 20 rfl rfl)
theorem dX2_hash128_566 : decode cX2_hash128 566 = .ok (.aload_n 0, 1) := dk_42 (dk_at dksX2_hash128_21 22 rfl rfl)
theorem dX2_hash128_567 : decode cX2_hash128 567 = .ok (.iload_n 1, 1) := dk_27 (dk_at dksX2_hash128_21 23 rfl rfl)
theorem dX2_hash128_568 : decode cX2_hash128 568 = .ok (.iload 13, 2) := dk_21 13 (dk_at dksX2_hash128_22 0 rfl rfl)
theorem dX2_hash128_570 : decode cX2_hash128 570 = .ok (.iadd, 1) := dk_96 (dk_at dksX2_hash128_22 2 rfl rfl)
theorem dX2_hash128_571 : decode cX2_hash128 571 = .ok (.bipush 12, 2) := dk_16 12 (dk_at dksX2_hash128_22 3 rfl rfl)
theorem dX2_hash128_573 : decode cX2_hash128 573 = .ok (.iadd, 1) := dk_96 (dk_at dksX2_hash128_22 5 rfl rfl)
theorem dX2_hash128_574 : decode cX2_hash128 574 = .ok (.baload, 1) := dk_51 (dk_at dksX2_hash128_22 6 rfl rfl)
theorem dX2_hash128_575 : decode cX2_hash128 575 = .ok (.sipush 255, 3) := dk_17 0 255 (dk_at dksX2_hash128_22 7 rfl rfl)
theorem dX2_hash128_578 : decode cX2_hash128 578 = .ok (.iand, 1) := dk_126 (dk_at dksX2_hash128_22 10 rfl rfl)
theorem dX2_hash128_579 : decode cX2_hash128 579 = .ok (.i2l, 1) := dk_133 (dk_at dksX2_hash128_22 11 rfl rfl)
theorem dX2_hash128_580 : decode cX2_hash128 580 = .ok (.bipush 32, 2) := dk_16 32 (dk_at dksX2_hash128_22 12 rfl rfl)
theorem dX2_hash128_582 : decode cX2_hash128 582 = .ok (.lshl, 1) := dk_121 (dk_at dksX2_hash128_22 14 rfl rfl)
theorem dX2_hash128_583 : decode cX2_hash128 583 = .ok (.lxor, 1) := dk_131 (dk_at dksX2_hash128_22 15 rfl rfl)
theorem dX2_hash128_584 : decode cX2_hash128 584 = .ok (.lstore 11, 2) := dk_55 11 (dk_at dksX2_hash128_22 16 rfl rfl)
theorem dX2_hash128_586 : decode cX2_hash128 586 = .ok (.lload 11, 2) := dk_22 11 (dk_at dksX2_hash128_22 18 rfl rfl)
theorem dX2_hash128_588 : decode cX2_hash128 588 = .ok (.aload_n 0, 1) := dk_42 (dk_at dksX2_hash128_22 20 rfl rfl)
theorem dX2_hash128_589 : decode cX2_hash128 589 = .ok (.iload_n 1, 1) := dk_27 (dk_at dksX2_hash128_22 21 rfl rfl)
theorem dX2_hash128_590 : decode cX2_hash128 590 = .ok (.iload 13, 2) := dk_21 13 (dk_at dksX2_hash128_22 22 rfl rfl)
theorem dX2_hash128_592 : decode cX2_hash128 592 = .ok (.iadd, 1) := dk_96 (dk_at dksX2_hash128_23 0 rfl rfl)
theorem dX2_hash128_593 : decode cX2_hash128 593 = .ok (.bipush 11, 2) := dk_16 11 (dk_at dksX2_hash128_23 1 rfl rfl)
theorem dX2_hash128_595 : decode cX2_hash128 595 = .ok (.iadd, 1) := dk_96 (dk_at dksX2_hash128_23 3 rfl rfl)
theorem dX2_hash128_596 : decode cX2_hash128 596 = .ok (.baload, 1) := dk_51 (dk_at dksX2_hash128_23 4 rfl rfl)
theorem dX2_hash128_597 : decode cX2_hash128 597 = .ok (.sipush 255, 3) := dk_17 0 255 (dk_at dksX2_hash128_23 5 rfl rfl)
theorem dX2_hash128_600 : decode cX2_hash128 600 = .ok (.iand, 1) := dk_126 (dk_at dksX2_hash128_23 8 rfl rfl)
theorem dX2_hash128_601 : decode cX2_hash128 601 = .ok (.i2l, 1) := dk_133 (dk_at dksX2_hash128_23 9 rfl rfl)
theorem dX2_hash128_602 : decode cX2_hash128 602 = .ok (.bipush 24, 2) := dk_16 24 (dk_at dksX2_hash128_23 10 rfl rfl)
theorem dX2_hash128_604 : decode cX2_hash128 604 = .ok (.lshl, 1) := dk_121 (dk_at dksX2_hash128_23 12 rfl rfl)
theorem dX2_hash128_605 : decode cX2_hash128 605 = .ok (.lxor, 1) := dk_131 (dk_at dksX2_hash128_23 13 rfl rfl)
theorem dX2_hash128_606 : decode cX2_hash128 606 = .ok (.lstore 11, 2) := dk_55 11 (dk_at dksX2_hash128_23 14 rfl rfl)
theorem dX2_hash128_608 : decode cX2_hash128 608 = .ok (.lload 11, 2) := dk_22 11 (dk_at dksX2_hash128_23 16 rfl rfl)
theorem dX2_hash128_610 : decode cX2_hash128 610 = .ok (.aload_n 0, 1) := dk_42 (dk_at dksX2_hash128_23 18 rfl rfl)
theorem dX2_hash128_611 : decode cX2_hash128 611 = .ok (.iload_n 1, 1) := dk_27 (dk_at dksX2_hash128_23 19 rfl rfl)
theorem dX2_hash128_612 : decode cX2_hash128 612 = .ok (.iload 13, 2) := dk_21 13 (dk_at dksX2_hash128_23 20 rfl rfl)
theorem dX2_hash128_614 : decode cX2_hash128 614 = .ok (.iadd, 1) := dk_96 (dk_at dksX2_hash128_23 22 rfl rfl)
theorem dX2_hash128_615 : decode cX2_hash128 615 = .ok (.bipush 10, 2) := dk_16 10 (dk_at dksX2_hash128_24 0 rfl rfl)
theorem dX2_hash128_617 : decode cX2_hash128 617 = .ok (.iadd, 1) := dk_96 (dk_at dksX2_hash128_24 2 rfl rfl)
theorem dX2_hash128_618 : decode cX2_hash128 618 = .ok (.baload, 1) := dk_51 (dk_at dksX2_hash128_24 3 rfl rfl)
theorem dX2_hash128_619 : decode cX2_hash128 619 = .ok (.sipush 255, 3) := dk_17 0 255 (dk_at dksX2_hash128_24 4 rfl rfl)
theorem dX2_hash128_622 : decode cX2_hash128 622 = .ok (.iand, 1) := dk_126 (dk_at dksX2_hash128_24 7 rfl rfl)
theorem dX2_hash128_623 : decode cX2_hash128 623 = .ok (.i2l, 1) := dk_133 (dk_at dksX2_hash128_24 8 rfl rfl)
theorem dX2_hash128_624 : decode cX2_hash128 624 = .ok (.bipush 16, 2) := dk_16 16 (dk_at dksX2_hash128_24 9 rfl rfl)
theorem dX2_hash128_626 : decode cX2_hash128 626 = .ok (.lshl, 1) := dk_121 (dk_at dksX2_hash128_24 11 rfl rfl)
theorem dX2_hash128_627 : decode cX2_hash128 627 = .ok (.lxor, 1) := dk_131 (dk_at dksX2_hash128_24 12 rfl rfl)
theorem dX2_hash128_628 : decode cX2_hash128 628 = .ok (.lstore 11, 2) := dk_55 11 (dk_at dksX2_hash128_24 13 rfl rfl)
theorem dX2_hash128_630 : decode cX2_hash128 630 = .ok (.lload 11, 2) := dk_22 11 (dk_at dksX2_hash128_24 15 rfl rfl)
theorem dX2_hash128_632 : decode cX2_hash128 632 = .ok (.aload_n 0, 1) := dk_42 (dk_at dksX2_hash128_24 17 rfl rfl)
theorem dX2_hash128_633 : decode cX2_hash128 633 = .ok (.iload_n 1, 1) := dk_27 (dk_at dksX2_hash128_24 18 rfl rfl)
theorem dX2_hash128_634 : decode cX2_hash128 634 = .ok (.iload 13, 2) := dk_21 13 (dk_at dksX2_hash128_24 19 rfl rfl)
theorem dX2_hash128_636 : decode cX2_hash128 636 = .ok (.iadd, 1) := dk_96 (dk_at dksX2_hash128_24 21 rfl rfl)
theorem dX2_hash128_637 : decode cX2_hash128 637 = .ok (.bipush 9, 2) := dk_16 9 (dk_at dksX2_hash128_24 22 rfl rfl)
theorem dX2_hash128_639 : decode cX2_hash128 639 = .ok (.iadd, 1) := dk_96 (dk_at dksX2_hash128_25 0 rfl rfl)
theorem dX2_hash128_640 : decode cX2_hash128 640 = .ok (.baload, 1) := dk_51 (dk_at dksX2_hash128_25 1 rfl rfl)
theorem dX2_hash128_641 : decode cX2_hash128 641 = .ok (.sipush 255, 3) := dk_17 0 255 (dk_at dksX2_hash128_25 2 rfl rfl)
theorem dX2_hash128_644 : decode cX2_hash128 644 = .ok (.iand, 1) := dk_126 (dk_at dksX2_hash128_25 5 rfl rfl)
theorem dX2_hash128_645 : decode cX2_hash128 645 = .ok (.i2l, 1) := dk_133 (dk_at dksX2_hash128_25 6 rfl rfl)
theorem dX2_hash128_646 : decode cX2_hash128 646 = .ok (.bipush 8, 2) := dk_16 8 (dk_at dksX2_hash128_25 7 rfl rfl)
theorem dX2_hash128_648 : decode cX2_hash128 648 = .ok (.lshl, 1) := dk_121 (dk_at dksX2_hash128_25 9 rfl rfl)
theorem dX2_hash128_649 : decode cX2_hash128 649 = .ok (.lxor, 1) := dk_131 (dk_at dksX2_hash128_25 10 rfl rfl)
theorem dX2_hash128_650 : decode cX2_hash128 650 = .ok (.lstore 11, 2) := dk_55 11 (dk_at dksX2_hash128_25 11 rfl rfl)
theorem dX2_hash128_652 : decode cX2_hash128 652 = .ok (.lload 11, 2) := dk_22 11 (dk_at dksX2_hash128_25 13 rfl rfl)
theorem dX2_hash128_654 : decode cX2_hash128 654 = .ok (.aload_n 0, 1) := dk_42 (dk_at dksX2_hash128_25 15 rfl rfl)
theorem dX2_hash128_655 : decode cX2_hash128 655 = .ok (.iload_n 1, 1) := dk_27 (dk_at dksX2_hash128_25 16 rfl rfl)
theorem dX2_hash128_656 : decode cX2_hash128 656 = .ok (.iload 13, 2) := dk_21 13 (dk_at dksX2_hash128_25 17 rfl rfl)
theorem dX2_hash128_658 : decode cX2_hash128 658 = .ok (.iadd, 1) := dk_96 (dk_at dksX2_hash128_25 19 rfl rfl)
theorem dX2_hash128_659 : decode cX2_hash128 659 = .ok (.bipush 8, 2) := dk_16 8 (dk_at dksX2_hash128_25 20 rfl rfl)
theorem dX2_hash128_661 : decode cX2_hash128 661 = .ok (.iadd, 1) := dk_96 (dk_at dksX2_hash128_25 22 rfl rfl)
theorem dX2_hash128_662 : decode cX2_hash128 662 = .ok (.baload, 1) := dk_51 (dk_at dksX2_hash128_25 23 rfl rfl)
theorem dX2_hash128_663 : decode cX2_hash128 663 = .ok (.sipush 255, 3) := dk_17 0 255 (dk_at dksX2_hash128_26 0 rfl rfl)
theorem dX2_hash128_666 : decode cX2_hash128 666 = .ok (.iand, 1) := dk_126 (dk_at dksX2_hash128_26 3 rfl rfl)
theorem dX2_hash128_667 : decode cX2_hash128 667 = .ok (.i2l, 1) := dk_133 (dk_at dksX2_hash128_26 4 rfl rfl)
theorem dX2_hash128_668 : decode cX2_hash128 668 = .ok (.lxor, 1) := dk_131 (dk_at dksX2_hash128_26 5 rfl rfl)
theorem dX2_hash128_669 : decode cX2_hash128 669 = .ok (.lstore 11, 2) := dk_55 11 (dk_at dksX2_hash128_26 6 rfl rfl)
theorem dX2_hash128_671 : decode cX2_hash128 671 = .ok (.lload 11, 2) := dk_22 11 (dk_at dksX2_hash128_26 8 rfl rfl)
theorem dX2_hash128_673 : decode cX2_hash128 673 = .ok (.ldc2_w 29, 3) := dk_20 0 29 (dk_at dksX2_hash128_26 10 rfl rfl)
theorem dX2_hash128_676 : decode cX2_hash128 676 = .ok (.lmul, 1) := dk_105 (dk_at dksX2_hash128_26 13 rfl rfl)
theorem dX2_hash128_677 : decode cX2_hash128 677 = .ok (.lstore 11, 2) := dk_55 11 (dk_at dksX2_hash128_26 14 rfl rfl)
theorem dX2_hash128_679 : decode cX2_hash128 679 = .ok (.lload 11, 2) := dk_22 11 (dk_at dksX2_hash128_26 16 rfl rfl)
theorem dX2_hash128_681 : decode cX2_hash128 681 = .ok (.bipush 33, 2) := dk_16 33 (dk_at dksX2_hash128_26 18 rfl rfl)
theorem dX2_hash128_683 : decode cX2_hash128 683 = .ok (.invokestatic 24, 3) := dk_184 0 24 (dk_at dksX2_hash128_26 20 rfl rfl)
theorem dX2_hash128_686 : decode cX2_hash128 686 = .ok (.lstore 11, 2) := dk_55 11 (dk_at dksX2_hash128_27 0 rfl rfl)
theorem dX2_hash128_688 : decode cX2_hash128 688 = .ok (.lload 11, 2) := dk_22 11 (dk_at dksX2_hash128_27 2 rfl rfl)
theorem dX2_hash128_690 : decode cX2_hash128 690 = .ok (.ldc2_w 22, 3) := dk_20 0 22 (dk_at dksX2_hash128_27 4 rfl rfl)
theorem dX2_hash128_693 : decode cX2_hash128 693 = .ok (.lmul, 1) := dk_105 (dk_at dksX2_hash128_27 7 rfl rfl)
theorem dX2_hash128_694 : decode cX2_hash128 694 = .ok (.lstore 11, 2) := dk_55 11 (dk_at dksX2_hash128_27 8 rfl rfl)
theorem dX2_hash128_696 : decode cX2_hash128 696 = .ok (.lload 6, 2) := dk_22 6 (dk_at dksX2_hash128_27 10 rfl rfl)
theorem dX2_hash128_698 : decode cX2_hash128 698 = .ok (.lload 11, 2) := dk_22 11 (dk_at dksX2_hash128_27 12 rfl rfl)
theorem dX2_hash128_700 : decode cX2_hash128 700 = .ok (.lxor, 1) := dk_131 (dk_at dksX2_hash128_27 14 rfl rfl)
theorem dX2_hash128_701 : decode cX2_hash128 701 = .ok (.lstore 6, 2) := dk_55 6 (dk_at dksX2_hash128_27 15 rfl rfl)
theorem dX2_hash128_703 : decode cX2_hash128 703 = .ok (.lload 9, 2) := dk_22 9 (dk_at dksX2_hash128_27 17 rfl rfl)
theorem dX2_hash128_705 : decode cX2_hash128 705 = .ok (.aload_n 0, 1) := dk_42 (dk_at dksX2_hash128_27 19 rfl rfl)
theorem dX2_hash128_706 : decode cX2_hash128 706 = .ok (.iload_n 1, 1) := dk_27 (dk_at dksX2_hash128_27 20 rfl rfl)
theorem dX2_hash128_707 : decode cX2_hash128 707 = .ok (.iload 13, 2) := dk_21 13 (dk_at dksX2_hash128_27 21 rfl rfl)
theorem dX2_hash128_709 : decode cX2_hash128 709 = .ok (.iadd, 1) := dk_96 (dk_at dksX2_hash128_27 23 rfl rfl)
theorem dX2_hash128_710 : decode cX2_hash128 710 = .ok (.bipush 7, 2) := dk_16 7 (dk_at dksX2_hash128_28 0 rfl rfl)
theorem dX2_hash128_712 : decode cX2_hash128 712 = .ok (.iadd, 1) := dk_96 (dk_at dksX2_hash128_28 2 rfl rfl)
theorem dX2_hash128_713 : decode cX2_hash128 713 = .ok (.baload, 1) := dk_51 (dk_at dksX2_hash128_28 3 rfl rfl)
theorem dX2_hash128_714 : decode cX2_hash128 714 = .ok (.sipush 255, 3) := dk_17 0 255 (dk_at dksX2_hash128_28 4 rfl rfl)
theorem dX2_hash128_717 : decode cX2_hash128 717 = .ok (.iand, 1) := dk_126 (dk_at dksX2_hash128_28 7 rfl rfl)
theorem dX2_hash128_718 : decode cX2_hash128 718 = .ok (.i2l, 1) := dk_133 (dk_at dksX2_hash128_28 8 rfl rfl)
theorem dX2_hash128_719 : decode cX2_hash128 719 = .ok (.bipush 56, 2) := dk_16 56 (dk_at dksX2_hash128_28 9 rfl rfl)
theorem dX2_hash128_721 : decode cX2_hash128 721 = .ok (.lshl, 1) := dk_121 (dk_at dksX2_hash128_28 11 rfl rfl)
theorem dX2_hash128_722 : decode cX2_hash128 722 = .ok (.lxor, 1) := dk_131 (dk_at dksX2_hash128_28 12 rfl rfl)
theorem dX2_hash128_723 : decode cX2_hash128 723 = .ok (.lstore 9, 2) := dk_55 9 (dk_at dksX2_hash128_28 13 rfl rfl)
theorem dX2_hash128_725 : decode cX2_hash128 725 = .ok (.lload 9, 2) := dk_22 9 (dk_at dksX2_hash128_28 15 rfl rfl)
theorem dX2_hash128_727 : decode cX2_hash128 727 = .ok (.aload_n 0, 1) := dk_42 (dk_at dksX2_hash128_28 17 rfl rfl)
theorem dX2_hash128_728 : decode cX2_hash128 728 = .ok (.iload_n 1, 1) := dk_27 (dk_at dksX2_hash128_28 18 rfl rfl)
theorem dX2_hash128_729 : decode cX2_hash128 729 = .ok (.iload 13, 2) := dk_21 13 (dk_at dksX2_hash128_28 19 rfl rfl)
theorem dX2_hash128_731 : decode cX2_hash128 731 = .ok (.iadd, 1) := dk_96 (dk_at dksX2_hash128_28 21 rfl rfl)
theorem dX2_hash128_732 : decode cX2_hash128 732 = .ok (.bipush 6, 2) := dk_16 6 (dk_at dksX2_hash128_28 22 rfl rfl)
theorem dX2_hash128_734 : decode cX2_hash128 734 = .ok (.iadd, 1) := dk_96 (dk_at dksX2_hash128_29 0 rfl rfl)
theorem dX2_hash128_735 : decode cX2_hash128 735 = .ok (.baload, 1) := dk_51 (dk_at dksX2_hash128_29 1 rfl rfl)
theorem dX2_hash128_736 : decode cX2_hash128 736 = .ok (.sipush 255, 3) := dk_17 0 255 (dk_at dksX2_hash128_29 2 rfl rfl)
theorem dX2_hash128_739 : decode cX2_hash128 739 = .ok (.iand, 1) := dk_126 (dk_at dksX2_hash128_29 5 rfl rfl)
theorem dX2_hash128_740 : decode cX2_hash128 740 = .ok (.i2l, 1) := dk_133 (dk_at dksX2_hash128_29 6 rfl rfl)
theorem dX2_hash128_741 : decode cX2_hash128 741 = .ok (.bipush 48, 2) := dk_16 48 (dk_at dksX2_hash128_29 7 rfl rfl)
theorem dX2_hash128_743 : decode cX2_hash128 743 = .ok (.lshl, 1) := dk_121 (dk_at dksX2_hash128_29 9 rfl rfl)
theorem dX2_hash128_744 : decode cX2_hash128 744 = .ok (.lxor, 1) := dk_131 (dk_at dksX2_hash128_29 10 rfl rfl)
theorem dX2_hash128_745 : decode cX2_hash128 745 = .ok (.lstore 9, 2) := dk_55 9 (dk_at dksX2_hash128_29 11 rfl rfl)
theorem dX2_hash128_747 : decode cX2_hash128 747 = .ok (.lload 9, 2) := dk_22 9 (dk_at dksX2_hash128_29 13 rfl rfl)
theorem dX2_hash128_749 : decode cX2_hash128 749 = .ok (.aload_n 0, 1) := dk_42 (dk_at dksX2_hash128_29 15 rfl rfl)
theorem dX2_hash128_750 : decode cX2_hash128 750 = .ok (.iload_n 1, 1) := dk_27 (dk_at dksX2_hash128_29 16 rfl rfl)
theorem dX2_hash128_751 : decode cX2_hash128 751 = .ok (.iload 13, 2) := dk_21 13 (dk_at dksX2_hash128_29 17 rfl rfl)
theorem dX2_hash128_753 : decode cX2_hash128 753 = .ok (.iadd, 1) := dk_96 (dk_at dksX2_hash128_29 19 rfl rfl)
theorem dX2_hash128_754 : decode cX2_hash128 754 = .ok (.iconst 5, 1) := dk_8 (dk_at dksX2_hash128_29 20 rfl rfl)
theorem dX2_hash128_755 : decode cX2_hash128 755 = .ok (.iadd, 1) := dk_96 (dk_at dksX2_hash128_29 21 rfl rfl)
theorem dX2_hash128_756 : decode cX2_hash128 756 = .ok (.baload, 1) := dk_51 (dk_at dksX2_hash128_29 22 rfl rfl)
theorem dX2_hash128_757 : decode cX2_hash128 757 = .ok (.sipush 255, 3) := dk_17 0 255 (dk_at dksX2_hash128_30 0 rfl rfl)
theorem dX2_hash128_760 : decode cX2_hash128 760 = .ok (.iand, 1) := dk_126 (dk_at dksX2_hash128_30 3 rfl rfl)
theorem dX2_hash128_761 : decode cX2_hash128 761 = .ok (.i2l, 1) := dk_133 (dk_at dksX2_hash128_30 4 rfl rfl)
theorem dX2_hash128_762 : decode cX2_hash128 762 = .ok (.bipush 40, 2) := dk_16 40 (dk_at dksX2_hash128_30 5 rfl rfl)
theorem dX2_hash128_764 : decode cX2_hash128 764 = .ok (.lshl, 1) := dk_121 (dk_at dksX2_hash128_30 7 rfl rfl)
theorem dX2_hash128_765 : decode cX2_hash128 765 = .ok (.lxor, 1) := dk_131 (dk_at dksX2_hash128_30 8 rfl rfl)
theorem dX2_hash128_766 : decode cX2_hash128 766 = .ok (.lstore 9, 2) := dk_55 9 (dk_at dksX2_hash128_30 9 rfl rfl)
theorem dX2_hash128_768 : decode cX2_hash128 768 = .ok (.lload 9, 2) := dk_22 9 (dk_at dksX2_hash128_30 11 rfl rfl)
theorem dX2_hash128_770 : decode cX2_hash128 770 = .ok (.aload_n 0, 1) := dk_42 (dk_at dksX2_hash128_30 13 rfl rfl)
theorem dX2_hash128_771 : decode cX2_hash128 771 = .ok (.iload_n 1, 1) := dk_27 (dk_at dksX2_hash128_30 14 rfl rfl)
theorem dX2_hash128_772 : decode cX2_hash128 772 = .ok (.iload 13, 2) := dk_21 13 (dk_at dksX2_hash128_30 15 rfl rfl)
theorem dX2_hash128_774 : decode cX2_hash128 774 = .ok (.iadd, 1) := dk_96 (dk_at dksX2_hash128_30 17 rfl rfl)
theorem dX2_hash128_775 : decode cX2_hash128 775 = .ok (.iconst 4, 1) := dk_7 (dk_at dksX2_hash128_30 18 rfl rfl)
theorem dX2_hash128_776 : decode cX2_hash128 776 = .ok (.iadd, 1) := dk_96 (dk_at dksX2_hash128_30 19 rfl rfl)
theorem dX2_hash128_777 : decode cX2_hash128 777 = .ok (.baload, 1) := dk_51 (dk_at dksX2_hash128_30 20 rfl rfl)
theorem dX2_hash128_778 : decode cX2_hash128 778 = .ok (.sipush 255, 3) := dk_17 0 255 (dk_at dksX2_hash128_30 21 rfl rfl)
theorem dX2_hash128_781 : decode cX2_hash128 781 = .ok (.iand, 1) := dk_126 (dk_at dksX2_hash128_31 0 rfl rfl)
theorem dX2_hash128_782 : decode cX2_hash128 782 = .ok (.i2l, 1) := dk_133 (dk_at dksX2_hash128_31 1 rfl rfl)
theorem dX2_hash128_783 : decode cX2_hash128 783 = .ok (.bipush 32, 2) := dk_16 32 (dk_at dksX2_hash128_31 2 rfl rfl)
theorem dX2_hash128_785 : decode cX2_hash128 785 = .ok (.lshl, 1) := dk_121 (dk_at dksX2_hash128_31 4 rfl rfl)
theorem dX2_hash128_786 : decode cX2_hash128 786 = .ok (.lxor, 1) := dk_131 (dk_at dksX2_hash128_31 5 rfl rfl)
theorem dX2_hash128_787 : decode cX2_hash128 787 = .ok (.lstore 9, 2) := dk_55 9 (dk_at dksX2_hash128_31 6 rfl rfl)
theorem dX2_hash128_789 : decode cX2_hash128 789 = .ok (.lload 9, 2) := dk_22 9 (dk_at dksX2_hash128_31 8 rfl rfl)
theorem dX2_hash128_791 : decode cX2_hash128 791 = .ok (.aload_n 0, 1) := dk_42 (dk_at dksX2_hash128_31 10 rfl rfl)
theorem dX2_hash128_792 : decode cX2_hash128 792 = .ok (.iload_n 1, 1) := dk_27 (dk_at dksX2_hash128_31 11 rfl rfl)
theorem dX2_hash128_793 : decode cX2_hash128 793 = .ok (.iload 13, 2) := dk_21 13 (dk_at dksX2_hash128_31 12 rfl rfl)
theorem dX2_hash128_795 : decode cX2_hash128 795 = .ok (.iadd, 1) := dk_96 (dk_at dksX2_hash128_31 14 rfl rfl)
theorem dX2_hash128_796 : decode cX2_hash128 796 = .ok (.iconst 3, 1) := dk_6 (dk_at dksX2_hash128_31 15 rfl rfl)
theorem dX2_hash128_797 : decode cX2_hash128 797 = .ok (.iadd, 1) := dk_96 (dk_at dksX2_hash128_31 16 rfl rfl)
theorem dX2_hash128_798 : decode cX2_hash128 798 = .ok (.baload, 1) := dk_51 (dk_at dksX2_hash128_31 17 rfl rfl)
theorem dX2_hash128_799 : decode cX2_hash128 799 = .ok (.sipush 255, 3) := dk_17 0 255 (dk_at dksX2_hash128_31 18 rfl rfl)
theorem dX2_hash128_802 : decode cX2_hash128 802 = .ok (.iand, 1) := dk_126 (dk_at dksX2_hash128_31 21 rfl rfl)
theorem dX2_hash128_803 : decode cX2_hash128 803 = .ok (.i2l, 1) := dk_133 (dk_at dksX2_hash128_31 22 rfl rfl)
theorem dX2_hash128_804 : decode cX2_hash128 804 = .ok (.bipush 24, 2) := dk_16 24 (dk_at dksX2_hash128_32 0 rfl rfl)
theorem dX2_hash128_806 : decode cX2_hash128 806 = .ok (.lshl, 1) := dk_121 (dk_at dksX2_hash128_32 2 rfl rfl)
theorem dX2_hash128_807 : decode cX2_hash128 807 = .ok (.lxor, 1) := dk_131 (dk_at dksX2_hash128_32 3 rfl rfl)
theorem dX2_hash128_808 : decode cX2_hash128 808 = .ok (.lstore 9, 2) := dk_55 9 (dk_at dksX2_hash128_32 4 rfl rfl)
theorem dX2_hash128_810 : decode cX2_hash128 810 = .ok (.lload 9, 2) := dk_22 9 (dk_at dksX2_hash128_32 6 rfl rfl)
theorem dX2_hash128_812 : decode cX2_hash128 812 = .ok (.aload_n 0, 1) := dk_42 (dk_at dksX2_hash128_32 8 rfl rfl)
theorem dX2_hash128_813 : decode cX2_hash128 813 = .ok (.iload_n 1, 1) := dk_27 (dk_at dksX2_hash128_32 9 rfl rfl)
theorem dX2_hash128_814 : decode cX2_hash128 814 = .ok (.iload 13, 2) := dk_21 13 (dk_at dksX2_hash128_32 10 rfl rfl)
theorem dX2_hash128_816 : decode cX2_hash128 816 = .ok (.iadd, 1) := dk_96 (dk_at dksX2_hash128_32 12 rfl rfl)
theorem dX2_hash128_817 : decode cX2_hash128 817 = .ok (.iconst 2, 1) := dk_5 (dk_at dksX2_hash128_32 13 rfl rfl)
theorem dX2_hash128_818 : decode cX2_hash128 818 = .ok (.iadd, 1) := dk_96 (dk_at dksX2_hash128_32 14 rfl rfl)
theorem dX2_hash128_819 : decode cX2_hash128 819 = .ok (.baload, 1) := dk_51 (dk_at dksX2_hash128_32 15 rfl rfl)
theorem dX2_hash128_820 : decode cX2_hash128 820 = .ok (.sipush 255, 3) := dk_17 0 255 (dk_at dksX2_hash128_32 16 rfl rfl)
theorem dX2_hash128_823 : decode cX2_hash128 823 = .ok (.iand, 1) := dk_126 (dk_at dksX2_hash128_32 19 rfl rfl)
theorem dX2_hash128_824 : decode cX2_hash128 824 = .ok (.i2l, 1) := dk_133 (dk_at dksX2_hash128_32 20 rfl rfl)
theorem dX2_hash128_825 : decode cX2_hash128 825 = .ok (.bipush 16, 2) := dk_16 16 (dk_at dksX2_hash128_32 21 rfl rfl)
theorem dX2_hash128_827 : decode cX2_hash128 827 = .ok (.lshl, 1) := dk_121 (dk_at dksX2_hash128_32 23 rfl rfl)
theorem dX2_hash128_828 : decode cX2_hash128 828 = .ok (.lxor, 1) := dk_131 (dk_at dksX2_hash128_33 0 rfl rfl)
theorem dX2_hash128_829 : decode cX2_hash128 829 = .ok (.lstore 9, 2) := dk_55 9 (dk_at dksX2_hash128_33 1 rfl rfl)
theorem dX2_hash128_831 : decode cX2_hash128 831 = .ok (.lload 9, 2) := dk_22 9 (dk_at dksX2_hash128_33 3 rfl rfl)
theorem dX2_hash128_833 : decode cX2_hash128 833 = .ok (.aload_n 0, 1) := dk_42 (dk_at dksX2_hash128_33 5 rfl rfl)
theorem dX2_hash128_834 : decode cX2_hash128 834 = .ok (.iload_n 1, 1) := dk_27 (dk_at dksX2_hash128_33 6 rfl rfl)
theorem dX2_hash128_835 : decode cX2_hash128 835 = .ok (.iload 13, 2) := dk_21 13 (dk_at dksX2_hash128_33 7 rfl rfl)
theorem dX2_hash128_837 : decode cX2_hash128 837 = .ok (.iadd, 1) := dk_96 (dk_at dksX2_hash128_33 9 rfl rfl)
theorem dX2_hash128_838 : decode cX2_hash128 838 = .ok (.iconst 1, 1) := dk_4 (dk_at dksX2_hash128_33 10 rfl rfl)
theorem dX2_hash128_839 : decode cX2_hash128 839 = .ok (.iadd, 1) := dk_96 (dk_at dksX2_hash128_33 11 rfl rfl)
theorem dX2_hash128_840 : decode cX2_hash128 840 = .ok (.baload, 1) := dk_51 (dk_at dksX2_hash128_33 12 rfl rfl)
theorem dX2_hash128_841 : decode cX2_hash128 841 = .ok (.sipush 255, 3) := dk_17 0 255 (dk_at dksX2_hash128_33 13 rfl rfl)
theorem dX2_hash128_844 : decode cX2_hash128 844 = .ok (.iand, 1) := dk_126 (dk_at dksX2_hash128_33 16 rfl rfl)
theorem dX2_hash128_845 : decode cX2_hash128 845 = .ok (.i2l, 1) := dk_133 (dk_at dksX2_hash128_33 17 rfl rfl)
theorem dX2_hash128_846 : decode cX2_hash128 846 = .ok (.bipush 8, 2) := dk_16 8 (dk_at dksX2_hash128_33 18 rfl rfl)
theorem dX2_hash128_848 : decode cX2_hash128 848 = .ok (.lshl, 1) := dk_121 (dk_at dksX2_hash128_33 20 rfl rfl)
theorem dX2_hash128_849 : decode cX2_hash128 849 = .ok (.lxor, 1) := dk_131 (dk_at dksX2_hash128_33 21 rfl rfl)
theorem dX2_hash128_850 : decode cX2_hash128 850 = .ok (.lstore 9, 2) := dk_55 9 (dk_at dksX2_hash128_33 22 rfl rfl)
theorem dX2_hash128_852 : decode cX2_hash128 852 = .ok (.lload 9, 2) := dk_22 9 (dk_at dksX2_hash128_34 0 rfl rfl)
theorem dX2_hash128_854 : decode cX2_hash128 854 = .ok (.aload_n 0, 1) := dk_42 (dk_at dksX2_hash128_34 2 rfl rfl)
theorem dX2_hash128_855 : decode cX2_hash128 855 = .ok (.iload_n 1, 1) := dk_27 (dk_at dksX2_hash128_34 3 rfl rfl)
theorem dX2_hash128_856 : decode cX2_hash128 856 = .ok (.iload 13, 2) := dk_21 13 (dk_at dksX2_hash128_34 4 rfl rfl)
theorem dX2_hash128_858 : decode cX2_hash128 858 = .ok (.iadd, 1) := dk_96 (dk_at dksX2_hash128_34 6 rfl rfl)
theorem dX2_hash128_859 : decode cX2_hash128 859 = .ok (.baload, 1) := dk_51 (dk_at dksX2_hash128_34 7 rfl rfl)
theorem dX2_hash128_860 : decode cX2_hash128 860 = .ok (.sipush 255, 3) := dk_17 0 255 (dk_at dksX2_hash128_34 8 rfl rfl)
theorem dX2_hash128_863 : decode cX2_hash128 863 = .ok (.iand, 1) := dk_126 (dk_at dksX2_hash128_34 11 rfl rfl)
theorem dX2_hash128_864 : decode cX2_hash128 864 = .ok (.i2l, 1) := dk_133 (dk_at dksX2_hash128_34 12 rfl rfl)
theorem dX2_hash128_865 : decode cX2_hash128 865 = .ok (.lxor, 1) := dk_131 (dk_at dksX2_hash128_34 13 rfl rfl)
theorem dX2_hash128_866 : decode cX2_hash128 866 = .ok (.lstore 9, 2) := dk_55 9 (dk_at dksX2_hash128_34 14 rfl rfl)
theorem dX2_hash128_868 : decode cX2_hash128 868 = .ok (.lload 9, 2) := dk_22 9 (dk_at dksX2_hash128_34 16 rfl rfl)
theorem dX2_hash128_870 : decode cX2_hash128 870 = .ok (.ldc2_w 22, 3) := dk_20 0 22 (dk_at dksX2_hash128_34 18 rfl rfl)
theorem dX2_hash128_873 : decode cX2_hash128 873 = .ok (.lmul, 1) := dk_105 (dk_at dksX2_hash128_34 21 rfl rfl)
theorem dX2_hash128_874 : decode cX2_hash128 874 = .ok (.lstore 9, 2) := dk_55 9 (dk_at dksX2_hash128_34 22 rfl rfl)
theorem dX2_hash128_876 : decode cX2_hash128 876 = .ok (.lload 9, 2) := dk_22 9 (dk_at dksX2_hash128_35 0 rfl rfl)
theorem dX2_hash128_878 : decode cX2_hash128 878 = .ok (.bipush 31, 2) := dk_16 31 (dk_at dksX2_hash128_35 2 rfl rfl)
theorem dX2_hash128_880 : decode cX2_hash128 880 = .ok (.invokestatic 24, 3) := dk_184 0 24 (dk_at dksX2_hash128_35 4 rfl rfl)
theorem dX2_hash128_883 : decode cX2_hash128 883 = .ok (.lstore 9, 2) := dk_55 9 (dk_at dksX2_hash128_35 7 rfl rfl)
theorem dX2_hash128_885 : decode cX2_hash128 885 = .ok (.lload 9, 2) := dk_22 9 (dk_at dksX2_hash128_35 9 rfl rfl)
theorem dX2_hash128_887 : decode cX2_hash128 887 = .ok (.ldc2_w 29, 3) := dk_20 0 29 (dk_at dksX2_hash128_35 11 rfl rfl)
theorem dX2_hash128_890 : decode cX2_hash128 890 = .ok (.lmul, 1) := dk_105 (dk_at dksX2_hash128_35 14 rfl rfl)
theorem dX2_hash128_891 : decode cX2_hash128 891 = .ok (.lstore 9, 2) := dk_55 9 (dk_at dksX2_hash128_35 15 rfl rfl)
theorem dX2_hash128_893 : decode cX2_hash128 893 = .ok (.lload 4, 2) := dk_22 4 (dk_at dksX2_hash128_35 17 rfl rfl)
theorem dX2_hash128_895 : decode cX2_hash128 895 = .ok (.lload 9, 2) := dk_22 9 (dk_at dksX2_hash128_35 19 rfl rfl)
theorem dX2_hash128_897 : decode cX2_hash128 897 = .ok (.lxor, 1) := dk_131 (dk_at dksX2_hash128_35 21 rfl rfl)
theorem dX2_hash128_898 : decode cX2_hash128 898 = .ok (.lstore 4, 2) := dk_55 4 (dk_at dksX2_hash128_35 22 rfl rfl)
theorem dX2_hash128_900 : decode cX2_hash128 900 = .ok (.lload 4, 2) := dk_22 4 (dk_at dksX2_hash128_36 0 rfl rfl)
theorem dX2_hash128_902 : decode cX2_hash128 902 = .ok (.iload_n 2, 1) := dk_28 (dk_at dksX2_hash128_36 2 rfl rfl)
theorem dX2_hash128_903 : decode cX2_hash128 903 = .ok (.i2l, 1) := dk_133 (dk_at dksX2_hash128_36 3 rfl rfl)
theorem dX2_hash128_904 : decode cX2_hash128 904 = .ok (.lxor, 1) := dk_131 (dk_at dksX2_hash128_36 4 rfl rfl)
theorem dX2_hash128_905 : decode cX2_hash128 905 = .ok (.lstore 4, 2) := dk_55 4 (dk_at dksX2_hash128_36 5 rfl rfl)
theorem dX2_hash128_907 : decode cX2_hash128 907 = .ok (.lload 6, 2) := dk_22 6 (dk_at dksX2_hash128_36 7 rfl rfl)
theorem dX2_hash128_909 : decode cX2_hash128 909 = .ok (.iload_n 2, 1) := dk_28 (dk_at dksX2_hash128_36 9 rfl rfl)
theorem dX2_hash128_910 : decode cX2_hash128 910 = .ok (.i2l, 1) := dk_133 (dk_at dksX2_hash128_36 10 rfl rfl)
theorem dX2_hash128_911 : decode cX2_hash128 911 = .ok (.lxor, 1) := dk_131 (dk_at dksX2_hash128_36 11 rfl rfl)
theorem dX2_hash128_912 : decode cX2_hash128 912 = .ok (.lstore 6, 2) := dk_55 6 (dk_at dksX2_hash128_36 12 rfl rfl)
theorem dX2_hash128_914 : decode cX2_hash128 914 = .ok (.lload 4, 2) := dk_22 4 (dk_at dksX2_hash128_36 14 rfl rfl)
theorem dX2_hash128_916 : decode cX2_hash128 916 = .ok (.lload 6, 2) := dk_22 6 (dk_at dksX2_hash128_36 16 rfl rfl)
theorem dX2_hash128_918 : decode cX2_hash128 918 = .ok (.ladd, 1) := dk_97 (dk_at dksX2_hash128_36 18 rfl rfl)
theorem dX2_hash128_919 : decode cX2_hash128 919 = .ok (.lstore 4, 2) := dk_55 4 (dk_at dksX2_hash128_36 19 rfl rfl)
theorem dX2_hash128_921 : decode cX2_hash128 921 = .ok (.lload 6, 2) := dk_22 6 (dk_at dksX2_hash128_36 21 rfl rfl)
theorem dX2_hash128_923 : decode cX2_hash128 923 = .ok (.lload 4, 2) := dk_22 4 (dk_at dksX2_hash128_37 0 rfl rfl)
theorem dX2_hash128_925 : decode cX2_hash128 925 = .ok (.ladd, 1) := dk_97 (dk_at dksX2_hash128_37 2 rfl rfl)
theorem dX2_hash128_926 : decode cX2_hash128 926 = .ok (.lstore 6, 2) := dk_55 6 (dk_at dksX2_hash128_37 3 rfl rfl)
theorem dX2_hash128_928 : decode cX2_hash128 928 = .ok (.lload 4, 2) := dk_22 4 (dk_at dksX2_hash128_37 5 rfl rfl)
theorem dX2_hash128_930 : decode cX2_hash128 930 = .ok (.invokestatic 37, 3) := dk_184 0 37 (dk_at dksX2_hash128_37 7 rfl rfl)
theorem dX2_hash128_933 : decode cX2_hash128 933 = .ok (.lstore 4, 2) := dk_55 4 (dk_at dksX2_hash128_37 10 rfl rfl)
theorem dX2_hash128_935 : decode cX2_hash128 935 = .ok (.lload 6, 2) := dk_22 6 (dk_at dksX2_hash128_37 12 rfl rfl)
theorem dX2_hash128_937 : decode cX2_hash128 937 = .ok (.invokestatic 37, 3) := dk_184 0 37 (dk_at dksX2_hash128_37 14 rfl rfl)
theorem dX2_hash128_940 : decode cX2_hash128 940 = .ok (.lstore 6, 2) := dk_55 6 (dk_at dksX2_hash128_37 17 rfl rfl)
theorem dX2_hash128_942 : decode cX2_hash128 942 = .ok (.lload 4, 2) := dk_22 4 (dk_at dksX2_hash128_37 19 rfl rfl)
theorem dX2_hash128_944 : decode cX2_hash128 944 = .ok (.lload 6, 2) := dk_22 6 (dk_at dksX2_hash128_37 21 rfl rfl)
theorem dX2_hash128_946 : decode cX2_hash128 946 = .ok (.ladd, 1) := dk_97 (dk_at dksX2_hash128_37 23 rfl rfl)
theorem dX2_hash128_947 : decode cX2_hash128 947 = .ok (.lstore 4, 2) := dk_55 4 (dk_at dksX2_hash128_38 0 rfl rfl)
theorem dX2_hash128_949 : decode cX2_hash128 949 = .ok (.lload 6, 2) := dk_22 6 (dk_at dksX2_hash128_38 2 rfl rfl)
theorem dX2_hash128_951 : decode cX2_hash128 951 = .ok (.lload 4, 2) := dk_22 4 (dk_at dksX2_hash128_38 4 rfl rfl)
theorem dX2_hash128_953 : decode cX2_hash128 953 = .ok (.ladd, 1) := dk_97 (dk_at dksX2_hash128_38 6 rfl rfl)
theorem dX2_hash128_954 : decode cX2_hash128 954 = .ok (.lstore 6, 2) := dk_55 6 (dk_at dksX2_hash128_38 7 rfl rfl)
theorem dX2_hash128_956 : decode cX2_hash128 956 = .ok (.iconst 2, 1) := dk_5 (dk_at dksX2_hash128_38 9 rfl rfl)
theorem dX2_hash128_957 : decode cX2_hash128 957 = .ok (.newarray .long, 2) := dk_188_11 (dk_at dksX2_hash128_38 10 rfl rfl)
theorem dX2_hash128_959 : decode cX2_hash128 959 = .ok (.dup, 1) := dk_89 (dk_at dksX2_hash128_38 12 rfl rfl)
theorem dX2_hash128_960 : decode cX2_hash128 960 = .ok (.iconst 0, 1) := dk_3 (dk_at dksX2_hash128_38 13 rfl rfl)
theorem dX2_hash128_961 : decode cX2_hash128 961 = .ok (.lload 4, 2) := dk_22 4 (dk_at dksX2_hash128_38 14 rfl rfl)
theorem dX2_hash128_963 : decode cX2_hash128 963 = .ok (.lastore, 1) := dk_80 (dk_at dksX2_hash128_38 16 rfl rfl)
theorem dX2_hash128_964 : decode cX2_hash128 964 = .ok (.dup, 1) := dk_89 (dk_at dksX2_hash128_38 17 rfl rfl)
theorem dX2_hash128_965 : decode cX2_hash128 965 = .ok (.iconst 1, 1) := dk_4 (dk_at dksX2_hash128_38 18 rfl rfl)
theorem dX2_hash128_966 : decode cX2_hash128 966 = .ok (.lload 6, 2) := dk_22 6 (dk_at dksX2_hash128_38 19 rfl rfl)
theorem dX2_hash128_968 : decode cX2_hash128 968 = .ok (.lastore, 1) := dk_80 (dk_at dksX2_hash128_38 21 rfl rfl)
theorem dX2_hash128_969 : decode cX2_hash128 969 = .ok (.areturn, 1) := dk_176 (dk_at dksX2_hash128_38 22 rfl rfl)
abbrev cX2_fmix64 : ByteArray := prog_1_method_4_code
def yX2_fmix64 : MethodName := ⟨RX2, "fmix64", "(J)J"⟩
def dkwX2_fmix64_1 : List UInt8 := [105, 63, 30, 30, 16, 33, 125, 131, 63, 30, 173]
abbrev dktX2_fmix64_1 : List UInt8 := dkwX2_fmix64_1 ++ []
def dkwX2_fmix64_0 : List UInt8 := [30, 30, 16, 33, 125, 131, 63, 30, 20, 0, 41, 105, 63, 30, 30, 16, 33, 125, 131, 63, 30, 20, 0, 43]
abbrev dktX2_fmix64_0 : List UInt8 := dkwX2_fmix64_0 ++ dktX2_fmix64_1
theorem dksX2_fmix64_0 : cX2_fmix64.data.toList.drop 0 = dktX2_fmix64_0 := by decide +kernel
theorem dksX2_fmix64_1 : cX2_fmix64.data.toList.drop 24 = dktX2_fmix64_1 := dk_seg dksX2_fmix64_0 24 rfl rfl
theorem dX2_fmix64_0 : decode cX2_fmix64 0 = .ok (.lload_n 0, 1) := dk_30 (dk_at dksX2_fmix64_0 0 rfl rfl)
theorem dX2_fmix64_1 : decode cX2_fmix64 1 = .ok (.lload_n 0, 1) := dk_30 (dk_at dksX2_fmix64_0 1 rfl rfl)
theorem dX2_fmix64_2 : decode cX2_fmix64 2 = .ok (.bipush 33, 2) := dk_16 33 (dk_at dksX2_fmix64_0 2 rfl rfl)
theorem dX2_fmix64_4 : decode cX2_fmix64 4 = .ok (.lushr, 1) := dk_125 (dk_at dksX2_fmix64_0 4 rfl rfl)
theorem dX2_fmix64_5 : decode cX2_fmix64 5 = .ok (.lxor, 1) := dk_131 (dk_at dksX2_fmix64_0 5 rfl rfl)
theorem dX2_fmix64_6 : decode cX2_fmix64 6 = .ok (.lstore_n 0, 1) := dk_63 (dk_at dksX2_fmix64_0 6 rfl rfl)
theorem dX2_fmix64_7 : decode cX2_fmix64 7 = .ok (.lload_n 0, 1) := dk_30 (dk_at dksX2_fmix64_0 7 rfl rfl)
theorem dX2_fmix64_8 : decode cX2_fmix64 8 = .ok (.ldc2_w 41, 3) := dk_20 0 41 (dk_at dksX2_fmix64_0 8 rfl rfl)
theorem dX2_fmix64_11 : decode cX2_fmix64 11 = .ok (.lmul, 1) := dk_105 (dk_at dksX2_fmix64_0 11 rfl rfl)
theorem dX2_fmix64_12 : decode cX2_fmix64 12 = .ok (.lstore_n 0, 1) := dk_63 (dk_at dksX2_fmix64_0 12 rfl rfl)
theorem dX2_fmix64_13 : decode cX2_fmix64 13 = .ok (.lload_n 0, 1) := dk_30 (dk_at dksX2_fmix64_0 13 rfl rfl)
theorem dX2_fmix64_14 : decode cX2_fmix64 14 = .ok (.lload_n 0, 1) := dk_30 (dk_at dksX2_fmix64_0 14 rfl rfl)
theorem dX2_fmix64_15 : decode cX2_fmix64 15 = .ok (.bipush 33, 2) := dk_16 33 (dk_at dksX2_fmix64_0 15 rfl rfl)
theorem dX2_fmix64_17 : decode cX2_fmix64 17 = .ok (.lushr, 1) := dk_125 (dk_at dksX2_fmix64_0 17 rfl rfl)
theorem dX2_fmix64_18 : decode cX2_fmix64 18 = .ok (.lxor, 1) := dk_131 (dk_at dksX2_fmix64_0 18 rfl rfl)
theorem dX2_fmix64_19 : decode cX2_fmix64 19 = .ok (.lstore_n 0, 1) := dk_63 (dk_at dksX2_fmix64_0 19 rfl rfl)
theorem dX2_fmix64_20 : decode cX2_fmix64 20 = .ok (.lload_n 0, 1) := dk_30 (dk_at dksX2_fmix64_0 20 rfl rfl)
theorem dX2_fmix64_21 : decode cX2_fmix64 21 = .ok (.ldc2_w 43, 3) := dk_20 0 43 (dk_at dksX2_fmix64_0 21 rfl rfl)
theorem dX2_fmix64_24 : decode cX2_fmix64 24 = .ok (.lmul, 1) := dk_105 (dk_at dksX2_fmix64_1 0 rfl rfl)
theorem dX2_fmix64_25 : decode cX2_fmix64 25 = .ok (.lstore_n 0, 1) := dk_63 (dk_at dksX2_fmix64_1 1 rfl rfl)
theorem dX2_fmix64_26 : decode cX2_fmix64 26 = .ok (.lload_n 0, 1) := dk_30 (dk_at dksX2_fmix64_1 2 rfl rfl)
theorem dX2_fmix64_27 : decode cX2_fmix64 27 = .ok (.lload_n 0, 1) := dk_30 (dk_at dksX2_fmix64_1 3 rfl rfl)
theorem dX2_fmix64_28 : decode cX2_fmix64 28 = .ok (.bipush 33, 2) := dk_16 33 (dk_at dksX2_fmix64_1 4 rfl rfl)
theorem dX2_fmix64_30 : decode cX2_fmix64 30 = .ok (.lushr, 1) := dk_125 (dk_at dksX2_fmix64_1 6 rfl rfl)
theorem dX2_fmix64_31 : decode cX2_fmix64 31 = .ok (.lxor, 1) := dk_131 (dk_at dksX2_fmix64_1 7 rfl rfl)
theorem dX2_fmix64_32 : decode cX2_fmix64 32 = .ok (.lstore_n 0, 1) := dk_63 (dk_at dksX2_fmix64_1 8 rfl rfl)
theorem dX2_fmix64_33 : decode cX2_fmix64 33 = .ok (.lload_n 0, 1) := dk_30 (dk_at dksX2_fmix64_1 9 rfl rfl)
theorem dX2_fmix64_34 : decode cX2_fmix64 34 = .ok (.lreturn, 1) := dk_173 (dk_at dksX2_fmix64_1 10 rfl rfl)
theorem q14 : (Jvm.Cond.initialized "Murmur3") ∈ lw_all := lw_g (lw_at lw_m0 3 rfl) rfl
theorem q62 : (Jvm.Cond.static ({ cls := "Murmur3", name := "hash32", desc := "([BII)I" } : Jvm.MethodName)) ∈ lw_all := lw_g (lw_at lw_m0 51 rfl) rfl
theorem q63 : (Jvm.Cond.code ({ cls := "Murmur3", name := "hash32", desc := "([BII)I" } : Jvm.MethodName) prog_1_method_2_code (8 : Nat) (Option.some Jvm.ClassFile.FieldType.int)) ∈ lw_all := lw_g (lw_at lw_m0 52 rfl) rfl
theorem q64 : (Jvm.Cond.constant "Murmur3" (9 : Nat) (-862048943 : Int32)) ∈ lw_all := lw_g (lw_at lw_m0 53 rfl) rfl
theorem q65 : (Jvm.Cond.methodLink "Murmur3" (10 : Nat) ({ cls := "java/lang/Integer", name := "rotateLeft", desc := "(II)I" } : Jvm.MethodName)) ∈ lw_all := lw_g (lw_at lw_m0 54 rfl) rfl
theorem q68 : (Jvm.Cond.constant "Murmur3" (16 : Nat) (461845907 : Int32)) ∈ lw_all := lw_g (lw_at lw_m0 57 rfl) rfl
theorem q69 : (Jvm.Cond.constant "Murmur3" (17 : Nat) (-430675100 : Int32)) ∈ lw_all := lw_g (lw_at lw_m0 58 rfl) rfl
theorem q70 : (Jvm.Cond.constant "Murmur3" (18 : Nat) (-2048144789 : Int32)) ∈ lw_all := lw_g (lw_at lw_m0 59 rfl) rfl
theorem q71 : (Jvm.Cond.constant "Murmur3" (19 : Nat) (-1028477387 : Int32)) ∈ lw_all := lw_g (lw_at lw_m0 60 rfl) rfl
theorem q77 : (Jvm.Cond.static ({ cls := "Murmur3", name := "hash128", desc := "([BIII)[J" } : Jvm.MethodName)) ∈ lw_all := lw_g (lw_at lw_m0 66 rfl) rfl
theorem q78 : (Jvm.Cond.code ({ cls := "Murmur3", name := "hash128", desc := "([BIII)[J" } : Jvm.MethodName) prog_1_method_3_code (15 : Nat) (Option.some (Jvm.ClassFile.FieldType.array Jvm.ClassFile.FieldType.long))) ∈ lw_all := lw_g (lw_at lw_m0 67 rfl) rfl
theorem q79 : (Jvm.Cond.constantLong "Murmur3" (20 : Nat) (255 : Int64)) ∈ lw_all := lw_g (lw_at lw_m0 68 rfl) rfl
theorem q80 : (Jvm.Cond.constantLong "Murmur3" (22 : Nat) (-8663945395140668459 : Int64)) ∈ lw_all := lw_g (lw_at lw_m0 69 rfl) rfl
theorem q81 : (Jvm.Cond.methodLink "Murmur3" (24 : Nat) ({ cls := "java/lang/Long", name := "rotateLeft", desc := "(JI)J" } : Jvm.MethodName)) ∈ lw_all := lw_g (lw_at lw_m0 70 rfl) rfl
theorem q84 : (Jvm.Cond.constantLong "Murmur3" (29 : Nat) (5545529020109919103 : Int64)) ∈ lw_all := lw_g (lw_at lw_m0 73 rfl) rfl
theorem q85 : (Jvm.Cond.constantLong "Murmur3" (31 : Nat) (5 : Int64)) ∈ lw_all := lw_g (lw_at lw_m0 74 rfl) rfl
theorem q86 : (Jvm.Cond.constantLong "Murmur3" (33 : Nat) (1390208809 : Int64)) ∈ lw_all := lw_g (lw_at lw_m0 75 rfl) rfl
theorem q87 : (Jvm.Cond.constantLong "Murmur3" (35 : Nat) (944331445 : Int64)) ∈ lw_all := lw_g (lw_at lw_m0 76 rfl) rfl
theorem q88 : (Jvm.Cond.methodLink "Murmur3" (37 : Nat) ({ cls := "Murmur3", name := "fmix64", desc := "(J)J" } : Jvm.MethodName)) ∈ lw_all := lw_g (lw_at lw_m0 77 rfl) rfl
theorem q89 : (Jvm.Cond.static ({ cls := "Murmur3", name := "fmix64", desc := "(J)J" } : Jvm.MethodName)) ∈ lw_all := lw_g (lw_at lw_m0 78 rfl) rfl
theorem q90 : (Jvm.Cond.code ({ cls := "Murmur3", name := "fmix64", desc := "(J)J" } : Jvm.MethodName) prog_1_method_4_code (2 : Nat) (Option.some Jvm.ClassFile.FieldType.long)) ∈ lw_all := lw_g (lw_at lw_m0 79 rfl) rfl
theorem q91 : (Jvm.Cond.constantLong "Murmur3" (41 : Nat) (-49064778989728563 : Int64)) ∈ lw_all := lw_g (lw_at lw_m0 80 rfl) rfl
theorem q92 : (Jvm.Cond.constantLong "Murmur3" (43 : Nat) (-4265267296055464877 : Int64)) ∈ lw_all := lw_g (lw_at lw_m0 81 rfl) rfl
end
section
/-! PURE: Murmur's numbers, over a text f : Nat → Int32 of which the low eight bits of each place count -/
set_option maxRecDepth 100000
-- rows of kit/laws/BITS.to-paste (a starting text): Int32 by its bits, bp_b
def bt (x : Int32) (i : Nat) : Bool := x.toBitVec.getLsbD i
theorem b_ext {x y : Int32} (h : ∀ i, i < 32 → bt x i = bt y i) : x = y := Int32.toBitVec_inj.mp (BitVec.eq_of_getLsbD_eq (fun i hi => h i hi))
theorem b_or (x y : Int32) (i : Nat) : bt (x ||| y) i = (bt x i || bt y i) := by unfold bt; rw [Int32.toBitVec_or, BitVec.getLsbD_or]
theorem b_and (x y : Int32) (i : Nat) : bt (x &&& y) i = (bt x i && bt y i) := by unfold bt; rw [Int32.toBitVec_and, BitVec.getLsbD_and]
theorem b_big {x : Int32} {i : Nat} (h : 32 ≤ i) : bt x i = false := BitVec.getLsbD_of_ge _ _ h
theorem b_255 (i : Nat) : bt 255 i = decide (i < 8) := by
  rcases Nat.lt_or_ge i 32 with h | h
  · exact (by decide +kernel : ∀ i, i < 32 → bt 255 i = decide (i < 8)) i h
  · rw [b_big h, decide_eq_false (by omega)]
theorem s_l : ∀ n, n < 32 → ((nI n &&& 31).toBitVec.smod 32).toNat = n := by decide +kernel
theorem b_shl (n : Nat) (hn : n < 32) (x : Int32) {i : Nat} (hi : i < 32) : bt (x <<< (nI n &&& 31)) i = (decide (n ≤ i) && bt x (i - n)) := by
  unfold bt
  rw [Int32.toBitVec_shiftLeft]
  show (x.toBitVec <<< ((nI n &&& 31).toBitVec.smod 32).toNat).getLsbD i = _
  rw [s_l n hn, BitVec.getLsbD_shiftLeft]
  rcases Nat.lt_or_ge i n with h | h
  · simp [h, Nat.not_le.mpr h]
  · simp [hi, h, Nat.not_lt.mpr h]
theorem bp_b (x : Int32) : x.toInt8.toInt32 &&& 255 = x &&& 255 := by
  apply Int32.toBitVec_inj.mp
  rw [Int32.toBitVec_and, Int32.toBitVec_and, Int8.toBitVec_toInt32, Int32.toBitVec_toInt8]
  apply BitVec.eq_of_getLsbD_eq
  intro i hi
  rw [BitVec.getLsbD_and, BitVec.getLsbD_and]
  have hm : ∀ i < 32, 8 ≤ i → (255 : Int32).toBitVec.getLsbD i = false := by decide
  rcases Nat.lt_or_ge i 8 with z | z
  · rw [BitVec.getLsbD_signExtend, BitVec.getLsbD_signExtend, if_pos z, if_pos hi]
    simp [hi, z]
  · rw [hm i hi z, Bool.and_false, Bool.and_false]
-- our own from here on
/-! shifts as the machine has them, and the two turns: Integer's and Long's own, and the reference's -/
def mv_iu (x k : Int32) : Int32 := (x.toUInt32 >>> (k.toUInt32 &&& Int32.toUInt32 31)).toInt32
def mv_lu (x : Int64) (k : Int32) : Int64 := (x.toUInt64 >>> (k.toInt64.toUInt64 &&& Int64.toUInt64 63)).toInt64
def mv_ls (x : Int64) (k : Int32) : Int64 := x <<< (k.toInt64 &&& 63)
def mv_jI (x d : Int32) : Int32 := (x <<< (d &&& 31)) ||| mv_iu x (-d)
def mv_tI (x d : Int32) : Int32 := (x <<< (d &&& 31)) ||| mv_iu x (32 - d)
def mv_jL (x : Int64) (d : Int32) : Int64 := mv_ls x d ||| mv_lu x (-d)
def mv_tL (x : Int64) (d : Int32) : Int64 := mv_ls x d ||| mv_lu x (64 - d)
theorem mv_jI15 (x : Int32) : mv_jI x 15 = mv_tI x 15 := by
  unfold mv_jI mv_tI mv_iu
  rw [show ((-15 : Int32).toUInt32 &&& Int32.toUInt32 31) = ((32 - 15 : Int32).toUInt32 &&& Int32.toUInt32 31) from by decide +kernel]
theorem mv_jI13 (x : Int32) : mv_jI x 13 = mv_tI x 13 := by
  unfold mv_jI mv_tI mv_iu
  rw [show ((-13 : Int32).toUInt32 &&& Int32.toUInt32 31) = ((32 - 13 : Int32).toUInt32 &&& Int32.toUInt32 31) from by decide +kernel]
theorem mv_jL31 (x : Int64) : mv_jL x 31 = mv_tL x 31 := by
  unfold mv_jL mv_tL mv_lu
  rw [show ((-31 : Int32).toInt64.toUInt64 &&& Int64.toUInt64 63) = ((64 - 31 : Int32).toInt64.toUInt64 &&& Int64.toUInt64 63) from by decide +kernel]
theorem mv_jL27 (x : Int64) : mv_jL x 27 = mv_tL x 27 := by
  unfold mv_jL mv_tL mv_lu
  rw [show ((-27 : Int32).toInt64.toUInt64 &&& Int64.toUInt64 63) = ((64 - 27 : Int32).toInt64.toUInt64 &&& Int64.toUInt64 63) from by decide +kernel]
theorem mv_jL33 (x : Int64) : mv_jL x 33 = mv_tL x 33 := by
  unfold mv_jL mv_tL mv_lu
  rw [show ((-33 : Int32).toInt64.toUInt64 &&& Int64.toUInt64 63) = ((64 - 33 : Int32).toInt64.toUInt64 &&& Int64.toUInt64 63) from by decide +kernel]
/-! Int64 by its bits -/
def bl (x : Int64) (i : Nat) : Bool := x.toBitVec.getLsbD i
theorem bl_ext {x y : Int64} (h : ∀ i, i < 64 → bl x i = bl y i) : x = y := Int64.toBitVec_inj.mp (BitVec.eq_of_getLsbD_eq (fun i hi => h i hi))
theorem bl_or (x y : Int64) (i : Nat) : bl (x ||| y) i = (bl x i || bl y i) := by unfold bl; rw [Int64.toBitVec_or, BitVec.getLsbD_or]
theorem bl_and (x y : Int64) (i : Nat) : bl (x &&& y) i = (bl x i && bl y i) := by unfold bl; rw [Int64.toBitVec_and, BitVec.getLsbD_and]
theorem bl_xor (x y : Int64) (i : Nat) : bl (x ^^^ y) i = (bl x i ^^ bl y i) := by unfold bl; rw [Int64.toBitVec_xor, BitVec.getLsbD_xor]
theorem bl_big {x : Int64} {i : Nat} (h : 64 ≤ i) : bl x i = false := BitVec.getLsbD_of_ge _ _ h
theorem bl_0 (i : Nat) : bl 0 i = false := BitVec.getLsbD_zero
theorem bl_255 (i : Nat) : bl 255 i = decide (i < 8) := by
  rcases Nat.lt_or_ge i 64 with h | h
  · exact (by decide +kernel : ∀ i, i < 64 → bl 255 i = decide (i < 8)) i h
  · rw [bl_big h, decide_eq_false (by omega)]
theorem sl_l : ∀ n, n < 64 → (((nI n).toInt64 &&& 63).toBitVec.smod 64).toNat = n := by decide +kernel
theorem bl_ls (n : Nat) (hn : n < 64) (x : Int64) {i : Nat} (hi : i < 64) : bl (mv_ls x (nI n)) i = (decide (n ≤ i) && bl x (i - n)) := by
  unfold bl mv_ls
  rw [Int64.toBitVec_shiftLeft]
  show (x.toBitVec <<< (((nI n).toInt64 &&& 63).toBitVec.smod 64).toNat).getLsbD i = _
  rw [sl_l n hn, BitVec.getLsbD_shiftLeft]
  rcases Nat.lt_or_ge i n with h | h
  · simp [h, Nat.not_le.mpr h]
  · simp [hi, h, Nat.not_lt.mpr h]
theorem bl_i2l (x : Int32) {i : Nat} (hi : i < 64) : bl x.toInt64 i = if i < 32 then bt x i else bt x 31 := by
  unfold bl bt
  rw [Int32.toBitVec_toInt64, BitVec.getLsbD_signExtend, BitVec.msb_eq_getLsbD_last]
  simp [hi]
theorem bt_l2i (x : Int64) {i : Nat} (hi : i < 32) : bt x.toInt32 i = bl x i := by
  unfold bl bt
  rw [Int64.toBitVec_toInt32, BitVec.getLsbD_signExtend, if_pos (by omega)]
  simp [hi]
/-- one byte of the text, as the machine's long -/
def mv_by (f : Nat → Int32) (j : Nat) : Int64 := (f j &&& 255).toInt64
theorem bl_by (f : Nat → Int32) (j : Nat) (i : Nat) : bl (mv_by f j) i = (decide (i < 8) && bt (f j) i) := by
  rcases Nat.lt_or_ge i 64 with h | h
  · unfold mv_by
    rw [bl_i2l _ h]
    by_cases h8 : i < 8
    · rw [if_pos (by omega), b_and, b_255]
      simp [h8]
    · split
      · rw [b_and, b_255]
        simp [h8]
      · rw [b_and, b_255]
        simp [h8]
  · rw [bl_big h]
    simp [show ¬ i < 8 by omega]
theorem mv_by2 (f : Nat → Int32) (j : Nat) : (f j).toInt64 &&& 255 = mv_by f j := by
  apply bl_ext
  intro i hi
  rw [bl_by, bl_and, bl_255]
  by_cases h8 : i < 8
  · rw [bl_i2l _ hi, if_pos (by omega)]
    simp [h8]
  · simp [h8]
/-- k bytes of the text from p on, the first one the lowest -/
def mv_num (f : Nat → Int32) : Nat → Nat → Int64
  | _, 0 => 0
  | p, k + 1 => mv_ls (mv_num f (p + 1) k) 8 ||| mv_by f p
theorem bl_num (f : Nat → Int32) : ∀ (k p i : Nat), k ≤ 8 → i < 64 → bl (mv_num f p k) i = (decide (i < 8 * k) && bt (f (p + i / 8)) (i % 8))
  | 0, p, i, _, _ => by
    show bl 0 i = _
    rw [bl_0]
    simp
  | k + 1, p, i, hk, hi => by
    show bl (mv_ls (mv_num f (p + 1) k) (nI 8) ||| mv_by f p) i = _
    rw [bl_or, bl_ls 8 (by omega) _ hi, bl_by]
    by_cases h8 : i < 8
    · have e1 : i / 8 = 0 := by omega
      have e2 : i % 8 = i := by omega
      rw [e1, e2, decide_eq_false (show ¬ 8 ≤ i by omega), decide_eq_true h8, decide_eq_true (show i < 8 * (k + 1) by omega)]
      simp
    · have e1 : p + 1 + (i - 8) / 8 = p + i / 8 := by omega
      have e2 : (i - 8) % 8 = i % 8 := by omega
      rw [bl_num f k (p + 1) (i - 8) (by omega) (by omega), e1, e2, decide_eq_true (show 8 ≤ i by omega), decide_eq_false h8]
      have e3 : decide (i - 8 < 8 * k) = decide (i < 8 * (k + 1)) := decide_eq_decide.mpr (by omega)
      rw [e3]
      simp
theorem mv_num_congr {f g : Nat → Int32} : ∀ (k p q : Nat), (∀ j, j < k → f (p + j) &&& 255 = g (q + j) &&& 255) → mv_num f p k = mv_num g q k
  | 0, _, _, _ => rfl
  | k + 1, p, q, h => by
    show mv_ls (mv_num f (p + 1) k) 8 ||| mv_by f p = mv_ls (mv_num g (q + 1) k) 8 ||| mv_by g q
    rw [mv_num_congr k (p + 1) (q + 1) (fun j hj => by
      have := h (j + 1) (by omega)
      rw [show p + 1 + j = p + (j + 1) by omega, show q + 1 + j = q + (j + 1) by omega]
      exact this)]
    have h0 := h 0 (by omega)
    simp only [Nat.add_zero] at h0
    unfold mv_by
    rw [h0]
/-- the byte at place j of a block, where it goes -/
def mv_tm (f : Nat → Int32) (p j : Nat) : Int64 := mv_ls (mv_by f (p + j)) (nI (8 * j))
theorem bl_tm (f : Nat → Int32) (p j : Nat) (hj : j < 8) {i : Nat} (hi : i < 64) : bl (mv_tm f p j) i = (decide (i / 8 = j) && bt (f (p + i / 8)) (i % 8)) := by
  unfold mv_tm
  rw [bl_ls (8 * j) (by omega) _ hi, bl_by]
  by_cases h : i / 8 = j
  · subst h
    have e : i - 8 * (i / 8) = i % 8 := by omega
    rw [e, decide_eq_true (show 8 * (i / 8) ≤ i by omega), decide_eq_true (show i % 8 < 8 by omega), decide_eq_true (show i / 8 = i / 8 from rfl)]
    simp
  · rw [decide_eq_false h]
    by_cases h2 : 8 * j ≤ i
    · rw [decide_eq_false (show ¬ i - 8 * j < 8 by omega)]
      simp
    · rw [decide_eq_false h2]
      simp
theorem mv_ls0 (x : Int64) : mv_ls x (nI 0) = x := by
  apply bl_ext
  intro i hi
  rw [bl_ls 0 (by omega) _ hi]
  simp
theorem mv_tm0 (f : Nat → Int32) (p : Nat) : mv_tm f p 0 = mv_by f p := mv_ls0 _
/-- eight bytes of a block, one beside the other -/
def mv_w8 (f : Nat → Int32) (p : Nat) : Int64 := mv_by f p ||| mv_tm f p 1 ||| mv_tm f p 2 ||| mv_tm f p 3 ||| mv_tm f p 4 ||| mv_tm f p 5 ||| mv_tm f p 6 ||| mv_tm f p 7
theorem mv_w8_num (f : Nat → Int32) (p : Nat) : mv_w8 f p = mv_num f p 8 := by
  apply bl_ext
  intro i hi
  unfold mv_w8
  rw [← mv_tm0, bl_or, bl_or, bl_or, bl_or, bl_or, bl_or, bl_or, bl_tm f p 0 (by omega) hi, bl_tm f p 1 (by omega) hi, bl_tm f p 2 (by omega) hi, bl_tm f p 3 (by omega) hi, bl_tm f p 4 (by omega) hi, bl_tm f p 5 (by omega) hi, bl_tm f p 6 (by omega) hi, bl_tm f p 7 (by omega) hi, bl_num f 8 p i (by omega) hi, decide_eq_true (show i < 8 * 8 by omega)]
  rcases (show i / 8 = 0 ∨ i / 8 = 1 ∨ i / 8 = 2 ∨ i / 8 = 3 ∨ i / 8 = 4 ∨ i / 8 = 5 ∨ i / 8 = 6 ∨ i / 8 = 7 by omega) with h | h | h | h | h | h | h | h <;> simp [h]
/-- the bytes j - 1 .. 0 of a block laid over what is there, by xor, from the top down -/
def mv_xk (f : Nat → Int32) (p : Nat) : Nat → Int64 → Int64
  | 0, a => a
  | j + 1, a => mv_xk f p j (a ^^^ mv_tm f p j)
theorem bl_xk (f : Nat → Int32) (p : Nat) : ∀ (j : Nat) (a : Int64) (i : Nat), j ≤ 8 → i < 64 → bl (mv_xk f p j a) i = (bl a i ^^ (decide (i < 8 * j) && bt (f (p + i / 8)) (i % 8)))
  | 0, a, i, _, _ => by
    show bl a i = _
    simp
  | j + 1, a, i, hj, hi => by
    show bl (mv_xk f p j (a ^^^ mv_tm f p j)) i = _
    rw [bl_xk f p j _ i (by omega) hi, bl_xor, bl_tm f p j (by omega) hi]
    by_cases h : i / 8 = j
    · rw [decide_eq_true h, decide_eq_false (show ¬ i < 8 * j by omega), decide_eq_true (show i < 8 * (j + 1) by omega)]
      simp
    · rw [decide_eq_false h, show decide (i < 8 * (j + 1)) = decide (i < 8 * j) from decide_eq_decide.mpr (by omega)]
      simp
theorem mv_xk_num (f : Nat → Int32) (p j : Nat) (hj : j ≤ 8) : mv_xk f p j 0 = mv_num f p j := by
  apply bl_ext
  intro i hi
  rw [bl_xk f p j 0 i hj hi, bl_num f j p i hj hi, bl_0]
  simp
/-- a block of four, as an int -/
def mv_w4 (f : Nat → Int32) (p : Nat) : Int32 := (f p &&& 255) ||| ((f (p + 1) &&& 255) <<< ((8 : Int32) &&& 31)) ||| ((f (p + 2) &&& 255) <<< ((16 : Int32) &&& 31)) ||| ((f (p + 3) &&& 255) <<< ((24 : Int32) &&& 31))
theorem bt_t4 (f : Nat → Int32) (p j : Nat) (hj : j < 4) {i : Nat} (hi : i < 32) : bt ((f (p + j) &&& 255) <<< (nI (8 * j) &&& 31)) i = (decide (i / 8 = j) && bt (f (p + i / 8)) (i % 8)) := by
  rw [b_shl (8 * j) (by omega) _ hi, b_and, b_255]
  by_cases h : i / 8 = j
  · subst h
    have e : i - 8 * (i / 8) = i % 8 := by omega
    rw [e, decide_eq_true (show 8 * (i / 8) ≤ i by omega), decide_eq_true (show i % 8 < 8 by omega), decide_eq_true (show i / 8 = i / 8 from rfl)]
    simp
  · rw [decide_eq_false h]
    by_cases h2 : 8 * j ≤ i
    · rw [decide_eq_false (show ¬ i - 8 * j < 8 by omega)]
      simp
    · rw [decide_eq_false h2]
      simp
theorem mv_w4_num (f : Nat → Int32) (p : Nat) : mv_w4 f p = (mv_num f p 4).toInt32 := by
  apply b_ext
  intro i hi
  have h0 : bt (f p &&& 255) i = (decide (i / 8 = 0) && bt (f (p + i / 8)) (i % 8)) := by
    rw [b_and, b_255]
    by_cases h : i / 8 = 0
    · rw [h, show i % 8 = i by omega]
      simp [show i < 8 by omega]
    · rw [decide_eq_false h, decide_eq_false (show ¬ i < 8 by omega)]
      simp
  have h1 := bt_t4 f p 1 (by omega) hi
  have h2 := bt_t4 f p 2 (by omega) hi
  have h3 := bt_t4 f p 3 (by omega) hi
  have e1 : bt ((f (p + 1) &&& 255) <<< ((8 : Int32) &&& 31)) i = (decide (i / 8 = 1) && bt (f (p + i / 8)) (i % 8)) := h1
  have e2 : bt ((f (p + 2) &&& 255) <<< ((16 : Int32) &&& 31)) i = (decide (i / 8 = 2) && bt (f (p + i / 8)) (i % 8)) := h2
  have e3 : bt ((f (p + 3) &&& 255) <<< ((24 : Int32) &&& 31)) i = (decide (i / 8 = 3) && bt (f (p + i / 8)) (i % 8)) := h3
  unfold mv_w4
  rw [b_or, b_or, b_or, h0, e1, e2, e3, bt_l2i _ hi, bl_num f 4 p i (by omega) (by omega), decide_eq_true (show i < 8 * 4 by omega)]
  rcases (show i / 8 = 0 ∨ i / 8 = 1 ∨ i / 8 = 2 ∨ i / 8 = 3 by omega) with h | h | h | h <;> simp [h]
/-! the hash of 32 bits -/
def mv_mix (h k : Int32) : Int32 := mv_tI (h ^^^ (mv_tI (k * (-862048943)) 15 * 461845907)) 13 * 5 + (-430675100)
def mv_b32 (f : Nat → Int32) (p : Nat) (seed : Int32) : Nat → Int32
  | 0 => seed
  | k + 1 => mv_mix (mv_b32 f p seed k) (mv_num f (p + 4 * k) 4).toInt32
def mv_x1 (h k : Int32) : Int32 := h ^^^ mv_iu h k
def mv_f32 (h : Int32) : Int32 := mv_x1 (mv_x1 (mv_x1 h 16 * (-2048144789)) 13 * (-1028477387)) 16
def mv_h32 (f : Nat → Int32) (p k : Nat) (seed : Int32) : Int32 := mv_f32 (mv_b32 f p seed k ^^^ nI (4 * k))
theorem mv_b32_congr {f g : Nat → Int32} {p q : Nat} (seed : Int32) : ∀ k, (∀ j, j < 4 * k → f (p + j) &&& 255 = g (q + j) &&& 255) → mv_b32 f p seed k = mv_b32 g q seed k
  | 0, _ => rfl
  | k + 1, h => by
    show mv_mix (mv_b32 f p seed k) _ = mv_mix (mv_b32 g q seed k) _
    rw [mv_b32_congr seed k (fun j hj => h j (by omega)), mv_num_congr 4 (p + 4 * k) (q + 4 * k) (fun j hj => by
      have := h (4 * k + j) (by omega)
      rw [Nat.add_assoc, Nat.add_assoc]
      exact this)]
theorem mv_h32_congr {f g : Nat → Int32} {p q k : Nat} (seed : Int32) (h : ∀ j, j < 4 * k → f (p + j) &&& 255 = g (q + j) &&& 255) : mv_h32 f p k seed = mv_h32 g q k seed := by
  unfold mv_h32
  rw [mv_b32_congr seed k h]
/-! the hash of 128 bits -/
def mv_s1 (b : Int64) : Int64 := mv_tL (b * (-8663945395140668459)) 31 * 5545529020109919103
def mv_s2 (b : Int64) : Int64 := mv_tL (b * 5545529020109919103) 33 * (-8663945395140668459)
def mv_r1 (h g k : Int64) : Int64 := (mv_tL (h ^^^ mv_s1 k) 27 + g) * 5 + 1390208809
def mv_r2 (h g k : Int64) : Int64 := (mv_tL (h ^^^ mv_s2 k) 31 + g) * 5 + 944331445
def mv_st (f : Nat → Int32) (p : Nat) (h : Int64 × Int64) : Int64 × Int64 :=
  (mv_r1 h.1 h.2 (mv_num f p 8), mv_r2 h.2 (mv_r1 h.1 h.2 (mv_num f p 8)) (mv_num f (p + 8) 8))
def mv_b128 (f : Nat → Int32) (p : Nat) (s : Int64) : Nat → Int64 × Int64
  | 0 => (s, s)
  | k + 1 => mv_st f (p + 16 * k) (mv_b128 f p s k)
def mv_t1 (f : Nat → Int32) (p r : Nat) (h : Int64) : Int64 := if 0 < r then h ^^^ mv_s1 (mv_num f p (if 8 < r then 8 else r)) else h
def mv_t2 (f : Nat → Int32) (p r : Nat) (h : Int64) : Int64 := if 8 < r then h ^^^ mv_s2 (mv_num f (p + 8) (r - 8)) else h
def mv_xl (h : Int64) : Int64 := h ^^^ mv_lu h 33
def mv_end (h : Int64) : Int64 := mv_xl (mv_xl (mv_xl h * (-49064778989728563)) * (-4265267296055464877))
def mv_fin (a b n : Int64) : Int64 × Int64 :=
  (mv_end ((a ^^^ n) + (b ^^^ n)) + mv_end ((b ^^^ n) + ((a ^^^ n) + (b ^^^ n))), mv_end ((b ^^^ n) + ((a ^^^ n) + (b ^^^ n))) + (mv_end ((a ^^^ n) + (b ^^^ n)) + mv_end ((b ^^^ n) + ((a ^^^ n) + (b ^^^ n)))))
def mv_h128 (f : Nat → Int32) (p N : Nat) (s : Int64) : Int64 × Int64 :=
  mv_fin (mv_t1 f (p + 16 * (N / 16)) (N % 16) (mv_b128 f p s (N / 16)).1) (mv_t2 f (p + 16 * (N / 16)) (N % 16) (mv_b128 f p s (N / 16)).2) (nI N).toInt64
theorem mv_st_congr {f g : Nat → Int32} {p q : Nat} (x : Int64 × Int64) (h : ∀ j, j < 16 → f (p + j) &&& 255 = g (q + j) &&& 255) : mv_st f p x = mv_st g q x := by
  unfold mv_st
  rw [mv_num_congr 8 p q (fun j hj => h j (by omega)), mv_num_congr 8 (p + 8) (q + 8) (fun j hj => by
    have := h (8 + j) (by omega)
    rw [Nat.add_assoc, Nat.add_assoc]
    exact this)]
theorem mv_b128_congr {f g : Nat → Int32} {p q : Nat} (s : Int64) : ∀ k, (∀ j, j < 16 * k → f (p + j) &&& 255 = g (q + j) &&& 255) → mv_b128 f p s k = mv_b128 g q s k
  | 0, _ => rfl
  | k + 1, h => by
    show mv_st f (p + 16 * k) (mv_b128 f p s k) = mv_st g (q + 16 * k) (mv_b128 g q s k)
    rw [mv_b128_congr s k (fun j hj => h j (by omega)), mv_st_congr (f := f) (g := g) (p := p + 16 * k) (q := q + 16 * k) _ (fun j hj => by
      have := h (16 * k + j) (by omega)
      rw [Nat.add_assoc, Nat.add_assoc]
      exact this)]
theorem mv_h128_congr {f g : Nat → Int32} {p q N : Nat} (s : Int64) (h : ∀ j, j < N → f (p + j) &&& 255 = g (q + j) &&& 255) : mv_h128 f p N s = mv_h128 g q N s := by
  have hN : 16 * (N / 16) + N % 16 = N := by omega
  have e1 : mv_t1 f (p + 16 * (N / 16)) (N % 16) (mv_b128 f p s (N / 16)).1 = mv_t1 g (q + 16 * (N / 16)) (N % 16) (mv_b128 g q s (N / 16)).1 := by
    rw [mv_b128_congr s (N / 16) (fun j hj => h j (by omega))]
    unfold mv_t1
    split
    · rw [mv_num_congr (if 8 < N % 16 then 8 else N % 16) (p + 16 * (N / 16)) (q + 16 * (N / 16)) (fun j hj => by
        have hj2 : j < N % 16 := by
          split at hj <;> omega
        have := h (16 * (N / 16) + j) (by omega)
        rw [Nat.add_assoc, Nat.add_assoc]
        exact this)]
    · rfl
  have e2 : mv_t2 f (p + 16 * (N / 16)) (N % 16) (mv_b128 f p s (N / 16)).2 = mv_t2 g (q + 16 * (N / 16)) (N % 16) (mv_b128 g q s (N / 16)).2 := by
    rw [mv_b128_congr s (N / 16) (fun j hj => h j (by omega))]
    unfold mv_t2
    split
    · rw [mv_num_congr (N % 16 - 8) (p + 16 * (N / 16) + 8) (q + 16 * (N / 16) + 8) (fun j hj => by
        have := h (16 * (N / 16) + 8 + j) (by omega)
        rw [show p + 16 * (N / 16) + 8 + j = p + (16 * (N / 16) + 8 + j) by omega, show q + 16 * (N / 16) + 8 + j = q + (16 * (N / 16) + 8 + j) by omega]
        exact this)]
    · rfl
  unfold mv_h128
  rw [e1, e2]
/-! what the desk makes of its numbers -/
/-- an int without its sign -/
def mv_mk (x : Int32) : Nat := x.toBitVec.toNat % 2 ^ 31
theorem mv_mk_lt (x : Int32) : mv_mk x < 2 ^ 31 := Nat.mod_lt _ (Nat.two_pow_pos 31)
theorem mv_mk_and (x : Int32) : x &&& 2147483647 = nI (mv_mk x) := pk_and x 31 (by decide +kernel)
/-- where a part begins, how long it is -/
def mv_at (n : Nat) (x : Int32) : Nat := mv_mk x % (n + 1)
def mv_ct (n p : Nat) (x : Int32) : Nat := mv_mk x % (n - p + 1)
theorem mv_at_le (n : Nat) (x : Int32) : mv_at n x ≤ n := by
  have := Nat.mod_lt (mv_mk x) (show 0 < n + 1 by omega)
  unfold mv_at
  omega
theorem mv_ct_le (n p : Nat) (x : Int32) : mv_ct n p x ≤ n - p := by
  have := Nat.mod_lt (mv_mk x) (show 0 < n - p + 1 by omega)
  unfold mv_ct
  omega
/-- how many words of four bytes -/
def mv_wd (c : Nat) (x : Int32) : Nat := if c / 4 = 0 then 0 else mv_mk x % (c / 4 + 1)
theorem mv_wd_le (c : Nat) (x : Int32) : 4 * mv_wd c x ≤ c := by
  unfold mv_wd
  split
  · omega
  · have := Nat.mod_lt (mv_mk x) (show 0 < c / 4 + 1 by omega)
    omega
def mv_small (f : Nat → Int32) (n : Nat) (a w s : Int32) : Int32 := mv_h32 f (mv_at n a) (mv_wd (mv_ct n (mv_at n a) (nI n)) w) s
def mv_wide2 (f : Nat → Int32) (n : Nat) (a c s : Int32) : Int64 × Int64 := mv_h128 f (mv_at n a) (mv_ct n (mv_at n a) c) (s &&& 2147483647).toInt64
def mv_wide (f : Nat → Int32) (n : Nat) (a c s h : Int32) : Int64 := if h &&& 1 = 0 then (mv_wide2 f n a c s).1 else (mv_wide2 f n a c s).2
/-- four bytes of a word, from k on -/
def mv_bt (w : Int32) (j : Int32) : Int32 := vp_nar .byte ((w >>> (j &&& 31)).toInt8.toInt32)
def mv_p4 (f : Nat → Int32) (k : Nat) (w : Int32) : Nat → Int32 := upd (upd (upd (upd f k (mv_bt w 24)) (k + 1) (mv_bt w 16)) (k + 2) (mv_bt w 8)) (k + 3) (mv_bt w 0)
def mv_p16 (f : Nat → Int32) (k : Nat) (a b c d : Int32) : Nat → Int32 := mv_p4 (mv_p4 (mv_p4 (mv_p4 f k a) (k + 4) b) (k + 8) c) (k + 12) d
theorem mv_even (h : Int32) : h - h / 2 * 2 = 0 ↔ h &&& 1 = 0 := by
  have h0 : (0 : Int32).toInt = 0 := by decide +kernel
  have h2 : (2 : Int32).toInt = 2 := by decide +kernel
  have hlo := Int32.le_toInt h
  have hhi := Int32.toInt_lt h
  have e1 : (h / 2).toInt = h.toInt.tdiv 2 := by
    rw [Int32.toInt_div_of_ne_right h 2 (by decide +kernel), h2]
  have hb : (h &&& 1) = nI (h.toBitVec.toNat % 2) := pk_and h 1 (by decide +kernel)
  have hcast : h.toInt = if 2 * h.toBitVec.toNat < 2 ^ 32 then (h.toBitVec.toNat : Int) else (h.toBitVec.toNat : Int) - 2 ^ 32 := by
    show h.toBitVec.toInt = _
    rw [BitVec.toInt_eq_toNat_cond]
    rfl
  have hm : h.toBitVec.toNat % 2 = 0 ↔ h.toInt % 2 = 0 := by
    rw [hcast]
    split <;> omega
  have ht : (h.toInt.tdiv 2) * 2 = h.toInt - h.toInt.tmod 2 := by
    have := Int.mul_tdiv_add_tmod h.toInt 2
    omega
  have ht2 : h.toInt.tmod 2 = 0 ↔ h.toInt % 2 = 0 := by
    rw [← Int.dvd_iff_tmod_eq_zero, ← Int.dvd_iff_emod_eq_zero]
  have hb1 := Int.tmod_lt_of_pos h.toInt (show (0 : Int) < 2 by omega)
  have hb2 := Int.lt_tmod_of_pos h.toInt (show (0 : Int) < 2 by omega)
  have hb3 : 0 ≤ h.toInt → 0 ≤ h.toInt.tmod 2 := fun z => Int.tmod_nonneg 2 z
  have hb4 : h.toInt ≤ 0 → h.toInt.tmod 2 ≤ 0 := fun z => by
    have e5 := Int.tmod_nonneg (a := -h.toInt) 2 (by omega)
    rw [Int.neg_tmod] at e5
    omega
  have e2 : (h / 2 * 2).toInt = h.toInt - h.toInt.tmod 2 := by
    rw [Int32.toInt_mul, e1, h2, ht]
    exact Int.bmod_eq_of_le (by omega) (by omega)
  have e3 : (h - h / 2 * 2).toInt = h.toInt.tmod 2 := by
    rw [Int32.toInt_sub, e2]
    rw [show h.toInt - (h.toInt - h.toInt.tmod 2) = h.toInt.tmod 2 by omega]
    exact Int.bmod_eq_of_le (by omega) (by omega)
  rw [← Int32.toInt_inj, e3, h0, ht2, ← hm, hb, ← Int32.toInt_inj, nI_toInt (by omega), h0]
  omega
end
section
/-! ROWS OF OUR OWN over the kit's: array cells by their places, numbers said otherwise, cuts and loops -/
set_option maxRecDepth 100000
abbrev vwCl : List vw_C := [(RX0, TX0, 2), (RX1, TX1, 2)]
theorem mv_add {a b c : Nat} (h : a + b = c) : nI a + nI b = nI c := by rw [nI_add, h]
theorem mv_sub {a b c : Nat} (h : b + c = a) : nI a - nI b = nI c := by rw [pk_sub (by omega), show a - b = c by omega]
theorem mv_mul {a b c : Nat} (h : a * b = c) : nI a * nI b = nI c := by rw [pk_mul, h]
theorem mv_div {a d c : Nat} (ha : a < 2 ^ 31) (h0 : 0 < d) (hd : d < 2 ^ 31) (h : a / d = c) : nI a / nI d = nI c := by rw [pk_div ha h0 hd, h]
theorem mv_rem {a d c : Nat} (ha : a < 2 ^ 31) (h0 : 0 < d) (hd : d < 2 ^ 31) (h : a % d = c) : nI a - nI a / nI d * nI d = nI c := by rw [pk_rem ha h0 hd, h]
theorem mv_shl2 {a c : Nat} (ha : a < 2 ^ 28) (h : 4 * a = c) : nI a <<< ((2 : Int32) &&& 31) = nI c := by
  rw [pk_shlN _ 2 (by decide +kernel) (by omega), ← h, Nat.mul_comm]
theorem mv_shl4 {a c : Nat} (ha : a < 2 ^ 26) (h : 16 * a = c) : nI a <<< ((4 : Int32) &&& 31) = nI c := by
  rw [pk_shlN _ 4 (by decide +kernel) (by omega), ← h, Nat.mul_comm]
theorem mv_shr2 {a c : Nat} (ha : a < 2 ^ 31) (h : a / 4 = c) : nI a >>> ((2 : Int32) &&& 31) = nI c := by
  rw [pk_shrN ha _ 2 (by decide +kernel), ← h]
theorem mv_shr4 {a c : Nat} (ha : a < 2 ^ 31) (h : a / 16 = c) : nI a >>> ((4 : Int32) &&& 31) = nI c := by
  rw [pk_shrN ha _ 4 (by decide +kernel), ← h]
theorem mv_inc (a : Nat) : nI a + Int32.ofInt 1 = nI (a + 1) := by
  rw [show (Int32.ofInt 1) = nI 1 from by decide +kernel, nI_add]
theorem mv_inc6 (a : Nat) : nI a + Int32.ofInt 6 = nI (a + 6) := by
  rw [show (Int32.ofInt 6) = nI 6 from by decide +kernel, nI_add]
theorem mv_inc16 (a : Nat) : nI a + Int32.ofInt 16 = nI (a + 16) := by
  rw [show (Int32.ofInt 16) = nI 16 from by decide +kernel, nI_add]
theorem mv_dec (a : Nat) : nI a + Int32.ofInt (-1) = nI a - 1 := by
  rw [show (Int32.ofInt (-1)) = -1 from by decide +kernel, Int32.sub_eq_add_neg]
section MVR
variable {p : Program} {l : Launch} {e : Env} {R : Room} {s : State} {m : MethodId} {args : Array Value} {below : List Frame} {meth : Method} {c : Code} {H : Heap} {locs : List Loc} {cells slots : Nat} {Q : State → Prop}
variable {cc : ByteArray} {pc : Nat} {ls : Array Slot} {rest : List Value} {D : va_G} {cl : List vw_C} {A : Nat → Prop} {a : Nat} {tys : List (ClassId × FieldType)} {ws : va_W} {H0 : Heap}
theorem mv_top {x y : Int32} (h : x = y) (kk : W p l e R s m args below meth c H locs cells slots Q (F0 m pc ls (.int y :: rest))) : W p l e R s m args below meth c H locs cells slots Q (F0 m pc ls (.int x :: rest)) := by
  subst h
  exact kk
theorem mv_topl {x y : Int64} (h : x = y) (kk : W p l e R s m args below meth c H locs cells slots Q (F0 m pc ls (.long y :: rest))) : W p l e R s m args below meth c H locs cells slots Q (F0 m pc ls (.long x :: rest)) := by
  subst h
  exact kk
theorem mv_bald (hexec : p.tables.exec = Jvm.exec) (hb : c.code = cc) (hK : va_K D cl tys s) (hP : va_P D cl ws H) (q0 t0 : Nat) {cA : ClassId} {n : Nat} {f : Nat → Int32} (ha : ws[q0]? = some (a, .inl (cA, n, .inl f))) (ht : tys[t0]? = some (cA, .byte)) (j : Nat) (hj : j < n) (hn : n < 2 ^ 31) (hdg : decode cc pc = .ok (.baload, 1))
    (kk : W p l e R s m args below meth c H locs cells slots Q (F0 m (pc + 1) ls (.int (f j) :: rest))) : W p l e R s m args below meth c H locs cells slots Q (F0 m pc ls (.int (nI j) :: .ref a :: rest)) := by
  refine va_bald hexec hb hK hP q0 t0 ha ht (vp_in_nI hj hn) hdg ?_
  rw [nI_clamp (show j < 2 ^ 31 by omega)]
  exact kk
theorem mv_iald (hexec : p.tables.exec = Jvm.exec) (hb : c.code = cc) (hK : va_K D cl tys s) (hP : va_P D cl ws H) (q0 t0 : Nat) {cA : ClassId} {n : Nat} {f : Nat → Int32} (ha : ws[q0]? = some (a, .inl (cA, n, .inl f))) (ht : tys[t0]? = some (cA, .int)) (j : Nat) (hj : j < n) (hn : n < 2 ^ 31) (hdg : decode cc pc = .ok (.iaload, 1))
    (kk : W p l e R s m args below meth c H locs cells slots Q (F0 m (pc + 1) ls (.int (f j) :: rest))) : W p l e R s m args below meth c H locs cells slots Q (F0 m pc ls (.int (nI j) :: .ref a :: rest)) := by
  refine va_iald hexec hb hK hP q0 t0 ha ht (vp_in_nI hj hn) hdg ?_
  rw [nI_clamp (show j < 2 ^ 31 by omega)]
  exact kk
theorem mv_bast (hexec : p.tables.exec = Jvm.exec) (hb : c.code = cc) (hK : va_K D cl tys s) (hP : va_P D cl ws H) (hD : va_D A ws) (hS : va_S A H0 H locs) (q0 t0 : Nat) {cA : ClassId} {n : Nat} {f : Nat → Int32} (ha : ws[q0]? = some (a, .inl (cA, n, .inl f))) (ht : tys[t0]? = some (cA, .byte)) {x : Int32} (j : Nat) (hj : j < n) (hn : n < 2 ^ 31) (hdg : decode cc pc = .ok (.bastore, 1))
    (kk : ∀ (H1 : Heap) (locs1 : List Loc), va_P D cl (ws.set q0 (a, .inl (cA, n, .inl (upd f j (vp_nar .byte x))))) H1 → va_D A (ws.set q0 (a, .inl (cA, n, .inl (upd f j (vp_nar .byte x))))) → va_S A H0 H1 locs1 → W p l e R s m args below meth c H1 locs1 cells slots Q (F0 m (pc + 1) ls rest)) : W p l e R s m args below meth c H locs cells slots Q (F0 m pc ls (.int x :: .int (nI j) :: .ref a :: rest)) := by
  refine va_bast hexec hb hK hP hD hS q0 t0 ha ht (vp_in_nI hj hn) hdg ?_
  rw [nI_clamp (show j < 2 ^ 31 by omega)]
  exact kk
theorem mv_iast (hexec : p.tables.exec = Jvm.exec) (hb : c.code = cc) (hK : va_K D cl tys s) (hP : va_P D cl ws H) (hD : va_D A ws) (hS : va_S A H0 H locs) (q0 t0 : Nat) {cA : ClassId} {n : Nat} {f : Nat → Int32} (ha : ws[q0]? = some (a, .inl (cA, n, .inl f))) (ht : tys[t0]? = some (cA, .int)) {x : Int32} (j : Nat) (hj : j < n) (hn : n < 2 ^ 31) (hdg : decode cc pc = .ok (.iastore, 1))
    (kk : ∀ (H1 : Heap) (locs1 : List Loc), va_P D cl (ws.set q0 (a, .inl (cA, n, .inl (upd f j x)))) H1 → va_D A (ws.set q0 (a, .inl (cA, n, .inl (upd f j x)))) → va_S A H0 H1 locs1 → W p l e R s m args below meth c H1 locs1 cells slots Q (F0 m (pc + 1) ls rest)) : W p l e R s m args below meth c H locs cells slots Q (F0 m pc ls (.int x :: .int (nI j) :: .ref a :: rest)) := by
  refine va_iast hexec hb hK hP hD hS q0 t0 ha ht (vp_in_nI hj hn) hdg ?_
  rw [nI_clamp (show j < 2 ^ 31 by omega)]
  exact kk
theorem mv_last (hexec : p.tables.exec = Jvm.exec) (hb : c.code = cc) (hK : va_K D cl tys s) (hP : va_P D cl ws H) (hD : va_D A ws) (hS : va_S A H0 H locs) (q0 t0 : Nat) {cA : ClassId} {n : Nat} {f : Nat → Int64} (ha : ws[q0]? = some (a, .inl (cA, n, .inr (.inl f)))) (ht : tys[t0]? = some (cA, .long)) {x : Int64} (j : Nat) (hj : j < n) (hn : n < 2 ^ 31) (hdg : decode cc pc = .ok (.lastore, 1))
    (kk : ∀ (H1 : Heap) (locs1 : List Loc), va_P D cl (ws.set q0 (a, .inl (cA, n, .inr (.inl (vp_updL f j x))))) H1 → va_D A (ws.set q0 (a, .inl (cA, n, .inr (.inl (vp_updL f j x))))) → va_S A H0 H1 locs1 → W p l e R s m args below meth c H1 locs1 cells slots Q (F0 m (pc + 1) ls rest)) : W p l e R s m args below meth c H locs cells slots Q (F0 m pc ls (.long x :: .int (nI j) :: .ref a :: rest)) := by
  refine va_last hexec hb hK hP hD hS q0 t0 ha ht (vp_in_nI hj hn) hdg ?_
  rw [nI_clamp (show j < 2 ^ 31 by omega)]
  exact kk
theorem mv_lald (hexec : p.tables.exec = Jvm.exec) (hb : c.code = cc) (hK : va_K D cl tys s) (hP : va_P D cl ws H) (q0 t0 : Nat) {cA : ClassId} {n : Nat} {f : Nat → Int64} (ha : ws[q0]? = some (a, .inl (cA, n, .inr (.inl f)))) (ht : tys[t0]? = some (cA, .long)) (j : Nat) (hj : j < n) (hn : n < 2 ^ 31) (hdg : decode cc pc = .ok (.laload, 1))
    (kk : W p l e R s m args below meth c H locs cells slots Q (F0 m (pc + 1) ls (.long (f j) :: rest))) : W p l e R s m args below meth c H locs cells slots Q (F0 m pc ls (.int (nI j) :: .ref a :: rest)) := by
  refine va_lald hexec hb hK hP q0 t0 ha ht (vp_in_nI hj hn) hdg ?_
  rw [nI_clamp (show j < 2 ^ 31 by omega)]
  exact kk
theorem mv_sld (hexec : p.tables.exec = Jvm.exec) (hb : c.code = cc) {b L : Nat} {xs : Nat → Int32} (hX : va_X b L xs s H0) (hbl : b < H0.size) (hbA : ¬ A b) (hS : va_S A H0 H locs) (j : Nat) (hj : j < L) (hn : L < 2 ^ 31) (hdg : decode cc pc = .ok (.iaload, 1))
    (kk : W p l e R s m args below meth c H locs cells slots Q (F0 m (pc + 1) ls (.int (xs j) :: rest))) : W p l e R s m args below meth c H locs cells slots Q (F0 m pc ls (.int (nI j) :: .ref b :: rest)) := by
  refine va_sld hexec hb hX hbl hbA hS (vp_in_nI hj hn) hdg ?_
  rw [nI_clamp (show j < 2 ^ 31 by omega)]
  exact kk
/-- a place where ways meet: walked once for all values x that meet P, used by every way -/
theorem mv_cut {α : Type} {g : JFrame} (P : α → Array Slot → Prop) (fr : α → Array Slot → JFrame) (h1 : ∀ (x : α) (ls : Array Slot), P x ls → W p l e R s m args below meth c H locs cells slots Q (fr x ls)) (h2 : (∀ (x : α) (ls : Array Slot), P x ls → W p l e R s m args below meth c H locs cells slots Q (fr x ls)) → W p l e R s m args below meth c H locs cells slots Q g) : W p l e R s m args below meth c H locs cells slots Q g := h2 h1
/-- a loop that changes no cell -/
theorem mv_loop {α : Type} (I : α → Array Slot → Prop) (fr : α → Array Slot → JFrame) (μ : α → Nat) (step : ∀ (x : α) (ls : Array Slot), I x ls → (∀ (y : α) (ls1 : Array Slot), I y ls1 → μ y < μ x → W p l e R s m args below meth c H locs cells slots Q (fr y ls1)) → W p l e R s m args below meth c H locs cells slots Q (fr x ls)) : ∀ (x : α) (ls : Array Slot), I x ls → W p l e R s m args below meth c H locs cells slots Q (fr x ls) := by
  have key : ∀ (n : Nat) (x : α) (ls : Array Slot), μ x < n → I x ls → W p l e R s m args below meth c H locs cells slots Q (fr x ls) := by
    intro n
    induction n with
    | zero => intro x ls h; omega
    | succ n ih => intro x ls hn hI; exact step x ls hI (fun y ls1 hy hm => ih y ls1 (by omega) hy)
  exact fun x ls h => key (μ x + 1) x ls (by omega) h
/-- a loop that changes cells -/
theorem mv_loopH {α : Type} (I : α → Heap → List Loc → Array Slot → Prop) (fr : α → Array Slot → JFrame) (μ : α → Nat) (step : ∀ (x : α) (H : Heap) (locs : List Loc) (ls : Array Slot), I x H locs ls → (∀ (y : α) (H1 : Heap) (locs1 : List Loc) (ls1 : Array Slot), I y H1 locs1 ls1 → μ y < μ x → W p l e R s m args below meth c H1 locs1 cells slots Q (fr y ls1)) → W p l e R s m args below meth c H locs cells slots Q (fr x ls)) : ∀ (x : α) (H : Heap) (locs : List Loc) (ls : Array Slot), I x H locs ls → W p l e R s m args below meth c H locs cells slots Q (fr x ls) := by
  have key : ∀ (n : Nat) (x : α) (H : Heap) (locs : List Loc) (ls : Array Slot), μ x < n → I x H locs ls → W p l e R s m args below meth c H locs cells slots Q (fr x ls) := by
    intro n
    induction n with
    | zero => intro x H locs ls h; omega
    | succ n ih => intro x H locs ls hn hI; exact step x H locs ls hI (fun y H1 locs1 ls1 hy hm => ih y H1 locs1 ls1 (by omega) hy)
  exact fun x H locs ls h => key (μ x + 1) x H locs ls (by omega) h
end MVR
end
section
/-! LEAVES: contracts that change nothing -/
set_option maxRecDepth 100000
set_option maxHeartbeats 4000000 in
set_option maxRecDepth 100000 in
/-- Integer.rotateLeft -/
theorem c_rotI (l : Launch) (x d : Int32) : Met l yJ0_rotateLeft (ws_ yJ0_rotateLeft cJ0_rotateLeft 2 (some .int)) ({ frames := 0, cells := 0, slots := 0, locals := 0 }) (va_Pc [.int x, .int d] (fun _ => True)) (vp_Si (fun r => r = mv_jI x d)) 0 0 (fun _ => False) := by
  refine Met.ofW (cc := cJ0_rotateLeft) (maxL := 2) (ret := (some .int)) (by decide) rfl ?_
  intro p e s m args below meth c s₁ B hml hv
  obtain ⟨rfl, -⟩ := hv
  have hx := B.exec
  have hb := B.bytes
  have hr := B.returns
  have hts := atoms_spec (ws := ws_ yJ0_rotateLeft cJ0_rotateLeft 2 (some .int)) B.pre
  have hts : ∀ w ∈ lw_all, w.before _ s = true := fun w h => hts w (List.mem_cons_of_mem _ h)
  have hown : s.vm.findClass RJ0 = some m.cls := findClass_of_methodNamed B.named
  have hlocks := B.notSynchronized
  have hl := lv_entry ([.int x, .int d]) (n := 2) (Nat.le_of_ble_eq_true rfl)
  rw [lg_entry_eq]
  generalize (lg_sl ([.int x, .int d]) ++ List.replicate (2 - (lg_sl ([.int x, .int d])).length) Slot.unset).toArray = ls at hl ⊢
  have hl : lv_has ls 2 [(0, .int x), (1, .int d)] := hl
  refine lv_iload_n hx hb dJ0_rotateLeft_0 rfl (lv_at hl 0 rfl) ?_
  refine lv_iload_n hx hb dJ0_rotateLeft_1 rfl (lv_at hl 1 rfl) ?_
  refine lv_ishl hx hb dJ0_rotateLeft_2 ?_
  refine lv_iload_n hx hb dJ0_rotateLeft_3 rfl (lv_at hl 0 rfl) ?_
  refine lv_iload_n hx hb dJ0_rotateLeft_4 rfl (lv_at hl 1 rfl) ?_
  refine lv_ineg hx hb dJ0_rotateLeft_5 ?_
  refine lv_iushr (v := (mv_iu x (-d))) hx hb dJ0_rotateLeft_6 rfl ?_
  refine lv_ior hx hb dJ0_rotateLeft_7 ?_
  exact W.iret (v := ((x <<< (d &&& 31)) ||| (mv_iu x (-d)))) hx hb hr (fun t ht hW => ⟨((x <<< (d &&& 31)) ||| (mv_iu x (-d))), rfl, by rfl, ht⟩) (fun _ h => absurd h List.not_mem_nil) dJ0_rotateLeft_8
set_option maxHeartbeats 4000000 in
set_option maxRecDepth 100000 in
/-- Long.rotateLeft -/
theorem c_rotL (l : Launch) (x : Int64) (d : Int32) : Met l yJ1_rotateLeft (ws_ yJ1_rotateLeft cJ1_rotateLeft 3 (some .long)) ({ frames := 0, cells := 0, slots := 0, locals := 0 }) (va_Pc [.long x, .int d] (fun _ => True)) (vp_Sl (fun r => r = mv_jL x d)) 0 0 (fun _ => False) := by
  refine Met.ofW (cc := cJ1_rotateLeft) (maxL := 3) (ret := (some .long)) (by decide) rfl ?_
  intro p e s m args below meth c s₁ B hml hv
  obtain ⟨rfl, -⟩ := hv
  have hx := B.exec
  have hb := B.bytes
  have hr := B.returns
  have hts := atoms_spec (ws := ws_ yJ1_rotateLeft cJ1_rotateLeft 3 (some .long)) B.pre
  have hts : ∀ w ∈ lw_all, w.before _ s = true := fun w h => hts w (List.mem_cons_of_mem _ h)
  have hown : s.vm.findClass RJ1 = some m.cls := findClass_of_methodNamed B.named
  have hlocks := B.notSynchronized
  have hl := lv_entry ([.long x, .int d]) (n := 3) (Nat.le_of_ble_eq_true rfl)
  rw [lg_entry_eq]
  generalize (lg_sl ([.long x, .int d]) ++ List.replicate (3 - (lg_sl ([.long x, .int d])).length) Slot.unset).toArray = ls at hl ⊢
  have hl : lv_has ls 3 [(0, .long x), (2, .int d)] := hl
  refine lv_lload_n hx hb dJ1_rotateLeft_0 rfl (lv_at hl 0 rfl) ?_
  refine lv_iload_n hx hb dJ1_rotateLeft_1 rfl (lv_at hl 1 rfl) ?_
  refine lv_lshl (v := (mv_ls x d)) hx hb dJ1_rotateLeft_2 rfl ?_
  refine lv_lload_n hx hb dJ1_rotateLeft_3 rfl (lv_at hl 0 rfl) ?_
  refine lv_iload_n hx hb dJ1_rotateLeft_4 rfl (lv_at hl 1 rfl) ?_
  refine lv_ineg hx hb dJ1_rotateLeft_5 ?_
  refine lv_lushr (v := (mv_lu x (-d))) hx hb dJ1_rotateLeft_6 rfl ?_
  refine lv_lor hx hb dJ1_rotateLeft_7 ?_
  exact W.lret (v := ((mv_ls x d) ||| (mv_lu x (-d)))) hx hb hr (fun t ht hW => ⟨((mv_ls x d) ||| (mv_lu x (-d))), rfl, by rfl, ht⟩) (fun _ h => absurd h List.not_mem_nil) dJ1_rotateLeft_8
set_option maxHeartbeats 4000000 in
set_option maxRecDepth 100000 in
/-- Murmur3.fmix64 -/
theorem c_fmix (l : Launch) (x : Int64) : Met l yX2_fmix64 (ws_ yX2_fmix64 cX2_fmix64 2 (some .long)) ({ frames := 0, cells := 0, slots := 0, locals := 0 }) (va_Pc [.long x] (fun _ => True)) (vp_Sl (fun r => r = mv_end x)) 0 0 (fun _ => False) := by
  refine Met.ofW (cc := cX2_fmix64) (maxL := 2) (ret := (some .long)) (by decide) rfl ?_
  intro p e s m args below meth c s₁ B hml hv
  obtain ⟨rfl, -⟩ := hv
  have hx := B.exec
  have hb := B.bytes
  have hr := B.returns
  have hts := atoms_spec (ws := ws_ yX2_fmix64 cX2_fmix64 2 (some .long)) B.pre
  have hts : ∀ w ∈ lw_all, w.before _ s = true := fun w h => hts w (List.mem_cons_of_mem _ h)
  have hown : s.vm.findClass RX2 = some m.cls := findClass_of_methodNamed B.named
  have hlocks := B.notSynchronized
  have hl := lv_entry ([.long x]) (n := 2) (Nat.le_of_ble_eq_true rfl)
  rw [lg_entry_eq]
  generalize (lg_sl ([.long x]) ++ List.replicate (2 - (lg_sl ([.long x])).length) Slot.unset).toArray = ls at hl ⊢
  have hl : lv_has ls 2 [(0, .long x)] := hl
  refine lv_lload_n hx hb dX2_fmix64_0 rfl (lv_at hl 0 rfl) ?_
  refine lv_lload_n hx hb dX2_fmix64_1 rfl (lv_at hl 0 rfl) ?_
  refine lv_bipush (v := 33) hx hb dX2_fmix64_2 (by decide) ?_
  refine lv_lushr (v := (mv_lu x 33)) hx hb dX2_fmix64_4 rfl ?_
  refine lv_lxor hx hb dX2_fmix64_5 ?_
  refine lv_topl (fun f1 ef1 => ?_)
  refine lv_lstore_n (lv' := [(0, .long f1)]) hx hb dX2_fmix64_6 rfl hl (by decide) rfl (fun ls hl => ?_)
  refine lv_lload_n hx hb dX2_fmix64_7 rfl (lv_at hl 0 rfl) ?_
  refine lv_ldc2 (v := (-49064778989728563)) hx hb hown (hts _ q91) dX2_fmix64_8 ?_
  refine lv_lmul hx hb dX2_fmix64_11 ?_
  refine lv_topl (fun f2 ef2 => ?_)
  refine lv_lstore_n (lv' := [(0, .long f2)]) hx hb dX2_fmix64_12 rfl hl (by decide) rfl (fun ls hl => ?_)
  refine lv_lload_n hx hb dX2_fmix64_13 rfl (lv_at hl 0 rfl) ?_
  refine lv_lload_n hx hb dX2_fmix64_14 rfl (lv_at hl 0 rfl) ?_
  refine lv_bipush (v := 33) hx hb dX2_fmix64_15 (by decide) ?_
  refine lv_lushr (v := (mv_lu f2 33)) hx hb dX2_fmix64_17 rfl ?_
  refine lv_lxor hx hb dX2_fmix64_18 ?_
  refine lv_topl (fun f3 ef3 => ?_)
  refine lv_lstore_n (lv' := [(0, .long f3)]) hx hb dX2_fmix64_19 rfl hl (by decide) rfl (fun ls hl => ?_)
  refine lv_lload_n hx hb dX2_fmix64_20 rfl (lv_at hl 0 rfl) ?_
  refine lv_ldc2 (v := (-4265267296055464877)) hx hb hown (hts _ q92) dX2_fmix64_21 ?_
  refine lv_lmul hx hb dX2_fmix64_24 ?_
  refine lv_topl (fun f4 ef4 => ?_)
  refine lv_lstore_n (lv' := [(0, .long f4)]) hx hb dX2_fmix64_25 rfl hl (by decide) rfl (fun ls hl => ?_)
  refine lv_lload_n hx hb dX2_fmix64_26 rfl (lv_at hl 0 rfl) ?_
  refine lv_lload_n hx hb dX2_fmix64_27 rfl (lv_at hl 0 rfl) ?_
  refine lv_bipush (v := 33) hx hb dX2_fmix64_28 (by decide) ?_
  refine lv_lushr (v := (mv_lu f4 33)) hx hb dX2_fmix64_30 rfl ?_
  refine lv_lxor hx hb dX2_fmix64_31 ?_
  refine lv_topl (fun f5 ef5 => ?_)
  refine lv_lstore_n (lv' := [(0, .long f5)]) hx hb dX2_fmix64_32 rfl hl (by decide) rfl (fun ls hl => ?_)
  refine lv_lload_n hx hb dX2_fmix64_33 rfl (lv_at hl 0 rfl) ?_
  exact W.lret (v := f5) hx hb hr (fun t ht hW => ⟨f5, rfl, by subst ef5; subst ef4; subst ef3; subst ef2; subst ef1; rfl, ht⟩) (fun _ h => absurd h List.not_mem_nil) dX2_fmix64_34
set_option maxHeartbeats 4000000 in
set_option maxRecDepth 100000 in
/-- MurmurDeskModel.turned (int) -/
theorem c_turnI (l : Launch) (h0 : Nat) (x d : Int32) : Met l yX1_turned (ws_ yX1_turned cX1_turned 3 (some .int)) ({ frames := 0, cells := 0, slots := 0, locals := 0 }) (va_Pc [.ref h0, .int x, .int d] (fun _ => True)) (vp_Si (fun r => r = mv_tI x d)) 0 0 (fun _ => False) := by
  refine Met.ofW (cc := cX1_turned) (maxL := 3) (ret := (some .int)) (by decide) rfl ?_
  intro p e s m args below meth c s₁ B hml hv
  obtain ⟨rfl, -⟩ := hv
  have hx := B.exec
  have hb := B.bytes
  have hr := B.returns
  have hts := atoms_spec (ws := ws_ yX1_turned cX1_turned 3 (some .int)) B.pre
  have hts : ∀ w ∈ lw_all, w.before _ s = true := fun w h => hts w (List.mem_cons_of_mem _ h)
  have hown : s.vm.findClass RX1 = some m.cls := findClass_of_methodNamed B.named
  have hlocks := B.notSynchronized
  have hl := lv_entry ([.ref h0, .int x, .int d]) (n := 3) (Nat.le_of_ble_eq_true rfl)
  rw [lg_entry_eq]
  generalize (lg_sl ([.ref h0, .int x, .int d]) ++ List.replicate (3 - (lg_sl ([.ref h0, .int x, .int d])).length) Slot.unset).toArray = ls at hl ⊢
  have hl : lv_has ls 3 [(0, .ref h0), (1, .int x), (2, .int d)] := hl
  refine lv_iload_n hx hb dX1_turned_0 rfl (lv_at hl 1 rfl) ?_
  refine lv_iload_n hx hb dX1_turned_1 rfl (lv_at hl 2 rfl) ?_
  refine lv_ishl hx hb dX1_turned_2 ?_
  refine lv_iload_n hx hb dX1_turned_3 rfl (lv_at hl 1 rfl) ?_
  refine lv_bipush (v := 32) hx hb dX1_turned_4 (by decide) ?_
  refine lv_iload_n hx hb dX1_turned_6 rfl (lv_at hl 2 rfl) ?_
  refine lv_isub hx hb dX1_turned_7 ?_
  refine lv_iushr (v := (mv_iu x (32 - d))) hx hb dX1_turned_8 rfl ?_
  refine lv_ior hx hb dX1_turned_9 ?_
  exact W.iret (v := ((x <<< (d &&& 31)) ||| (mv_iu x (32 - d)))) hx hb hr (fun t ht hW => ⟨((x <<< (d &&& 31)) ||| (mv_iu x (32 - d))), rfl, by rfl, ht⟩) (fun _ h => absurd h List.not_mem_nil) dX1_turned_10
set_option maxHeartbeats 4000000 in
set_option maxRecDepth 100000 in
/-- MurmurDeskModel.turned (long) -/
theorem c_turnL (l : Launch) (h0 : Nat) (x : Int64) (d : Int32) : Met l yX1_turned_2 (ws_ yX1_turned_2 cX1_turned_2 4 (some .long)) ({ frames := 0, cells := 0, slots := 0, locals := 0 }) (va_Pc [.ref h0, .long x, .int d] (fun _ => True)) (vp_Sl (fun r => r = mv_tL x d)) 0 0 (fun _ => False) := by
  refine Met.ofW (cc := cX1_turned_2) (maxL := 4) (ret := (some .long)) (by decide) rfl ?_
  intro p e s m args below meth c s₁ B hml hv
  obtain ⟨rfl, -⟩ := hv
  have hx := B.exec
  have hb := B.bytes
  have hr := B.returns
  have hts := atoms_spec (ws := ws_ yX1_turned_2 cX1_turned_2 4 (some .long)) B.pre
  have hts : ∀ w ∈ lw_all, w.before _ s = true := fun w h => hts w (List.mem_cons_of_mem _ h)
  have hown : s.vm.findClass RX1 = some m.cls := findClass_of_methodNamed B.named
  have hlocks := B.notSynchronized
  have hl := lv_entry ([.ref h0, .long x, .int d]) (n := 4) (Nat.le_of_ble_eq_true rfl)
  rw [lg_entry_eq]
  generalize (lg_sl ([.ref h0, .long x, .int d]) ++ List.replicate (4 - (lg_sl ([.ref h0, .long x, .int d])).length) Slot.unset).toArray = ls at hl ⊢
  have hl : lv_has ls 4 [(0, .ref h0), (1, .long x), (3, .int d)] := hl
  refine lv_lload_n hx hb dX1_turned_2_0 rfl (lv_at hl 1 rfl) ?_
  refine lv_iload_n hx hb dX1_turned_2_1 rfl (lv_at hl 2 rfl) ?_
  refine lv_lshl (v := (mv_ls x d)) hx hb dX1_turned_2_2 rfl ?_
  refine lv_lload_n hx hb dX1_turned_2_3 rfl (lv_at hl 1 rfl) ?_
  refine lv_bipush (v := 64) hx hb dX1_turned_2_4 (by decide) ?_
  refine lv_iload_n hx hb dX1_turned_2_6 rfl (lv_at hl 2 rfl) ?_
  refine lv_isub hx hb dX1_turned_2_7 ?_
  refine lv_lushr (v := (mv_lu x (64 - d))) hx hb dX1_turned_2_8 rfl ?_
  refine lv_lor hx hb dX1_turned_2_9 ?_
  exact W.lret (v := ((mv_ls x d) ||| (mv_lu x (64 - d)))) hx hb hr (fun t ht hW => ⟨((mv_ls x d) ||| (mv_lu x (64 - d))), rfl, by rfl, ht⟩) (fun _ h => absurd h List.not_mem_nil) dX1_turned_2_10
set_option maxHeartbeats 4000000 in
set_option maxRecDepth 100000 in
/-- MurmurDeskModel.ended -/
theorem c_ended (l : Launch) (h0 : Nat) (x : Int64) : Met l yX1_ended (ws_ yX1_ended cX1_ended 5 (some .long)) ({ frames := 0, cells := 0, slots := 0, locals := 0 }) (va_Pc [.ref h0, .long x] (fun _ => True)) (vp_Sl (fun r => r = mv_end x)) 0 0 (fun _ => False) := by
  refine Met.ofW (cc := cX1_ended) (maxL := 5) (ret := (some .long)) (by decide) rfl ?_
  intro p e s m args below meth c s₁ B hml hv
  obtain ⟨rfl, -⟩ := hv
  have hx := B.exec
  have hb := B.bytes
  have hr := B.returns
  have hts := atoms_spec (ws := ws_ yX1_ended cX1_ended 5 (some .long)) B.pre
  have hts : ∀ w ∈ lw_all, w.before _ s = true := fun w h => hts w (List.mem_cons_of_mem _ h)
  have hown : s.vm.findClass RX1 = some m.cls := findClass_of_methodNamed B.named
  have hlocks := B.notSynchronized
  have hl := lv_entry ([.ref h0, .long x]) (n := 5) (Nat.le_of_ble_eq_true rfl)
  rw [lg_entry_eq]
  generalize (lg_sl ([.ref h0, .long x]) ++ List.replicate (5 - (lg_sl ([.ref h0, .long x])).length) Slot.unset).toArray = ls at hl ⊢
  have hl : lv_has ls 5 [(0, .ref h0), (1, .long x)] := hl
  refine lv_lload_n hx hb dX1_ended_0 rfl (lv_at hl 1 rfl) ?_
  refine lv_lstore_n (lv' := [(3, .long x), (0, .ref h0), (1, .long x)]) hx hb dX1_ended_1 rfl hl (by decide) rfl (fun ls hl => ?_)
  refine lv_lload_n hx hb dX1_ended_2 rfl (lv_at hl 0 rfl) ?_
  refine lv_lload_n hx hb dX1_ended_3 rfl (lv_at hl 0 rfl) ?_
  refine lv_bipush (v := 33) hx hb dX1_ended_4 (by decide) ?_
  refine lv_lushr (v := (mv_lu x 33)) hx hb dX1_ended_6 rfl ?_
  refine lv_lxor hx hb dX1_ended_7 ?_
  refine lv_topl (fun f1 ef1 => ?_)
  refine lv_lstore_n (lv' := [(3, .long f1), (0, .ref h0), (1, .long x)]) hx hb dX1_ended_8 rfl hl (by decide) rfl (fun ls hl => ?_)
  refine lv_lload_n hx hb dX1_ended_9 rfl (lv_at hl 0 rfl) ?_
  refine lv_ldc2 (v := (-49064778989728563)) hx hb hown (hts _ q167) dX1_ended_10 ?_
  refine lv_lmul hx hb dX1_ended_13 ?_
  refine lv_topl (fun f2 ef2 => ?_)
  refine lv_lstore_n (lv' := [(3, .long f2), (0, .ref h0), (1, .long x)]) hx hb dX1_ended_14 rfl hl (by decide) rfl (fun ls hl => ?_)
  refine lv_lload_n hx hb dX1_ended_15 rfl (lv_at hl 0 rfl) ?_
  refine lv_lload_n hx hb dX1_ended_16 rfl (lv_at hl 0 rfl) ?_
  refine lv_bipush (v := 33) hx hb dX1_ended_17 (by decide) ?_
  refine lv_lushr (v := (mv_lu f2 33)) hx hb dX1_ended_19 rfl ?_
  refine lv_lxor hx hb dX1_ended_20 ?_
  refine lv_topl (fun f3 ef3 => ?_)
  refine lv_lstore_n (lv' := [(3, .long f3), (0, .ref h0), (1, .long x)]) hx hb dX1_ended_21 rfl hl (by decide) rfl (fun ls hl => ?_)
  refine lv_lload_n hx hb dX1_ended_22 rfl (lv_at hl 0 rfl) ?_
  refine lv_ldc2 (v := (-4265267296055464877)) hx hb hown (hts _ q168) dX1_ended_23 ?_
  refine lv_lmul hx hb dX1_ended_26 ?_
  refine lv_topl (fun f4 ef4 => ?_)
  refine lv_lstore_n (lv' := [(3, .long f4), (0, .ref h0), (1, .long x)]) hx hb dX1_ended_27 rfl hl (by decide) rfl (fun ls hl => ?_)
  refine lv_lload_n hx hb dX1_ended_28 rfl (lv_at hl 0 rfl) ?_
  refine lv_lload_n hx hb dX1_ended_29 rfl (lv_at hl 0 rfl) ?_
  refine lv_bipush (v := 33) hx hb dX1_ended_30 (by decide) ?_
  refine lv_lushr (v := (mv_lu f4 33)) hx hb dX1_ended_32 rfl ?_
  refine lv_lxor hx hb dX1_ended_33 ?_
  refine lv_topl (fun f5 ef5 => ?_)
  refine lv_lstore_n (lv' := [(3, .long f5), (0, .ref h0), (1, .long x)]) hx hb dX1_ended_34 rfl hl (by decide) rfl (fun ls hl => ?_)
  refine lv_lload_n hx hb dX1_ended_35 rfl (lv_at hl 0 rfl) ?_
  exact W.lret (v := f5) hx hb hr (fun t ht hW => ⟨f5, rfl, by subst ef5; subst ef4; subst ef3; subst ef2; subst ef1; rfl, ht⟩) (fun _ h => absurd h List.not_mem_nil) dX1_ended_36
set_option maxHeartbeats 4000000 in
set_option maxRecDepth 100000 in
/-- where a part begins -/
theorem c_from (l : Launch) (dC : Nat → ClassId) (dI : Nat → Nat → Nat) (h0 ha : Nat) (cA : ClassId) (f : Nat → Int32) (n : Nat) (hn : n ≤ 256) (x : Int32) : Met l yX0_from (ws_ yX0_from cX0_from 2 (some .int)) ({ frames := 0, cells := 0, slots := 0, locals := 0 }) (va_Pc [.ref h0, .int x] (fun U => va_P (dC, dI) vwCl [(h0, .inr (0, [.ref ha, .int (nI n)])), (ha, .inl (cA, 256, .inl f))] U.heap ∧ va_K (dC, dI) vwCl [(cA, .byte)] U)) (vp_Si (fun r => r = nI (mv_at n x))) 0 0 (fun _ => False) := by
  refine Met.ofW (cc := cX0_from) (maxL := 2) (ret := (some .int)) (by decide) rfl ?_
  intro p e s m args below meth c s₁ B hml hv
  obtain ⟨rfl, hP, hK⟩ := hv
  have hx := B.exec
  have hb := B.bytes
  have hr := B.returns
  have hts := atoms_spec (ws := ws_ yX0_from cX0_from 2 (some .int)) B.pre
  have hts : ∀ w ∈ lw_all, w.before _ s = true := fun w h => hts w (List.mem_cons_of_mem _ h)
  have hown : s.vm.findClass RX0 = some m.cls := findClass_of_methodNamed B.named
  have hlocks := B.notSynchronized
  have hP : va_P (dC, dI) vwCl [(h0, .inr (0, [.ref ha, .int (nI n)])), (ha, .inl (cA, 256, .inl f))] s.heap := hP
  have hl := lv_entry ([.ref h0, .int x]) (n := 2) (Nat.le_of_ble_eq_true rfl)
  rw [lg_entry_eq]
  generalize (lg_sl ([.ref h0, .int x]) ++ List.replicate (2 - (lg_sl ([.ref h0, .int x])).length) Slot.unset).toArray = ls at hl ⊢
  have hl : lv_has ls 2 [(0, .ref h0), (1, .int x)] := hl
  have hmk := mv_mk_lt x
  refine lv_iload_n hx hb dX0_from_0 rfl (lv_at hl 1 rfl) ?_
  refine lv_ldc (v := 2147483647) hx hb hown (hts _ q48) dX0_from_1 ?_
  refine lv_iand hx hb dX0_from_3 ?_
  refine mv_top (y := (nI (mv_mk x))) (mv_mk_and x) ?_
  refine lv_aload_n hx hb dX0_from_4 rfl (lv_at hl 0 rfl) ?_
  refine va_get (D := (dC, dI)) (ci := 0) (v := .int (nI n)) (C := RX0) (T := TX0) (N := 2) hx hb hts in_X0 hown hK hP 0 rfl rfl 1 (by decide) (hts _ q26) (fun _ h9 => h9) rfl dX0_from_5 ?_
  refine lv_iconst (v := 1) hx hb dX0_from_8 (by decide) ?_
  refine lv_iadd hx hb dX0_from_9 ?_
  refine mv_top (y := (nI (n + 1))) (mv_add (a := n) (b := 1) (by omega)) ?_
  refine lv_irem hx hb dX0_from_10 (nI_ne0 (by omega) (by omega)) ?_
  refine mv_top (y := (nI (mv_at n x))) (mv_rem (a := mv_mk x) (d := n + 1) (by omega) (by omega) (by omega) rfl) ?_
  exact W.iret (v := (nI (mv_at n x))) hx hb hr (fun t ht hW => ⟨(nI (mv_at n x)), rfl, rfl, ht⟩) (fun _ h => absurd h List.not_mem_nil) dX0_from_11
set_option maxHeartbeats 4000000 in
set_option maxRecDepth 100000 in
/-- where a part begins -/
theorem c_place (l : Launch) (dC : Nat → ClassId) (dI : Nat → Nat → Nat) (h0 ha : Nat) (cA : ClassId) (f : Nat → Int32) (n : Nat) (hn : n ≤ 256) (x : Int32) : Met l yX1_place (ws_ yX1_place cX1_place 2 (some .int)) ({ frames := 0, cells := 0, slots := 0, locals := 0 }) (va_Pc [.ref h0, .int x] (fun U => va_P (dC, dI) vwCl [(h0, .inr (1, [.ref ha, .int (nI n)])), (ha, .inl (cA, 256, .inl f))] U.heap ∧ va_K (dC, dI) vwCl [(cA, .byte)] U)) (vp_Si (fun r => r = nI (mv_at n x))) 0 0 (fun _ => False) := by
  refine Met.ofW (cc := cX1_place) (maxL := 2) (ret := (some .int)) (by decide) rfl ?_
  intro p e s m args below meth c s₁ B hml hv
  obtain ⟨rfl, hP, hK⟩ := hv
  have hx := B.exec
  have hb := B.bytes
  have hr := B.returns
  have hts := atoms_spec (ws := ws_ yX1_place cX1_place 2 (some .int)) B.pre
  have hts : ∀ w ∈ lw_all, w.before _ s = true := fun w h => hts w (List.mem_cons_of_mem _ h)
  have hown : s.vm.findClass RX1 = some m.cls := findClass_of_methodNamed B.named
  have hlocks := B.notSynchronized
  have hP : va_P (dC, dI) vwCl [(h0, .inr (1, [.ref ha, .int (nI n)])), (ha, .inl (cA, 256, .inl f))] s.heap := hP
  have hl := lv_entry ([.ref h0, .int x]) (n := 2) (Nat.le_of_ble_eq_true rfl)
  rw [lg_entry_eq]
  generalize (lg_sl ([.ref h0, .int x]) ++ List.replicate (2 - (lg_sl ([.ref h0, .int x])).length) Slot.unset).toArray = ls at hl ⊢
  have hl : lv_has ls 2 [(0, .ref h0), (1, .int x)] := hl
  have hmk := mv_mk_lt x
  refine lv_iload_n hx hb dX1_place_0 rfl (lv_at hl 1 rfl) ?_
  refine lv_ldc (v := 2147483647) hx hb hown (hts _ q120) dX1_place_1 ?_
  refine lv_iand hx hb dX1_place_3 ?_
  refine mv_top (y := (nI (mv_mk x))) (mv_mk_and x) ?_
  refine lv_aload_n hx hb dX1_place_4 rfl (lv_at hl 0 rfl) ?_
  refine va_get (D := (dC, dI)) (ci := 1) (v := .int (nI n)) (C := RX1) (T := TX1) (N := 2) hx hb hts in_X1 hown hK hP 0 rfl rfl 1 (by decide) (hts _ q101) (fun _ h9 => h9) rfl dX1_place_5 ?_
  refine lv_iconst (v := 1) hx hb dX1_place_8 (by decide) ?_
  refine lv_iadd hx hb dX1_place_9 ?_
  refine mv_top (y := (nI (n + 1))) (mv_add (a := n) (b := 1) (by omega)) ?_
  refine lv_irem hx hb dX1_place_10 (nI_ne0 (by omega) (by omega)) ?_
  refine mv_top (y := (nI (mv_at n x))) (mv_rem (a := mv_mk x) (d := n + 1) (by omega) (by omega) (by omega) rfl) ?_
  exact W.iret (v := (nI (mv_at n x))) hx hb hr (fun t ht hW => ⟨(nI (mv_at n x)), rfl, rfl, ht⟩) (fun _ h => absurd h List.not_mem_nil) dX1_place_11
set_option maxHeartbeats 4000000 in
set_option maxRecDepth 100000 in
/-- how long a part is -/
theorem c_count (l : Launch) (dC : Nat → ClassId) (dI : Nat → Nat → Nat) (h0 ha : Nat) (cA : ClassId) (f : Nat → Int32) (n : Nat) (hn : n ≤ 256) (o : Nat) (ho : o ≤ n) (x : Int32) : Met l yX0_count (ws_ yX0_count cX0_count 3 (some .int)) ({ frames := 0, cells := 0, slots := 0, locals := 0 }) (va_Pc [.ref h0, .int (nI o), .int x] (fun U => va_P (dC, dI) vwCl [(h0, .inr (0, [.ref ha, .int (nI n)])), (ha, .inl (cA, 256, .inl f))] U.heap ∧ va_K (dC, dI) vwCl [(cA, .byte)] U)) (vp_Si (fun r => r = nI (mv_ct n o x))) 0 0 (fun _ => False) := by
  refine Met.ofW (cc := cX0_count) (maxL := 3) (ret := (some .int)) (by decide) rfl ?_
  intro p e s m args below meth c s₁ B hml hv
  obtain ⟨rfl, hP, hK⟩ := hv
  have hx := B.exec
  have hb := B.bytes
  have hr := B.returns
  have hts := atoms_spec (ws := ws_ yX0_count cX0_count 3 (some .int)) B.pre
  have hts : ∀ w ∈ lw_all, w.before _ s = true := fun w h => hts w (List.mem_cons_of_mem _ h)
  have hown : s.vm.findClass RX0 = some m.cls := findClass_of_methodNamed B.named
  have hlocks := B.notSynchronized
  have hP : va_P (dC, dI) vwCl [(h0, .inr (0, [.ref ha, .int (nI n)])), (ha, .inl (cA, 256, .inl f))] s.heap := hP
  have hl := lv_entry ([.ref h0, .int (nI o), .int x]) (n := 3) (Nat.le_of_ble_eq_true rfl)
  rw [lg_entry_eq]
  generalize (lg_sl ([.ref h0, .int (nI o), .int x]) ++ List.replicate (3 - (lg_sl ([.ref h0, .int (nI o), .int x])).length) Slot.unset).toArray = ls at hl ⊢
  have hl : lv_has ls 3 [(0, .ref h0), (1, .int (nI o)), (2, .int x)] := hl
  have hmk := mv_mk_lt x
  refine lv_iload_n hx hb dX0_count_0 rfl (lv_at hl 2 rfl) ?_
  refine lv_ldc (v := 2147483647) hx hb hown (hts _ q48) dX0_count_1 ?_
  refine lv_iand hx hb dX0_count_3 ?_
  refine mv_top (y := (nI (mv_mk x))) (mv_mk_and x) ?_
  refine lv_aload_n hx hb dX0_count_4 rfl (lv_at hl 0 rfl) ?_
  refine va_get (D := (dC, dI)) (ci := 0) (v := .int (nI n)) (C := RX0) (T := TX0) (N := 2) hx hb hts in_X0 hown hK hP 0 rfl rfl 1 (by decide) (hts _ q26) (fun _ h9 => h9) rfl dX0_count_5 ?_
  refine lv_iload_n hx hb dX0_count_8 rfl (lv_at hl 1 rfl) ?_
  refine lv_isub hx hb dX0_count_9 ?_
  refine mv_top (y := (nI (n - o))) (mv_sub (a := n) (b := o) (by omega)) ?_
  refine lv_iconst (v := 1) hx hb dX0_count_10 (by decide) ?_
  refine lv_iadd hx hb dX0_count_11 ?_
  refine mv_top (y := (nI (n - o + 1))) (mv_add (a := n - o) (b := 1) (by omega)) ?_
  refine lv_irem hx hb dX0_count_12 (nI_ne0 (by omega) (by omega)) ?_
  refine mv_top (y := (nI (mv_ct n o x))) (mv_rem (a := mv_mk x) (d := n - o + 1) (by omega) (by omega) (by omega) rfl) ?_
  exact W.iret (v := (nI (mv_ct n o x))) hx hb hr (fun t ht hW => ⟨(nI (mv_ct n o x)), rfl, rfl, ht⟩) (fun _ h => absurd h List.not_mem_nil) dX0_count_13
set_option maxHeartbeats 4000000 in
set_option maxRecDepth 100000 in
/-- how long a part is -/
theorem c_many (l : Launch) (dC : Nat → ClassId) (dI : Nat → Nat → Nat) (h0 ha : Nat) (cA : ClassId) (f : Nat → Int32) (n : Nat) (hn : n ≤ 256) (o : Nat) (ho : o ≤ n) (x : Int32) : Met l yX1_many (ws_ yX1_many cX1_many 3 (some .int)) ({ frames := 0, cells := 0, slots := 0, locals := 0 }) (va_Pc [.ref h0, .int (nI o), .int x] (fun U => va_P (dC, dI) vwCl [(h0, .inr (1, [.ref ha, .int (nI n)])), (ha, .inl (cA, 256, .inl f))] U.heap ∧ va_K (dC, dI) vwCl [(cA, .byte)] U)) (vp_Si (fun r => r = nI (mv_ct n o x))) 0 0 (fun _ => False) := by
  refine Met.ofW (cc := cX1_many) (maxL := 3) (ret := (some .int)) (by decide) rfl ?_
  intro p e s m args below meth c s₁ B hml hv
  obtain ⟨rfl, hP, hK⟩ := hv
  have hx := B.exec
  have hb := B.bytes
  have hr := B.returns
  have hts := atoms_spec (ws := ws_ yX1_many cX1_many 3 (some .int)) B.pre
  have hts : ∀ w ∈ lw_all, w.before _ s = true := fun w h => hts w (List.mem_cons_of_mem _ h)
  have hown : s.vm.findClass RX1 = some m.cls := findClass_of_methodNamed B.named
  have hlocks := B.notSynchronized
  have hP : va_P (dC, dI) vwCl [(h0, .inr (1, [.ref ha, .int (nI n)])), (ha, .inl (cA, 256, .inl f))] s.heap := hP
  have hl := lv_entry ([.ref h0, .int (nI o), .int x]) (n := 3) (Nat.le_of_ble_eq_true rfl)
  rw [lg_entry_eq]
  generalize (lg_sl ([.ref h0, .int (nI o), .int x]) ++ List.replicate (3 - (lg_sl ([.ref h0, .int (nI o), .int x])).length) Slot.unset).toArray = ls at hl ⊢
  have hl : lv_has ls 3 [(0, .ref h0), (1, .int (nI o)), (2, .int x)] := hl
  have hmk := mv_mk_lt x
  refine lv_iload_n hx hb dX1_many_0 rfl (lv_at hl 2 rfl) ?_
  refine lv_ldc (v := 2147483647) hx hb hown (hts _ q120) dX1_many_1 ?_
  refine lv_iand hx hb dX1_many_3 ?_
  refine mv_top (y := (nI (mv_mk x))) (mv_mk_and x) ?_
  refine lv_aload_n hx hb dX1_many_4 rfl (lv_at hl 0 rfl) ?_
  refine va_get (D := (dC, dI)) (ci := 1) (v := .int (nI n)) (C := RX1) (T := TX1) (N := 2) hx hb hts in_X1 hown hK hP 0 rfl rfl 1 (by decide) (hts _ q101) (fun _ h9 => h9) rfl dX1_many_5 ?_
  refine lv_iload_n hx hb dX1_many_8 rfl (lv_at hl 1 rfl) ?_
  refine lv_isub hx hb dX1_many_9 ?_
  refine mv_top (y := (nI (n - o))) (mv_sub (a := n) (b := o) (by omega)) ?_
  refine lv_iconst (v := 1) hx hb dX1_many_10 (by decide) ?_
  refine lv_iadd hx hb dX1_many_11 ?_
  refine mv_top (y := (nI (n - o + 1))) (mv_add (a := n - o) (b := 1) (by omega)) ?_
  refine lv_irem hx hb dX1_many_12 (nI_ne0 (by omega) (by omega)) ?_
  refine mv_top (y := (nI (mv_ct n o x))) (mv_rem (a := mv_mk x) (d := n - o + 1) (by omega) (by omega) (by omega) rfl) ?_
  exact W.iret (v := (nI (mv_ct n o x))) hx hb hr (fun t ht hW => ⟨(nI (mv_ct n o x)), rfl, rfl, ht⟩) (fun _ h => absurd h List.not_mem_nil) dX1_many_13
set_option maxHeartbeats 4000000 in
set_option maxRecDepth 100000 in
/-- MurmurDeskModel.stirredOne -/
theorem c_st1 (l : Launch) (dC : Nat → ClassId) (dI : Nat → Nat → Nat) (h0 ha : Nat) (cA : ClassId) (f : Nat → Int32) (n : Nat) (x : Int64) : Met l yX1_stirredOne (ws_ yX1_stirredOne cX1_stirredOne 3 (some .long)) ({ frames := 1, cells := 0, slots := 0, locals := 23 }) (va_Pc [.ref h0, .long x] (fun U => va_P (dC, dI) vwCl [(h0, .inr (1, [.ref ha, .int (nI n)])), (ha, .inl (cA, 256, .inl f))] U.heap ∧ va_K (dC, dI) vwCl [(cA, .byte)] U)) (vp_Sl (fun r => r = mv_s1 x)) 0 0 (fun _ => False) := by
  refine Met.ofW (cc := cX1_stirredOne) (maxL := 3) (ret := (some .long)) (by decide) rfl ?_
  intro p e s m args below meth c s₁ B hml hv
  obtain ⟨rfl, hP, hK⟩ := hv
  have hx := B.exec
  have hb := B.bytes
  have hr := B.returns
  have hts := atoms_spec (ws := ws_ yX1_stirredOne cX1_stirredOne 3 (some .long)) B.pre
  have hts : ∀ w ∈ lw_all, w.before _ s = true := fun w h => hts w (List.mem_cons_of_mem _ h)
  have hown : s.vm.findClass RX1 = some m.cls := findClass_of_methodNamed B.named
  have hlocks := B.notSynchronized
  have hP : va_P (dC, dI) vwCl [(h0, .inr (1, [.ref ha, .int (nI n)])), (ha, .inl (cA, 256, .inl f))] s.heap := hP
  have hl := lv_entry ([.ref h0, .long x]) (n := 3) (Nat.le_of_ble_eq_true rfl)
  rw [lg_entry_eq]
  generalize (lg_sl ([.ref h0, .long x]) ++ List.replicate (3 - (lg_sl ([.ref h0, .long x])).length) Slot.unset).toArray = ls at hl ⊢
  have hl : lv_has ls 3 [(0, .ref h0), (1, .long x)] := hl
  refine lv_aload_n hx hb dX1_stirredOne_0 rfl (lv_at hl 0 rfl) ?_
  refine lv_lload_n hx hb dX1_stirredOne_1 rfl (lv_at hl 1 rfl) ?_
  refine lv_ldc2 (v := (-8663945395140668459)) hx hb hown (hts _ q150) dX1_stirredOne_2 ?_
  refine lv_lmul hx hb dX1_stirredOne_5 ?_
  refine lv_bipush (v := 31) hx hb dX1_stirredOne_6 (by decide) ?_
  refine vp_callSl (W.runV (As := [.long (x * (-8663945395140668459)), .int 31]) (rest := []) ⟨hx, hb, hml, hown, hts⟩ (c_turnL l h0 (x * (-8663945395140668459)) 31) (cwV 2 hts (lw_V q151 q153 qs8 q13 q154) rfl rfl rfl (by decide +kernel) ⟨Nat.le_of_ble_eq_true rfl, Nat.le_of_ble_eq_true rfl⟩) ⟨fun a U g mk q => q, va_recv hK hP (ci := 1) (q0 := 0) rfl rfl, fun U hU hW => ⟨rfl, trivial⟩⟩ rfl rfl hl.1 rfl (lv_room (Nat.le_of_ble_eq_true rfl)) dX1_stirredOne_8 ⟨Nat.le_of_ble_eq_true rfl, Nat.le_of_ble_eq_true rfl⟩) (fun r1 hr1 => ?_)
  have hr1 : r1 = mv_tL (x * (-8663945395140668459)) 31 := hr1
  refine lv_ldc2 (v := 5545529020109919103) hx hb hown (hts _ q155) dX1_stirredOne_11 ?_
  refine lv_lmul hx hb dX1_stirredOne_14 ?_
  exact W.lret (v := (r1 * 5545529020109919103)) hx hb hr (fun t ht hW => ⟨(r1 * 5545529020109919103), rfl, by subst hr1; rfl, ht⟩) (fun _ h => absurd h List.not_mem_nil) dX1_stirredOne_15
set_option maxHeartbeats 4000000 in
set_option maxRecDepth 100000 in
/-- MurmurDeskModel.stirredTwo -/
theorem c_st2 (l : Launch) (dC : Nat → ClassId) (dI : Nat → Nat → Nat) (h0 ha : Nat) (cA : ClassId) (f : Nat → Int32) (n : Nat) (x : Int64) : Met l yX1_stirredTwo (ws_ yX1_stirredTwo cX1_stirredTwo 3 (some .long)) ({ frames := 1, cells := 0, slots := 0, locals := 23 }) (va_Pc [.ref h0, .long x] (fun U => va_P (dC, dI) vwCl [(h0, .inr (1, [.ref ha, .int (nI n)])), (ha, .inl (cA, 256, .inl f))] U.heap ∧ va_K (dC, dI) vwCl [(cA, .byte)] U)) (vp_Sl (fun r => r = mv_s2 x)) 0 0 (fun _ => False) := by
  refine Met.ofW (cc := cX1_stirredTwo) (maxL := 3) (ret := (some .long)) (by decide) rfl ?_
  intro p e s m args below meth c s₁ B hml hv
  obtain ⟨rfl, hP, hK⟩ := hv
  have hx := B.exec
  have hb := B.bytes
  have hr := B.returns
  have hts := atoms_spec (ws := ws_ yX1_stirredTwo cX1_stirredTwo 3 (some .long)) B.pre
  have hts : ∀ w ∈ lw_all, w.before _ s = true := fun w h => hts w (List.mem_cons_of_mem _ h)
  have hown : s.vm.findClass RX1 = some m.cls := findClass_of_methodNamed B.named
  have hlocks := B.notSynchronized
  have hP : va_P (dC, dI) vwCl [(h0, .inr (1, [.ref ha, .int (nI n)])), (ha, .inl (cA, 256, .inl f))] s.heap := hP
  have hl := lv_entry ([.ref h0, .long x]) (n := 3) (Nat.le_of_ble_eq_true rfl)
  rw [lg_entry_eq]
  generalize (lg_sl ([.ref h0, .long x]) ++ List.replicate (3 - (lg_sl ([.ref h0, .long x])).length) Slot.unset).toArray = ls at hl ⊢
  have hl : lv_has ls 3 [(0, .ref h0), (1, .long x)] := hl
  refine lv_aload_n hx hb dX1_stirredTwo_0 rfl (lv_at hl 0 rfl) ?_
  refine lv_lload_n hx hb dX1_stirredTwo_1 rfl (lv_at hl 1 rfl) ?_
  refine lv_ldc2 (v := 5545529020109919103) hx hb hown (hts _ q155) dX1_stirredTwo_2 ?_
  refine lv_lmul hx hb dX1_stirredTwo_5 ?_
  refine lv_bipush (v := 33) hx hb dX1_stirredTwo_6 (by decide) ?_
  refine vp_callSl (W.runV (As := [.long (x * 5545529020109919103), .int 33]) (rest := []) ⟨hx, hb, hml, hown, hts⟩ (c_turnL l h0 (x * 5545529020109919103) 33) (cwV 2 hts (lw_V q151 q153 qs8 q13 q154) rfl rfl rfl (by decide +kernel) ⟨Nat.le_of_ble_eq_true rfl, Nat.le_of_ble_eq_true rfl⟩) ⟨fun a U g mk q => q, va_recv hK hP (ci := 1) (q0 := 0) rfl rfl, fun U hU hW => ⟨rfl, trivial⟩⟩ rfl rfl hl.1 rfl (lv_room (Nat.le_of_ble_eq_true rfl)) dX1_stirredTwo_8 ⟨Nat.le_of_ble_eq_true rfl, Nat.le_of_ble_eq_true rfl⟩) (fun r1 hr1 => ?_)
  have hr1 : r1 = mv_tL (x * 5545529020109919103) 33 := hr1
  refine lv_ldc2 (v := (-8663945395140668459)) hx hb hown (hts _ q150) dX1_stirredTwo_11 ?_
  refine lv_lmul hx hb dX1_stirredTwo_14 ?_
  exact W.lret (v := (r1 * (-8663945395140668459))) hx hb hr (fun t ht hW => ⟨(r1 * (-8663945395140668459)), rfl, by subst hr1; rfl, ht⟩) (fun _ h => absurd h List.not_mem_nil) dX1_stirredTwo_15
theorem mv_num_step (f : Nat → Int32) (p k j : Nat) (h : j < k) : mv_ls (mv_num f (p + (j + 1)) (k - (j + 1))) 8 ||| (f (p + j) &&& 255).toInt64 = mv_num f (p + j) (k - j) := by
  rw [show k - j = (k - (j + 1)) + 1 by omega]
  rfl
set_option maxHeartbeats 4000000 in
set_option maxRecDepth 100000 in
/-- MurmurDeskModel.number -/
theorem c_num (l : Launch) (dC : Nat → ClassId) (dI : Nat → Nat → Nat) (h0 ha : Nat) (cA : ClassId) (f : Nat → Int32) (n : Nat) (o k : Nat) (ho : o + k ≤ 256) : Met l yX1_number (ws_ yX1_number cX1_number 6 (some .long)) ({ frames := 0, cells := 0, slots := 0, locals := 0 }) (va_Pc [.ref h0, .int (nI o), .int (nI k)] (fun U => va_P (dC, dI) vwCl [(h0, .inr (1, [.ref ha, .int (nI n)])), (ha, .inl (cA, 256, .inl f))] U.heap ∧ va_K (dC, dI) vwCl [(cA, .byte)] U)) (vp_Sl (fun r => r = mv_num f o k)) 0 0 (fun _ => False) := by
  refine Met.ofW (cc := cX1_number) (maxL := 6) (ret := (some .long)) (by decide) rfl ?_
  intro p e s m args below meth c s₁ B hml hv
  obtain ⟨rfl, hP, hK⟩ := hv
  have hx := B.exec
  have hb := B.bytes
  have hr := B.returns
  have hts := atoms_spec (ws := ws_ yX1_number cX1_number 6 (some .long)) B.pre
  have hts : ∀ w ∈ lw_all, w.before _ s = true := fun w h => hts w (List.mem_cons_of_mem _ h)
  have hown : s.vm.findClass RX1 = some m.cls := findClass_of_methodNamed B.named
  have hlocks := B.notSynchronized
  have hP : va_P (dC, dI) vwCl [(h0, .inr (1, [.ref ha, .int (nI n)])), (ha, .inl (cA, 256, .inl f))] s.heap := hP
  have hl := lv_entry ([.ref h0, .int (nI o), .int (nI k)]) (n := 6) (Nat.le_of_ble_eq_true rfl)
  rw [lg_entry_eq]
  generalize (lg_sl ([.ref h0, .int (nI o), .int (nI k)]) ++ List.replicate (6 - (lg_sl ([.ref h0, .int (nI o), .int (nI k)])).length) Slot.unset).toArray = ls at hl ⊢
  have hl : lv_has ls 6 [(0, .ref h0), (1, .int (nI o)), (2, .int (nI k))] := hl
  refine lv_lconst (v := 0) hx hb dX1_number_0 (by decide) ?_
  refine lv_lstore_n (lv' := [(3, .long 0), (0, .ref h0), (1, .int (nI o)), (2, .int (nI k))]) hx hb dX1_number_1 rfl hl (by decide) rfl (fun ls hl => ?_)
  refine lv_iload_n hx hb dX1_number_2 rfl (lv_at hl 3 rfl) ?_
  refine lv_iconst (v := 1) hx hb dX1_number_3 (by decide) ?_
  refine lv_isub hx hb dX1_number_4 ?_
  refine lv_istore (lv' := [(5, .int (nI k - 1)), (3, .long 0), (0, .ref h0), (1, .int (nI o)), (2, .int (nI k))]) hx hb dX1_number_5 hl (by decide) rfl (fun ls hl => ?_)
  have hl := lv_sub hl (l' := [(0, .ref h0), (1, .int (nI o)), (2, .int (nI k)), (3, .long 0), (5, .int (nI k - 1))]) [2, 3, 4, 1, 0] rfl
  refine mv_loop (α := Nat × Int64) (fun x ls => x.1 ≤ k ∧ x.2 = mv_num f (o + x.1) (k - x.1) ∧ lv_has ls 6 [(0, .ref h0), (1, .int (nI o)), (2, .int (nI k)), (3, .long x.2), (5, .int (nI x.1 - 1))]) (fun x ls => F0 m 7 ls []) (fun x => x.1) ?_ (k, 0) ls ⟨Nat.le_refl k, by rw [Nat.sub_self]; rfl, hl⟩
  rintro ⟨j, v⟩ ls ⟨hj, ev, hl⟩ ih
  cases j with
  | zero =>
    have ev : v = mv_num f o k := ev
    have hl : lv_has ls 6 [(0, .ref h0), (1, .int (nI o)), (2, .int (nI k)), (3, .long v), (5, .int (nI 0 - 1))] := hl
    refine lv_iload hx hb dX1_number_7 (lv_at hl 4 rfl) ?_
    refine lv_if_lt (tgt := 38) hx hb dX1_number_9 (by decide) (fun c0 => ?_) (fun c0 => absurd (by decide +kernel) c0)
    refine lv_lload_n hx hb dX1_number_38 rfl (lv_at hl 3 rfl) ?_
    exact W.lret (v := v) hx hb hr (fun t ht hW => ⟨v, rfl, ev, ht⟩) (fun _ h => absurd h List.not_mem_nil) dX1_number_39
  | succ j =>
    have hj : j + 1 ≤ k := hj
    have ev : v = mv_num f (o + (j + 1)) (k - (j + 1)) := ev
    have hl : lv_has ls 6 [(0, .ref h0), (1, .int (nI o)), (2, .int (nI k)), (3, .long v), (5, .int (nI j))] := by rw [← nI_pred j]; exact hl
    refine lv_iload hx hb dX1_number_7 (lv_at hl 4 rfl) ?_
    refine lv_if_lt (tgt := 38) hx hb dX1_number_9 (by decide) (fun c0 => absurd c0 (nI_pos (by omega))) (fun c0 => ?_)
    refine lv_lload_n hx hb dX1_number_12 rfl (lv_at hl 3 rfl) ?_
    refine lv_bipush (v := 8) hx hb dX1_number_13 (by decide) ?_
    refine lv_lshl (v := (mv_ls v 8)) hx hb dX1_number_15 rfl ?_
    refine lv_aload_n hx hb dX1_number_16 rfl (lv_at hl 0 rfl) ?_
    refine va_get (D := (dC, dI)) (ci := 1) (v := .ref ha) (C := RX1) (T := TX1) (N := 2) hx hb hts in_X1 hown hK hP 0 rfl rfl 0 (by decide) (hts _ q100) (fun _ h9 => h9) rfl dX1_number_17 ?_
    refine lv_iload_n hx hb dX1_number_20 rfl (lv_at hl 1 rfl) ?_
    refine lv_iload hx hb dX1_number_21 (lv_at hl 4 rfl) ?_
    refine lv_iadd hx hb dX1_number_23 ?_
    refine mv_top (y := (nI (o + j))) (mv_add (a := o) (b := j) (by omega)) ?_
    refine mv_bald hx hb hK hP 1 0 rfl rfl (o + j) (by omega) (by omega) dX1_number_24 ?_
    refine lv_sipush (v := 255) hx hb dX1_number_25 (by decide) ?_
    refine lv_iand hx hb dX1_number_28 ?_
    refine lv_i2l (v := ((((f (o + j)) &&& 255)).toInt64)) hx hb dX1_number_29 rfl ?_
    refine lv_lor hx hb dX1_number_30 ?_
    refine lv_topl (fun f1 ef1 => ?_)
    refine lv_lstore_n (lv' := [(3, .long f1), (0, .ref h0), (1, .int (nI o)), (2, .int (nI k)), (5, .int (nI j))]) hx hb dX1_number_31 rfl hl (by decide) rfl (fun ls hl => ?_)
    refine lv_iinc (v := (nI j - 1)) (lv' := [(5, .int (nI j - 1)), (3, .long f1), (0, .ref h0), (1, .int (nI o)), (2, .int (nI k))]) hx hb dX1_number_32 hl (k := 4) rfl (mv_dec j) (by decide) rfl (fun ls hl => ?_)
    refine lv_goto (tgt := 7) hx hb dX1_number_35 (by decide) ?_
    have hl := lv_sub hl (l' := [(0, .ref h0), (1, .int (nI o)), (2, .int (nI k)), (3, .long f1), (5, .int (nI j - 1))]) [2, 3, 4, 1, 0] rfl
    exact ih (j, f1) ls ⟨by show j ≤ k; omega, by rw [ef1, ev]; exact mv_num_step f o k j (by omega), hl⟩ (by show j < j + 1; omega)
set_option maxHeartbeats 4000000 in
set_option maxRecDepth 100000 in
/-- MurmurDesk.word -/
theorem c_word (l : Launch) (dC : Nat → ClassId) (dI : Nat → Nat → Nat) (ha : Nat) (cA : ClassId) (f : Nat → Int32) (sz : Nat) (k : Nat) (hk : k + 4 ≤ 256) (w : Int32) : Met l yX0_word (ws_ yX0_word cX0_word 3 none) ({ frames := 0, cells := 0, slots := 0, locals := 0 }) (va_Pc [.ref ha, .int (nI k), .int w] (fun U => U.heap.size = sz ∧ va_P (dC, dI) vwCl [(ha, .inl (cA, 256, .inl f))] U.heap ∧ va_K (dC, dI) vwCl [(cA, .byte)] U ∧ va_D (fun _ => True) [(ha, .inl (cA, 256, .inl f))])) (va_Qv (fun _ : Unit => True) (fun _ t => va_P (dC, dI) vwCl [(ha, .inl (cA, 256, .inl (mv_p4 f k w)))] t.heap ∧ va_K (dC, dI) vwCl [(cA, .byte)] t ∧ va_D (va_A [(ha, .inl (cA, 256, .inl f))] sz) [(ha, .inl (cA, 256, .inl (mv_p4 f k w)))]) (va_A [(ha, .inl (cA, 256, .inl f))] sz)) 0 0 (va_A [(ha, .inl (cA, 256, .inl f))] sz) := by
  refine Met.ofW (cc := cX0_word) (maxL := 3) (ret := none) (by decide) rfl ?_
  intro p e s m args below meth c s₁ B hml hv
  obtain ⟨rfl, hsz, hP, hK, hD0⟩ := hv
  have hx := B.exec
  have hb := B.bytes
  have hr := B.returns
  have hts := atoms_spec (ws := ws_ yX0_word cX0_word 3 none) B.pre
  have hts : ∀ w ∈ lw_all, w.before _ s = true := fun w h => hts w (List.mem_cons_of_mem _ h)
  have hown : s.vm.findClass RX0 = some m.cls := findClass_of_methodNamed B.named
  have hlocks := B.notSynchronized
  subst hsz
  have hD := hD0.self (sz := s.heap.size)
  generalize hAe : va_A [(ha, .inl (cA, 256, .inl f))] s.heap.size = A at hD ⊢
  have hA : ∀ q : Nat, s.heap.size ≤ q → A q := fun q h => by rw [← hAe]; exact Or.inr h
  have hS : va_S A s.heap s.heap [] := va_S.rf
  have hP : va_P (dC, dI) vwCl [(ha, .inl (cA, 256, .inl f))] s.heap := hP
  have hl := lv_entry ([.ref ha, .int (nI k), .int w]) (n := 3) (Nat.le_of_ble_eq_true rfl)
  rw [lg_entry_eq]
  generalize (lg_sl ([.ref ha, .int (nI k), .int w]) ++ List.replicate (3 - (lg_sl ([.ref ha, .int (nI k), .int w])).length) Slot.unset).toArray = ls at hl ⊢
  have hl : lv_has ls 3 [(0, .ref ha), (1, .int (nI k)), (2, .int w)] := hl
  refine lv_aload_n hx hb dX0_word_0 rfl (lv_at hl 0 rfl) ?_
  refine lv_iload_n hx hb dX0_word_1 rfl (lv_at hl 1 rfl) ?_
  refine lv_iload_n hx hb dX0_word_2 rfl (lv_at hl 2 rfl) ?_
  refine lv_bipush (v := 24) hx hb dX0_word_3 (by decide) ?_
  refine lv_ishr hx hb dX0_word_5 ?_
  refine lv_i2b (v := ((w >>> ((24 : Int32) &&& 31)).toInt8.toInt32)) hx hb dX0_word_6 rfl ?_
  refine mv_bast hx hb hK hP hD hS 0 0 rfl rfl (k) (by omega) (by omega) dX0_word_7 (fun H locs hP hD hS => ?_)
  have hP : va_P (dC, dI) vwCl [(ha, .inl (cA, 256, .inl (upd f k (mv_bt w 24))))] H := hP
  have hD : va_D A [(ha, .inl (cA, 256, .inl (upd f k (mv_bt w 24))))] := hD
  refine lv_aload_n hx hb dX0_word_8 rfl (lv_at hl 0 rfl) ?_
  refine lv_iload_n hx hb dX0_word_9 rfl (lv_at hl 1 rfl) ?_
  refine lv_iconst (v := 1) hx hb dX0_word_10 (by decide) ?_
  refine lv_iadd hx hb dX0_word_11 ?_
  refine mv_top (y := (nI (k + 1))) (mv_add (a := k) (b := 1) (by omega)) ?_
  refine lv_iload_n hx hb dX0_word_12 rfl (lv_at hl 2 rfl) ?_
  refine lv_bipush (v := 16) hx hb dX0_word_13 (by decide) ?_
  refine lv_ishr hx hb dX0_word_15 ?_
  refine lv_i2b (v := ((w >>> ((16 : Int32) &&& 31)).toInt8.toInt32)) hx hb dX0_word_16 rfl ?_
  refine mv_bast hx hb hK hP hD hS 0 0 rfl rfl (k + 1) (by omega) (by omega) dX0_word_17 (fun H locs hP hD hS => ?_)
  have hP : va_P (dC, dI) vwCl [(ha, .inl (cA, 256, .inl (upd (upd f k (mv_bt w 24)) (k + 1) (mv_bt w 16))))] H := hP
  have hD : va_D A [(ha, .inl (cA, 256, .inl (upd (upd f k (mv_bt w 24)) (k + 1) (mv_bt w 16))))] := hD
  refine lv_aload_n hx hb dX0_word_18 rfl (lv_at hl 0 rfl) ?_
  refine lv_iload_n hx hb dX0_word_19 rfl (lv_at hl 1 rfl) ?_
  refine lv_iconst (v := 2) hx hb dX0_word_20 (by decide) ?_
  refine lv_iadd hx hb dX0_word_21 ?_
  refine mv_top (y := (nI (k + 2))) (mv_add (a := k) (b := 2) (by omega)) ?_
  refine lv_iload_n hx hb dX0_word_22 rfl (lv_at hl 2 rfl) ?_
  refine lv_bipush (v := 8) hx hb dX0_word_23 (by decide) ?_
  refine lv_ishr hx hb dX0_word_25 ?_
  refine lv_i2b (v := ((w >>> ((8 : Int32) &&& 31)).toInt8.toInt32)) hx hb dX0_word_26 rfl ?_
  refine mv_bast hx hb hK hP hD hS 0 0 rfl rfl (k + 2) (by omega) (by omega) dX0_word_27 (fun H locs hP hD hS => ?_)
  have hP : va_P (dC, dI) vwCl [(ha, .inl (cA, 256, .inl (upd (upd (upd f k (mv_bt w 24)) (k + 1) (mv_bt w 16)) (k + 2) (mv_bt w 8))))] H := hP
  have hD : va_D A [(ha, .inl (cA, 256, .inl (upd (upd (upd f k (mv_bt w 24)) (k + 1) (mv_bt w 16)) (k + 2) (mv_bt w 8))))] := hD
  refine lv_aload_n hx hb dX0_word_28 rfl (lv_at hl 0 rfl) ?_
  refine lv_iload_n hx hb dX0_word_29 rfl (lv_at hl 1 rfl) ?_
  refine lv_iconst (v := 3) hx hb dX0_word_30 (by decide) ?_
  refine lv_iadd hx hb dX0_word_31 ?_
  refine mv_top (y := (nI (k + 3))) (mv_add (a := k) (b := 3) (by omega)) ?_
  refine lv_iload_n hx hb dX0_word_32 rfl (lv_at hl 2 rfl) ?_
  refine lv_i2b (v := (w.toInt8.toInt32)) hx hb dX0_word_33 rfl ?_
  refine mv_top (y := ((w >>> ((0 : Int32) &&& 31)).toInt8.toInt32)) (by rw [sb_shr0]) ?_
  refine mv_bast hx hb hK hP hD hS 0 0 rfl rfl (k + 3) (by omega) (by omega) dX0_word_34 (fun H locs hP hD hS => ?_)
  have hP : va_P (dC, dI) vwCl [(ha, .inl (cA, 256, .inl (upd (upd (upd (upd f k (mv_bt w 24)) (k + 1) (mv_bt w 16)) (k + 2) (mv_bt w 8)) (k + 3) (mv_bt w 0))))] H := hP
  have hD : va_D A [(ha, .inl (cA, 256, .inl (upd (upd (upd (upd f k (mv_bt w 24)) (k + 1) (mv_bt w 16)) (k + 2) (mv_bt w 8)) (k + 3) (mv_bt w 0))))] := hD
  have hP9 := hP.sub (ws' := [(ha, .inl (cA, 256, .inl (mv_p4 f k w)))]) [0] rfl
  have hD9 := hD.sub (ws' := [(ha, .inl (cA, 256, .inl (mv_p4 f k w)))]) [0] (by decide) rfl
  have hK9 := hK.sub (tys' := [(cA, .byte)]) [0] rfl
  exact W.vret hx hb hr (fun t ht hW => ⟨⟨(), rfl, trivial, by rw [ht]; exact hP9, va_K.moved hW.alike hK9, hD9⟩, hS.F ht⟩) hS.2.2 dX0_word_35
end
section
/-! Murmur3.hash32 -/
set_option maxRecDepth 100000
set_option maxHeartbeats 4000000 in
set_option maxRecDepth 100000 in
/-- Murmur3.hash32 of whole words -/
theorem c_h32 (l : Launch) (dC : Nat → ClassId) (dI : Nat → Nat → Nat) (ha : Nat) (cA : ClassId) (NN : Nat) (f : Nat → Int32) (k : Nat) (hk : 4 * k ≤ NN) (hN : NN ≤ 256) (x : Int32) : Met l yX2_hash32 (ws_ yX2_hash32 cX2_hash32 8 (some .int)) ({ frames := 1, cells := 0, slots := 0, locals := 21 }) (va_Pc [.ref ha, .int (nI (4 * k)), .int x] (fun U => va_P (dC, dI) vwCl [(ha, .inl (cA, NN, .inl f))] U.heap ∧ va_K (dC, dI) vwCl [(cA, .byte)] U)) (vp_Si (fun r => r = mv_h32 f 0 k x)) 0 0 (fun _ => False) := by
  refine Met.ofW (cc := cX2_hash32) (maxL := 8) (ret := (some .int)) (by decide) rfl ?_
  intro p e s m args below meth c s₁ B hml hv
  obtain ⟨rfl, hP, hK⟩ := hv
  have hx := B.exec
  have hb := B.bytes
  have hr := B.returns
  have hts := atoms_spec (ws := ws_ yX2_hash32 cX2_hash32 8 (some .int)) B.pre
  have hts : ∀ w ∈ lw_all, w.before _ s = true := fun w h => hts w (List.mem_cons_of_mem _ h)
  have hown : s.vm.findClass RX2 = some m.cls := findClass_of_methodNamed B.named
  have hlocks := B.notSynchronized
  have hP : va_P (dC, dI) vwCl [(ha, .inl (cA, NN, .inl f))] s.heap := hP
  have hl := lv_entry ([.ref ha, .int (nI (4 * k)), .int x]) (n := 8) (Nat.le_of_ble_eq_true rfl)
  rw [lg_entry_eq]
  generalize (lg_sl ([.ref ha, .int (nI (4 * k)), .int x]) ++ List.replicate (8 - (lg_sl ([.ref ha, .int (nI (4 * k)), .int x])).length) Slot.unset).toArray = ls at hl ⊢
  have hl : lv_has ls 8 [(0, .ref ha), (1, .int (nI (4 * k))), (2, .int x)] := hl
  refine lv_iload_n hx hb dX2_hash32_0 rfl (lv_at hl 2 rfl) ?_
  refine lv_istore_n (lv' := [(3, .int x), (0, .ref ha), (1, .int (nI (4 * k))), (2, .int x)]) hx hb dX2_hash32_1 rfl hl (by decide) rfl (fun ls hl => ?_)
  refine lv_iload_n hx hb dX2_hash32_2 rfl (lv_at hl 2 rfl) ?_
  refine lv_iconst (v := 2) hx hb dX2_hash32_3 (by decide) ?_
  refine lv_ishr hx hb dX2_hash32_4 ?_
  refine mv_top (y := (nI k)) (mv_shr2 (by omega) (by omega)) ?_
  refine lv_istore (lv' := [(4, .int (nI k)), (3, .int x), (0, .ref ha), (1, .int (nI (4 * k))), (2, .int x)]) hx hb dX2_hash32_5 hl (by decide) rfl (fun ls hl => ?_)
  refine lv_iconst (v := 0) hx hb dX2_hash32_7 (by decide) ?_
  refine mv_top (y := (nI 0)) (rfl) ?_
  refine lv_istore (lv' := [(5, .int (nI 0)), (4, .int (nI k)), (3, .int x), (0, .ref ha), (1, .int (nI (4 * k))), (2, .int x)]) hx hb dX2_hash32_8 hl (by decide) rfl (fun ls hl => ?_)
  have hl := lv_sub hl (l' := [(0, .ref ha), (1, .int (nI (4 * k))), (2, .int x), (3, .int x), (4, .int (nI k)), (5, .int (nI 0))]) [3, 4, 5, 2, 1, 0] rfl
  refine mv_loop (α := Nat × Int32) (fun y ls => y.1 ≤ k ∧ y.2 = mv_b32 f 0 x y.1 ∧ lv_has ls 8 [(0, .ref ha), (1, .int (nI (4 * k))), (2, .int x), (3, .int y.2), (4, .int (nI k)), (5, .int (nI y.1))]) (fun y ls => F0 m 10 ls []) (fun y => k - y.1) ?_ (0, x) ls ⟨Nat.zero_le k, rfl, hl⟩
  rintro ⟨j, h⟩ ls ⟨hj, eh, hl⟩ ih
  have hj : j ≤ k := hj
  have eh : h = mv_b32 f 0 x j := eh
  have hl : lv_has ls 8 [(0, .ref ha), (1, .int (nI (4 * k))), (2, .int x), (3, .int h), (4, .int (nI k)), (5, .int (nI j))] := hl
  refine lv_iload hx hb dX2_hash32_10 (lv_at hl 5 rfl) ?_
  refine lv_iload hx hb dX2_hash32_12 (lv_at hl 4 rfl) ?_
  refine lv_icmp_ge (tgt := 121) hx hb dX2_hash32_14 (by decide) (fun c0 => ?_) (fun c0 => ?_)
  · have hjk : j = k := by rw [nI_leI (by omega) (by omega)] at c0; omega
    subst hjk
    refine lv_iload hx hb dX2_hash32_121 (lv_at hl 4 rfl) ?_
    refine lv_iconst (v := 2) hx hb dX2_hash32_123 (by decide) ?_
    refine lv_ishl hx hb dX2_hash32_124 ?_
    refine mv_top (y := (nI (4 * j))) (mv_shl2 (by omega) rfl) ?_
    refine lv_istore (lv' := [(5, .int (nI (4 * j))), (0, .ref ha), (1, .int (nI (4 * j))), (2, .int x), (3, .int h), (4, .int (nI j))]) hx hb dX2_hash32_125 hl (by decide) rfl (fun ls hl => ?_)
    refine lv_iconst (v := 0) hx hb dX2_hash32_127 (by decide) ?_
    refine lv_istore (lv' := [(6, .int 0), (5, .int (nI (4 * j))), (0, .ref ha), (1, .int (nI (4 * j))), (2, .int x), (3, .int h), (4, .int (nI j))]) hx hb dX2_hash32_128 hl (by decide) rfl (fun ls hl => ?_)
    refine lv_iload_n hx hb dX2_hash32_130 rfl (lv_at hl 3 rfl) ?_
    refine lv_iload hx hb dX2_hash32_131 (lv_at hl 1 rfl) ?_
    refine lv_isub hx hb dX2_hash32_133 ?_
    refine mv_top (y := (nI 0)) (mv_sub (a := 4 * j) (b := 4 * j) (by omega)) ?_
    refine lv_tableOut (tgt := 225) hx hb dX2_hash32_134 (Or.inl (by decide +kernel)) (by decide) ?_
    refine lv_iload_n hx hb dX2_hash32_225 rfl (lv_at hl 5 rfl) ?_
    refine lv_iload_n hx hb dX2_hash32_226 rfl (lv_at hl 3 rfl) ?_
    refine lv_ixor hx hb dX2_hash32_227 ?_
    refine lv_topi (fun f1 ef1 => ?_)
    refine lv_istore_n (lv' := [(3, .int f1), (6, .int 0), (5, .int (nI (4 * j))), (0, .ref ha), (1, .int (nI (4 * j))), (2, .int x), (4, .int (nI j))]) hx hb dX2_hash32_228 rfl hl (by decide) rfl (fun ls hl => ?_)
    refine lv_iload_n hx hb dX2_hash32_229 rfl (lv_at hl 0 rfl) ?_
    refine lv_iload_n hx hb dX2_hash32_230 rfl (lv_at hl 0 rfl) ?_
    refine lv_bipush (v := 16) hx hb dX2_hash32_231 (by decide) ?_
    refine lv_iushr (v := (mv_iu f1 16)) hx hb dX2_hash32_233 rfl ?_
    refine lv_ixor hx hb dX2_hash32_234 ?_
    refine lv_topi (fun f2 ef2 => ?_)
    refine lv_istore_n (lv' := [(3, .int f2), (6, .int 0), (5, .int (nI (4 * j))), (0, .ref ha), (1, .int (nI (4 * j))), (2, .int x), (4, .int (nI j))]) hx hb dX2_hash32_235 rfl hl (by decide) rfl (fun ls hl => ?_)
    refine lv_iload_n hx hb dX2_hash32_236 rfl (lv_at hl 0 rfl) ?_
    refine lv_ldc (v := (-2048144789)) hx hb hown (hts _ q70) dX2_hash32_237 ?_
    refine lv_imul hx hb dX2_hash32_239 ?_
    refine lv_topi (fun f3 ef3 => ?_)
    refine lv_istore_n (lv' := [(3, .int f3), (6, .int 0), (5, .int (nI (4 * j))), (0, .ref ha), (1, .int (nI (4 * j))), (2, .int x), (4, .int (nI j))]) hx hb dX2_hash32_240 rfl hl (by decide) rfl (fun ls hl => ?_)
    refine lv_iload_n hx hb dX2_hash32_241 rfl (lv_at hl 0 rfl) ?_
    refine lv_iload_n hx hb dX2_hash32_242 rfl (lv_at hl 0 rfl) ?_
    refine lv_bipush (v := 13) hx hb dX2_hash32_243 (by decide) ?_
    refine lv_iushr (v := (mv_iu f3 13)) hx hb dX2_hash32_245 rfl ?_
    refine lv_ixor hx hb dX2_hash32_246 ?_
    refine lv_topi (fun f4 ef4 => ?_)
    refine lv_istore_n (lv' := [(3, .int f4), (6, .int 0), (5, .int (nI (4 * j))), (0, .ref ha), (1, .int (nI (4 * j))), (2, .int x), (4, .int (nI j))]) hx hb dX2_hash32_247 rfl hl (by decide) rfl (fun ls hl => ?_)
    refine lv_iload_n hx hb dX2_hash32_248 rfl (lv_at hl 0 rfl) ?_
    refine lv_ldc (v := (-1028477387)) hx hb hown (hts _ q71) dX2_hash32_249 ?_
    refine lv_imul hx hb dX2_hash32_251 ?_
    refine lv_topi (fun f5 ef5 => ?_)
    refine lv_istore_n (lv' := [(3, .int f5), (6, .int 0), (5, .int (nI (4 * j))), (0, .ref ha), (1, .int (nI (4 * j))), (2, .int x), (4, .int (nI j))]) hx hb dX2_hash32_252 rfl hl (by decide) rfl (fun ls hl => ?_)
    refine lv_iload_n hx hb dX2_hash32_253 rfl (lv_at hl 0 rfl) ?_
    refine lv_iload_n hx hb dX2_hash32_254 rfl (lv_at hl 0 rfl) ?_
    refine lv_bipush (v := 16) hx hb dX2_hash32_255 (by decide) ?_
    refine lv_iushr (v := (mv_iu f5 16)) hx hb dX2_hash32_257 rfl ?_
    refine lv_ixor hx hb dX2_hash32_258 ?_
    refine lv_topi (fun f6 ef6 => ?_)
    refine lv_istore_n (lv' := [(3, .int f6), (6, .int 0), (5, .int (nI (4 * j))), (0, .ref ha), (1, .int (nI (4 * j))), (2, .int x), (4, .int (nI j))]) hx hb dX2_hash32_259 rfl hl (by decide) rfl (fun ls hl => ?_)
    refine lv_iload_n hx hb dX2_hash32_260 rfl (lv_at hl 0 rfl) ?_
    exact W.iret (v := f6) hx hb hr (fun t ht hW => ⟨f6, rfl, by subst ef6; subst ef5; subst ef4; subst ef3; subst ef2; subst ef1; subst eh; rfl, ht⟩) (fun _ h => absurd h List.not_mem_nil) dX2_hash32_261
  · have hjk : j < k := by rw [nI_leI (by omega) (by omega)] at c0; omega
    refine lv_iload hx hb dX2_hash32_17 (lv_at hl 5 rfl) ?_
    refine lv_iconst (v := 2) hx hb dX2_hash32_19 (by decide) ?_
    refine lv_ishl hx hb dX2_hash32_20 ?_
    refine mv_top (y := (nI (4 * j))) (mv_shl2 (by omega) rfl) ?_
    refine lv_istore (lv' := [(6, .int (nI (4 * j))), (0, .ref ha), (1, .int (nI (4 * k))), (2, .int x), (3, .int h), (4, .int (nI k)), (5, .int (nI j))]) hx hb dX2_hash32_21 hl (by decide) rfl (fun ls hl => ?_)
    refine lv_aload_n hx hb dX2_hash32_23 rfl (lv_at hl 1 rfl) ?_
    refine lv_iload hx hb dX2_hash32_24 (lv_at hl 0 rfl) ?_
    refine mv_bald hx hb hK hP 0 0 rfl rfl (4 * j) (by omega) (by omega) dX2_hash32_26 ?_
    refine lv_sipush (v := 255) hx hb dX2_hash32_27 (by decide) ?_
    refine lv_iand hx hb dX2_hash32_30 ?_
    refine lv_aload_n hx hb dX2_hash32_31 rfl (lv_at hl 1 rfl) ?_
    refine lv_iload hx hb dX2_hash32_32 (lv_at hl 0 rfl) ?_
    refine lv_iconst (v := 1) hx hb dX2_hash32_34 (by decide) ?_
    refine lv_iadd hx hb dX2_hash32_35 ?_
    refine mv_top (y := (nI (4 * j + 1))) (mv_add (a := 4 * j) (b := 1) (by omega)) ?_
    refine mv_bald hx hb hK hP 0 0 rfl rfl (4 * j + 1) (by omega) (by omega) dX2_hash32_36 ?_
    refine lv_sipush (v := 255) hx hb dX2_hash32_37 (by decide) ?_
    refine lv_iand hx hb dX2_hash32_40 ?_
    refine lv_bipush (v := 8) hx hb dX2_hash32_41 (by decide) ?_
    refine lv_ishl hx hb dX2_hash32_43 ?_
    refine lv_ior hx hb dX2_hash32_44 ?_
    refine lv_aload_n hx hb dX2_hash32_45 rfl (lv_at hl 1 rfl) ?_
    refine lv_iload hx hb dX2_hash32_46 (lv_at hl 0 rfl) ?_
    refine lv_iconst (v := 2) hx hb dX2_hash32_48 (by decide) ?_
    refine lv_iadd hx hb dX2_hash32_49 ?_
    refine mv_top (y := (nI (4 * j + 2))) (mv_add (a := 4 * j) (b := 2) (by omega)) ?_
    refine mv_bald hx hb hK hP 0 0 rfl rfl (4 * j + 2) (by omega) (by omega) dX2_hash32_50 ?_
    refine lv_sipush (v := 255) hx hb dX2_hash32_51 (by decide) ?_
    refine lv_iand hx hb dX2_hash32_54 ?_
    refine lv_bipush (v := 16) hx hb dX2_hash32_55 (by decide) ?_
    refine lv_ishl hx hb dX2_hash32_57 ?_
    refine lv_ior hx hb dX2_hash32_58 ?_
    refine lv_aload_n hx hb dX2_hash32_59 rfl (lv_at hl 1 rfl) ?_
    refine lv_iload hx hb dX2_hash32_60 (lv_at hl 0 rfl) ?_
    refine lv_iconst (v := 3) hx hb dX2_hash32_62 (by decide) ?_
    refine lv_iadd hx hb dX2_hash32_63 ?_
    refine mv_top (y := (nI (4 * j + 3))) (mv_add (a := 4 * j) (b := 3) (by omega)) ?_
    refine mv_bald hx hb hK hP 0 0 rfl rfl (4 * j + 3) (by omega) (by omega) dX2_hash32_64 ?_
    refine lv_sipush (v := 255) hx hb dX2_hash32_65 (by decide) ?_
    refine lv_iand hx hb dX2_hash32_68 ?_
    refine lv_bipush (v := 24) hx hb dX2_hash32_69 (by decide) ?_
    refine lv_ishl hx hb dX2_hash32_71 ?_
    refine lv_ior hx hb dX2_hash32_72 ?_
    refine lv_topi (fun f7 ef7 => ?_)
    refine lv_istore (lv' := [(7, .int f7), (6, .int (nI (4 * j))), (0, .ref ha), (1, .int (nI (4 * k))), (2, .int x), (3, .int h), (4, .int (nI k)), (5, .int (nI j))]) hx hb dX2_hash32_73 hl (by decide) rfl (fun ls hl => ?_)
    refine lv_iload hx hb dX2_hash32_75 (lv_at hl 0 rfl) ?_
    refine lv_ldc (v := (-862048943)) hx hb hown (hts _ q64) dX2_hash32_77 ?_
    refine lv_imul hx hb dX2_hash32_79 ?_
    refine lv_topi (fun f8 ef8 => ?_)
    refine lv_istore (lv' := [(7, .int f8), (6, .int (nI (4 * j))), (0, .ref ha), (1, .int (nI (4 * k))), (2, .int x), (3, .int h), (4, .int (nI k)), (5, .int (nI j))]) hx hb dX2_hash32_80 hl (by decide) rfl (fun ls hl => ?_)
    refine lv_iload hx hb dX2_hash32_82 (lv_at hl 0 rfl) ?_
    refine lv_bipush (v := 15) hx hb dX2_hash32_84 (by decide) ?_
    refine vp_callSi (W.runS (As := [.int f8, .int 15]) (rest := []) ⟨hx, hb, hml, hown, hts⟩ (c_rotI l f8 15) (va_cwS 2 hts (lw_S q65 q66 q15 q67) rfl rfl rfl (by decide +kernel) ⟨Nat.le_of_ble_eq_true rfl, Nat.le_of_ble_eq_true rfl⟩) ⟨fun a U g mk q => q, fun U hU hW => ⟨rfl, trivial⟩⟩ rfl rfl hl.1 rfl (lv_room (Nat.le_of_ble_eq_true rfl)) dX2_hash32_86 ⟨Nat.le_of_ble_eq_true rfl, Nat.le_of_ble_eq_true rfl⟩) (fun r9 hr9 => ?_)
    have hr9 : r9 = mv_jI f8 15 := hr9
    refine lv_istore (lv' := [(7, .int r9), (6, .int (nI (4 * j))), (0, .ref ha), (1, .int (nI (4 * k))), (2, .int x), (3, .int h), (4, .int (nI k)), (5, .int (nI j))]) hx hb dX2_hash32_89 hl (by decide) rfl (fun ls hl => ?_)
    refine lv_iload hx hb dX2_hash32_91 (lv_at hl 0 rfl) ?_
    refine lv_ldc (v := 461845907) hx hb hown (hts _ q68) dX2_hash32_93 ?_
    refine lv_imul hx hb dX2_hash32_95 ?_
    refine lv_topi (fun f10 ef10 => ?_)
    refine lv_istore (lv' := [(7, .int f10), (6, .int (nI (4 * j))), (0, .ref ha), (1, .int (nI (4 * k))), (2, .int x), (3, .int h), (4, .int (nI k)), (5, .int (nI j))]) hx hb dX2_hash32_96 hl (by decide) rfl (fun ls hl => ?_)
    refine lv_iload_n hx hb dX2_hash32_98 rfl (lv_at hl 5 rfl) ?_
    refine lv_iload hx hb dX2_hash32_99 (lv_at hl 0 rfl) ?_
    refine lv_ixor hx hb dX2_hash32_101 ?_
    refine lv_topi (fun f11 ef11 => ?_)
    refine lv_istore_n (lv' := [(3, .int f11), (7, .int f10), (6, .int (nI (4 * j))), (0, .ref ha), (1, .int (nI (4 * k))), (2, .int x), (4, .int (nI k)), (5, .int (nI j))]) hx hb dX2_hash32_102 rfl hl (by decide) rfl (fun ls hl => ?_)
    refine lv_iload_n hx hb dX2_hash32_103 rfl (lv_at hl 0 rfl) ?_
    refine lv_bipush (v := 13) hx hb dX2_hash32_104 (by decide) ?_
    refine vp_callSi (W.runS (As := [.int f11, .int 13]) (rest := []) ⟨hx, hb, hml, hown, hts⟩ (c_rotI l f11 13) (va_cwS 2 hts (lw_S q65 q66 q15 q67) rfl rfl rfl (by decide +kernel) ⟨Nat.le_of_ble_eq_true rfl, Nat.le_of_ble_eq_true rfl⟩) ⟨fun a U g mk q => q, fun U hU hW => ⟨rfl, trivial⟩⟩ rfl rfl hl.1 rfl (lv_room (Nat.le_of_ble_eq_true rfl)) dX2_hash32_106 ⟨Nat.le_of_ble_eq_true rfl, Nat.le_of_ble_eq_true rfl⟩) (fun r12 hr12 => ?_)
    have hr12 : r12 = mv_jI f11 13 := hr12
    refine lv_iconst (v := 5) hx hb dX2_hash32_109 (by decide) ?_
    refine lv_imul hx hb dX2_hash32_110 ?_
    refine lv_ldc (v := (-430675100)) hx hb hown (hts _ q69) dX2_hash32_111 ?_
    refine lv_iadd hx hb dX2_hash32_113 ?_
    refine lv_topi (fun f13 ef13 => ?_)
    refine lv_istore_n (lv' := [(3, .int f13), (7, .int f10), (6, .int (nI (4 * j))), (0, .ref ha), (1, .int (nI (4 * k))), (2, .int x), (4, .int (nI k)), (5, .int (nI j))]) hx hb dX2_hash32_114 rfl hl (by decide) rfl (fun ls hl => ?_)
    refine lv_iinc (v := (nI (j + 1))) (lv' := [(5, .int (nI (j + 1))), (3, .int f13), (7, .int f10), (6, .int (nI (4 * j))), (0, .ref ha), (1, .int (nI (4 * k))), (2, .int x), (4, .int (nI k))]) hx hb dX2_hash32_115 hl (k := 7) rfl (mv_inc j) (by decide) rfl (fun ls hl => ?_)
    refine lv_goto (tgt := 10) hx hb dX2_hash32_118 (by decide) ?_
    have hl := lv_sub hl (l' := [(0, .ref ha), (1, .int (nI (4 * k))), (2, .int x), (3, .int f13), (4, .int (nI k)), (5, .int (nI (j + 1)))]) [4, 5, 6, 1, 7, 0] rfl
    have e9 : f13 = mv_mix h (mv_w4 f (4 * j)) := by rw [ef13, hr12, ef11, ef10, hr9, ef8, ef7, mv_jI13, mv_jI15]; rfl
    exact ih (j + 1, f13) ls ⟨hjk, by show f13 = mv_mix (mv_b32 f 0 x j) (mv_num f (0 + 4 * j) 4).toInt32; rw [e9, eh, mv_w4_num, Nat.zero_add], hl⟩ (by show k - (j + 1) < k - j; omega)
end
section
/-! Murmur3.hash128 -/
set_option maxRecDepth 100000
set_option maxHeartbeats 4000000 in
set_option maxRecDepth 100000 in
/-- Murmur3.hash128 -/
theorem c_h128 (l : Launch) (dC : Nat → ClassId) (dI : Nat → Nat → Nat) (ha : Nat) (cA : ClassId) (NN : Nat) (f : Nat → Int32) (sz : Nat) (hN : NN ≤ 256) (x : Int32) : Met l yX2_hash128 (ws_ yX2_hash128 cX2_hash128 15 (some (.array .long))) ({ frames := 1, cells := 1, slots := 2, locals := 22 }) (va_Pc [.ref ha, .int (nI 0), .int (nI NN), .int x] (fun U => U.heap.size = sz ∧ va_P (dC, dI) vwCl [(ha, .inl (cA, NN, .inl f))] U.heap ∧ va_K (dC, dI) vwCl [(cA, .byte)] U ∧ va_D (fun _ => True) [(ha, .inl (cA, NN, .inl f))])) (va_Qr (fun u : ClassId × (Nat → Int64) => u.2 0 = (mv_h128 f 0 NN x.toInt64).1 ∧ u.2 1 = (mv_h128 f 0 NN x.toInt64).2) (fun u a t => va_P (dC, dI) vwCl [(ha, .inl (cA, NN, .inl f)), (a, .inl (u.1, 2, .inr (.inl u.2)))] t.heap ∧ va_K (dC, dI) vwCl [(cA, .byte), (u.1, .long)] t ∧ va_D (va_A [(ha, .inl (cA, NN, .inl f))] sz) [(ha, .inl (cA, NN, .inl f)), (a, .inl (u.1, 2, .inr (.inl u.2)))]) (va_A [(ha, .inl (cA, NN, .inl f))] sz)) 1 2 (va_A [(ha, .inl (cA, NN, .inl f))] sz) := by
  refine Met.ofW (cc := cX2_hash128) (maxL := 15) (ret := (some (.array .long))) (by decide) rfl ?_
  intro p e s m args below meth c s₁ B hml hv
  obtain ⟨rfl, hsz, hP, hK, hD0⟩ := hv
  have hx := B.exec
  have hb := B.bytes
  have hr := B.returns
  have hts := atoms_spec (ws := ws_ yX2_hash128 cX2_hash128 15 (some (.array .long))) B.pre
  have hts : ∀ w ∈ lw_all, w.before _ s = true := fun w h => hts w (List.mem_cons_of_mem _ h)
  have hown : s.vm.findClass RX2 = some m.cls := findClass_of_methodNamed B.named
  have hlocks := B.notSynchronized
  subst hsz
  have hD := hD0.self (sz := s.heap.size)
  generalize hAe : va_A [(ha, .inl (cA, NN, .inl f))] s.heap.size = A at hD ⊢
  have hA : ∀ q : Nat, s.heap.size ≤ q → A q := fun q h => by rw [← hAe]; exact Or.inr h
  have hS : va_S A s.heap s.heap [] := va_S.rf
  have hP : va_P (dC, dI) vwCl [(ha, .inl (cA, NN, .inl f))] s.heap := hP
  have hl := lv_entry ([.ref ha, .int (nI 0), .int (nI NN), .int x]) (n := 15) (Nat.le_of_ble_eq_true rfl)
  rw [lg_entry_eq]
  generalize (lg_sl ([.ref ha, .int (nI 0), .int (nI NN), .int x]) ++ List.replicate (15 - (lg_sl ([.ref ha, .int (nI 0), .int (nI NN), .int x])).length) Slot.unset).toArray = ls at hl ⊢
  have hl : lv_has ls 15 [(0, .ref ha), (1, .int (nI 0)), (2, .int (nI NN)), (3, .int x)] := hl
  obtain ⟨qq, hq⟩ : ∃ qq, qq = 16 * (NN / 16) := ⟨_, rfl⟩
  obtain ⟨rr, hrr⟩ : ∃ rr, rr = NN % 16 := ⟨_, rfl⟩
  have hqr : qq + rr = NN := by omega
  have hr16 : rr < 16 := by omega
  obtain ⟨x8, hx8⟩ : ∃ x8 : Int64, x8 = x.toInt64 := ⟨_, rfl⟩
  refine lv_iload_n hx hb dX2_hash128_0 rfl (lv_at hl 3 rfl) ?_
  refine lv_i2l (v := x8) hx hb dX2_hash128_1 hx8.symm ?_
  refine lv_lstore (lv' := [(4, .long x8), (0, .ref ha), (1, .int (nI 0)), (2, .int (nI NN)), (3, .int x)]) hx hb dX2_hash128_2 hl (by decide) rfl (fun ls hl => ?_)
  refine lv_iload_n hx hb dX2_hash128_4 rfl (lv_at hl 4 rfl) ?_
  refine lv_i2l (v := x8) hx hb dX2_hash128_5 hx8.symm ?_
  refine lv_lstore (lv' := [(6, .long x8), (4, .long x8), (0, .ref ha), (1, .int (nI 0)), (2, .int (nI NN)), (3, .int x)]) hx hb dX2_hash128_6 hl (by decide) rfl (fun ls hl => ?_)
  refine lv_iload_n hx hb dX2_hash128_8 rfl (lv_at hl 4 rfl) ?_
  refine lv_iconst (v := 4) hx hb dX2_hash128_9 (by decide) ?_
  refine lv_ishr hx hb dX2_hash128_10 ?_
  refine mv_top (y := (nI (NN / 16))) (mv_shr4 (by omega) (by omega)) ?_
  refine lv_istore (lv' := [(8, .int (nI (NN / 16))), (6, .long x8), (4, .long x8), (0, .ref ha), (1, .int (nI 0)), (2, .int (nI NN)), (3, .int x)]) hx hb dX2_hash128_11 hl (by decide) rfl (fun ls hl => ?_)
  refine lv_iconst (v := 0) hx hb dX2_hash128_13 (by decide) ?_
  refine mv_top (y := (nI 0)) (rfl) ?_
  refine lv_istore (lv' := [(9, .int (nI 0)), (8, .int (nI (NN / 16))), (6, .long x8), (4, .long x8), (0, .ref ha), (1, .int (nI 0)), (2, .int (nI NN)), (3, .int x)]) hx hb dX2_hash128_14 hl (by decide) rfl (fun ls hl => ?_)
  have hl := lv_sub hl (l' := [(0, .ref ha), (1, .int (nI 0)), (2, .int (nI NN)), (3, .int x), (4, .long x8), (6, .long x8), (8, .int (nI (NN / 16))), (9, .int (nI 0))]) [4, 5, 6, 7, 3, 2, 1, 0] rfl
  refine mv_loop (α := Nat × Int64 × Int64) (fun y ls => y.1 ≤ NN / 16 ∧ y.2.1 = (mv_b128 f 0 x8 y.1).1 ∧ y.2.2 = (mv_b128 f 0 x8 y.1).2 ∧ lv_has ls 15 [(0, .ref ha), (1, .int (nI 0)), (2, .int (nI NN)), (3, .int x), (4, .long y.2.1), (6, .long y.2.2), (8, .int (nI (NN / 16))), (9, .int (nI y.1))]) (fun y ls => F0 m 16 ls []) (fun y => NN / 16 - y.1) ?_ (0, x8, x8) ls ⟨Nat.zero_le _, rfl, rfl, hl⟩
  rintro ⟨j, a, b⟩ ls ⟨hj, ea, eb, hl⟩ ih
  have hj : j ≤ NN / 16 := hj
  have ea : a = (mv_b128 f 0 x8 j).1 := ea
  have eb : b = (mv_b128 f 0 x8 j).2 := eb
  have hl : lv_has ls 15 [(0, .ref ha), (1, .int (nI 0)), (2, .int (nI NN)), (3, .int x), (4, .long a), (6, .long b), (8, .int (nI (NN / 16))), (9, .int (nI j))] := hl
  refine lv_iload hx hb dX2_hash128_16 (lv_at hl 7 rfl) ?_
  refine lv_iload hx hb dX2_hash128_18 (lv_at hl 6 rfl) ?_
  refine lv_icmp_ge (tgt := 431) hx hb dX2_hash128_20 (by decide) (fun c0 => ?_) (fun c0 => ?_)
  · have hjk : j = NN / 16 := by rw [nI_leI (by omega) (by omega)] at c0; omega
    refine lv_lconst (v := 0) hx hb dX2_hash128_431 (by decide) ?_
    refine lv_lstore (lv' := [(9, .long 0), (0, .ref ha), (1, .int (nI 0)), (2, .int (nI NN)), (3, .int x), (4, .long a), (6, .long b), (8, .int (nI (NN / 16)))]) hx hb dX2_hash128_432 hl (by decide) rfl (fun ls hl => ?_)
    refine lv_lconst (v := 0) hx hb dX2_hash128_434 (by decide) ?_
    refine lv_lstore (lv' := [(11, .long 0), (9, .long 0), (0, .ref ha), (1, .int (nI 0)), (2, .int (nI NN)), (3, .int x), (4, .long a), (6, .long b), (8, .int (nI (NN / 16)))]) hx hb dX2_hash128_435 hl (by decide) rfl (fun ls hl => ?_)
    refine lv_iload hx hb dX2_hash128_437 (lv_at hl 8 rfl) ?_
    refine lv_iconst (v := 4) hx hb dX2_hash128_439 (by decide) ?_
    refine lv_ishl hx hb dX2_hash128_440 ?_
    refine mv_top (y := (nI qq)) (mv_shl4 (by omega) (by omega)) ?_
    refine lv_istore (lv' := [(13, .int (nI qq)), (11, .long 0), (9, .long 0), (0, .ref ha), (1, .int (nI 0)), (2, .int (nI NN)), (3, .int x), (4, .long a), (6, .long b), (8, .int (nI (NN / 16)))]) hx hb dX2_hash128_441 hl (by decide) rfl (fun ls hl => ?_)
    refine lv_iload_n hx hb dX2_hash128_443 rfl (lv_at hl 5 rfl) ?_
    refine lv_iload hx hb dX2_hash128_444 (lv_at hl 0 rfl) ?_
    refine lv_isub hx hb dX2_hash128_446 ?_
    refine mv_top (y := (nI rr)) (mv_sub (a := NN) (b := qq) (by omega)) ?_
    obtain ⟨mm, hmm⟩ : ∃ mm, mm = (if 8 < rr then 8 else rr) := ⟨_, rfl⟩
    have eE1 : 0 < rr → mv_t1 f qq rr a = a ^^^ mv_s1 (mv_num f qq mm) := fun h => by unfold mv_t1; rw [if_pos h, hmm]
    have eE2 : 8 < rr → mv_t2 f qq rr b = b ^^^ mv_s2 (mv_num f (qq + 8) (rr - 8)) := fun h => by unfold mv_t2; rw [if_pos h]
    have eE2n : ¬ 8 < rr → mv_t2 f qq rr b = b := fun h => by unfold mv_t2; rw [if_neg h]
    refine mv_cut (α := Unit) (fun _ ls => lv_has ls 15 [(0, .ref ha), (1, .int (nI 0)), (2, .int (nI NN)), (4, .long (mv_t1 f qq rr a)), (6, .long (mv_t2 f qq rr b))]) (fun _ ls => F0 m 900 ls []) (fun _ ls hl => ?_) (fun hE => ?_)
    · obtain ⟨E1, hE1⟩ : ∃ E1, E1 = mv_t1 f qq rr a := ⟨_, rfl⟩
      obtain ⟨E2, hE2⟩ : ∃ E2, E2 = mv_t2 f qq rr b := ⟨_, rfl⟩
      have hl : lv_has ls 15 [(0, .ref ha), (1, .int (nI 0)), (2, .int (nI NN)), (4, .long E1), (6, .long E2)] := by rw [hE1, hE2]; exact hl
      refine lv_lload hx hb dX2_hash128_900 (lv_at hl 3 rfl) ?_
      refine lv_iload_n hx hb dX2_hash128_902 rfl (lv_at hl 2 rfl) ?_
      refine lv_i2l (v := (((nI NN)).toInt64)) hx hb dX2_hash128_903 rfl ?_
      refine lv_lxor hx hb dX2_hash128_904 ?_
      refine lv_topl (fun f1 ef1 => ?_)
      refine lv_lstore (lv' := [(4, .long f1), (0, .ref ha), (1, .int (nI 0)), (2, .int (nI NN)), (6, .long E2)]) hx hb dX2_hash128_905 hl (by decide) rfl (fun ls hl => ?_)
      refine lv_lload hx hb dX2_hash128_907 (lv_at hl 4 rfl) ?_
      refine lv_iload_n hx hb dX2_hash128_909 rfl (lv_at hl 3 rfl) ?_
      refine lv_i2l (v := (((nI NN)).toInt64)) hx hb dX2_hash128_910 rfl ?_
      refine lv_lxor hx hb dX2_hash128_911 ?_
      refine lv_topl (fun f2 ef2 => ?_)
      refine lv_lstore (lv' := [(6, .long f2), (4, .long f1), (0, .ref ha), (1, .int (nI 0)), (2, .int (nI NN))]) hx hb dX2_hash128_912 hl (by decide) rfl (fun ls hl => ?_)
      refine lv_lload hx hb dX2_hash128_914 (lv_at hl 1 rfl) ?_
      refine lv_lload hx hb dX2_hash128_916 (lv_at hl 0 rfl) ?_
      refine lv_ladd hx hb dX2_hash128_918 ?_
      refine lv_topl (fun f3 ef3 => ?_)
      refine lv_lstore (lv' := [(4, .long f3), (6, .long f2), (0, .ref ha), (1, .int (nI 0)), (2, .int (nI NN))]) hx hb dX2_hash128_919 hl (by decide) rfl (fun ls hl => ?_)
      refine lv_lload hx hb dX2_hash128_921 (lv_at hl 1 rfl) ?_
      refine lv_lload hx hb dX2_hash128_923 (lv_at hl 0 rfl) ?_
      refine lv_ladd hx hb dX2_hash128_925 ?_
      refine lv_topl (fun f4 ef4 => ?_)
      refine lv_lstore (lv' := [(6, .long f4), (4, .long f3), (0, .ref ha), (1, .int (nI 0)), (2, .int (nI NN))]) hx hb dX2_hash128_926 hl (by decide) rfl (fun ls hl => ?_)
      refine lv_lload hx hb dX2_hash128_928 (lv_at hl 1 rfl) ?_
      refine vp_callSl (W.runS (As := [.long f3]) (rest := []) ⟨hx, hb, hml, hown, hts⟩ (c_fmix l f3) (va_cwS 1 hts (lw_S q88 q89 q14 q90) rfl rfl rfl (by decide +kernel) ⟨Nat.le_of_ble_eq_true rfl, Nat.le_of_ble_eq_true rfl⟩) ⟨fun a U g mk q => q, fun U hU hW => ⟨rfl, trivial⟩⟩ rfl rfl hl.1 rfl (lv_room (Nat.le_of_ble_eq_true rfl)) dX2_hash128_930 ⟨Nat.le_of_ble_eq_true rfl, Nat.le_of_ble_eq_true rfl⟩) (fun r5 hr5 => ?_)
      have hr5 : r5 = mv_end f3 := hr5
      refine lv_lstore (lv' := [(4, .long r5), (6, .long f4), (0, .ref ha), (1, .int (nI 0)), (2, .int (nI NN))]) hx hb dX2_hash128_933 hl (by decide) rfl (fun ls hl => ?_)
      refine lv_lload hx hb dX2_hash128_935 (lv_at hl 1 rfl) ?_
      refine vp_callSl (W.runS (As := [.long f4]) (rest := []) ⟨hx, hb, hml, hown, hts⟩ (c_fmix l f4) (va_cwS 1 hts (lw_S q88 q89 q14 q90) rfl rfl rfl (by decide +kernel) ⟨Nat.le_of_ble_eq_true rfl, Nat.le_of_ble_eq_true rfl⟩) ⟨fun a U g mk q => q, fun U hU hW => ⟨rfl, trivial⟩⟩ rfl rfl hl.1 rfl (lv_room (Nat.le_of_ble_eq_true rfl)) dX2_hash128_937 ⟨Nat.le_of_ble_eq_true rfl, Nat.le_of_ble_eq_true rfl⟩) (fun r6 hr6 => ?_)
      have hr6 : r6 = mv_end f4 := hr6
      refine lv_lstore (lv' := [(6, .long r6), (4, .long r5), (0, .ref ha), (1, .int (nI 0)), (2, .int (nI NN))]) hx hb dX2_hash128_940 hl (by decide) rfl (fun ls hl => ?_)
      refine lv_lload hx hb dX2_hash128_942 (lv_at hl 1 rfl) ?_
      refine lv_lload hx hb dX2_hash128_944 (lv_at hl 0 rfl) ?_
      refine lv_ladd hx hb dX2_hash128_946 ?_
      refine lv_topl (fun f7 ef7 => ?_)
      refine lv_lstore (lv' := [(4, .long f7), (6, .long r6), (0, .ref ha), (1, .int (nI 0)), (2, .int (nI NN))]) hx hb dX2_hash128_947 hl (by decide) rfl (fun ls hl => ?_)
      refine lv_lload hx hb dX2_hash128_949 (lv_at hl 1 rfl) ?_
      refine lv_lload hx hb dX2_hash128_951 (lv_at hl 0 rfl) ?_
      refine lv_ladd hx hb dX2_hash128_953 ?_
      refine lv_topl (fun f8 ef8 => ?_)
      refine lv_lstore (lv' := [(6, .long f8), (4, .long f7), (0, .ref ha), (1, .int (nI 0)), (2, .int (nI NN))]) hx hb dX2_hash128_954 hl (by decide) rfl (fun ls hl => ?_)
      refine lv_iconst (v := 2) hx hb dX2_hash128_956 (by decide) ?_
      refine va_newa (atype := .long) (ty := .long) (N' := 2) (a0 := (2, .inr (.inl (fun _ => 0)))) hx hb (hts _ q93) rfl hK hP hD hS hA (fun _ => rfl) (by decide +kernel) (by decide +kernel) (by decide) (Nat.le_of_ble_eq_true rfl) (Nat.le_of_ble_eq_true rfl) dX2_hash128_957 (fun qa cL H hK hP hD hS => ?_)
      have hP : va_P (dC, dI) vwCl [(ha, .inl (cA, NN, .inl f)), (qa, .inl (cL, 2, .inr (.inl (fun _ => 0))))] H := hP
      have hD : va_D A [(ha, .inl (cA, NN, .inl f)), (qa, .inl (cL, 2, .inr (.inl (fun _ => 0))))] := hD
      have hK : va_K (dC, dI) vwCl [(cA, .byte), (cL, .long)] s := hK
      refine lv_dup hx hb dX2_hash128_959 rfl ?_
      refine lv_iconst (v := 0) hx hb dX2_hash128_960 (by decide) ?_
      refine mv_top (y := (nI 0)) (rfl) ?_
      refine lv_lload hx hb dX2_hash128_961 (lv_at hl 1 rfl) ?_
      refine mv_last hx hb hK hP hD hS 1 1 rfl rfl (0) (by omega) (by omega) dX2_hash128_963 (fun H locs hP hD hS => ?_)
      have hP : va_P (dC, dI) vwCl [(ha, .inl (cA, NN, .inl f)), (qa, .inl (cL, 2, .inr (.inl (vp_updL (fun _ => 0) 0 f7))))] H := hP
      have hD : va_D A [(ha, .inl (cA, NN, .inl f)), (qa, .inl (cL, 2, .inr (.inl (vp_updL (fun _ => 0) 0 f7))))] := hD
      refine lv_dup hx hb dX2_hash128_964 rfl ?_
      refine lv_iconst (v := 1) hx hb dX2_hash128_965 (by decide) ?_
      refine mv_top (y := (nI 1)) (rfl) ?_
      refine lv_lload hx hb dX2_hash128_966 (lv_at hl 0 rfl) ?_
      refine mv_last hx hb hK hP hD hS 1 1 rfl rfl (1) (by omega) (by omega) dX2_hash128_968 (fun H locs hP hD hS => ?_)
      have hP : va_P (dC, dI) vwCl [(ha, .inl (cA, NN, .inl f)), (qa, .inl (cL, 2, .inr (.inl (vp_updL (vp_updL (fun _ => 0) 0 f7) 1 f8))))] H := hP
      have hD : va_D A [(ha, .inl (cA, NN, .inl f)), (qa, .inl (cL, 2, .inr (.inl (vp_updL (vp_updL (fun _ => 0) 0 f7) 1 f8))))] := hD
      have eF : (f7, f8) = (mv_h128 f 0 NN x.toInt64) := by subst hE1; subst hE2; rw [hjk] at ea eb; show _ = mv_fin (mv_t1 f (0 + 16 * (NN / 16)) (NN % 16) (mv_b128 f 0 x.toInt64 (NN / 16)).1) (mv_t2 f (0 + 16 * (NN / 16)) (NN % 16) (mv_b128 f 0 x.toInt64 (NN / 16)).2) (nI NN).toInt64; rw [Nat.zero_add, ← hq, ← hrr, ← hx8, ← ea, ← eb]; subst ef8; subst ef7; subst hr6; subst hr5; subst ef4; subst ef3; subst ef2; subst ef1; rfl
      have hP9 := hP.sub (ws' := [(ha, .inl (cA, NN, .inl f)), (qa, .inl (cL, 2, .inr (.inl (vp_updL (vp_updL (fun _ => 0) 0 f7) 1 f8))))]) [0, 1] rfl
      have hD9 := hD.sub (ws' := [(ha, .inl (cA, NN, .inl f)), (qa, .inl (cL, 2, .inr (.inl (vp_updL (vp_updL (fun _ => 0) 0 f7) 1 f8))))]) [0, 1] (by decide) rfl
      have hK9 := hK.sub (tys' := [(cA, .byte), (cL, .long)]) [0, 1] rfl
      exact W.aret (v := .ref qa) hx hb hr (Or.inr ⟨_, rfl⟩) (Or.inr ⟨_, rfl⟩) (fun t ht hW => ⟨⟨(cL, (vp_updL (vp_updL (fun _ => 0) 0 f7) 1 f8)), qa, rfl, ⟨by rw [← eF]; rfl, by rw [← eF]; rfl⟩, by rw [ht]; exact hP9, va_K.moved hW.alike hK9, hD9⟩, hS.F ht⟩) hS.2.2 dX2_hash128_969
    refine mv_cut (α := Int64) (fun k ls => (0 < rr ∧ k = mv_num f qq mm) ∧ lv_has ls 15 [(0, .ref ha), (1, .int (nI 0)), (2, .int (nI NN)), (4, .long a), (6, .long (mv_t2 f qq rr b)), (9, .long k), (13, .int (nI qq))]) (fun _ ls => F0 m 868 ls []) (fun k ls hk => ?_) (fun hA0 => ?_)
    · obtain ⟨hk, hl⟩ := hk
      have hl : lv_has ls 15 [(0, .ref ha), (1, .int (nI 0)), (2, .int (nI NN)), (4, .long a), (6, .long (mv_t2 f qq rr b)), (9, .long k), (13, .int (nI qq))] := hl
      refine lv_lload hx hb dX2_hash128_868 (lv_at hl 5 rfl) ?_
      refine lv_ldc2 (v := (-8663945395140668459)) hx hb hown (hts _ q80) dX2_hash128_870 ?_
      refine lv_lmul hx hb dX2_hash128_873 ?_
      refine lv_topl (fun f9 ef9 => ?_)
      refine lv_lstore (lv' := [(9, .long f9), (0, .ref ha), (1, .int (nI 0)), (2, .int (nI NN)), (4, .long a), (6, .long (mv_t2 f qq rr b)), (13, .int (nI qq))]) hx hb dX2_hash128_874 hl (by decide) rfl (fun ls hl => ?_)
      refine lv_lload hx hb dX2_hash128_876 (lv_at hl 0 rfl) ?_
      refine lv_bipush (v := 31) hx hb dX2_hash128_878 (by decide) ?_
      refine vp_callSl (W.runS (As := [.long f9, .int 31]) (rest := []) ⟨hx, hb, hml, hown, hts⟩ (c_rotL l f9 31) (va_cwS 2 hts (lw_S q81 q82 q16 q83) rfl rfl rfl (by decide +kernel) ⟨Nat.le_of_ble_eq_true rfl, Nat.le_of_ble_eq_true rfl⟩) ⟨fun a U g mk q => q, fun U hU hW => ⟨rfl, trivial⟩⟩ rfl rfl hl.1 rfl (lv_room (Nat.le_of_ble_eq_true rfl)) dX2_hash128_880 ⟨Nat.le_of_ble_eq_true rfl, Nat.le_of_ble_eq_true rfl⟩) (fun r10 hr10 => ?_)
      have hr10 : r10 = mv_jL f9 31 := hr10
      refine lv_lstore (lv' := [(9, .long r10), (0, .ref ha), (1, .int (nI 0)), (2, .int (nI NN)), (4, .long a), (6, .long (mv_t2 f qq rr b)), (13, .int (nI qq))]) hx hb dX2_hash128_883 hl (by decide) rfl (fun ls hl => ?_)
      refine lv_lload hx hb dX2_hash128_885 (lv_at hl 0 rfl) ?_
      refine lv_ldc2 (v := 5545529020109919103) hx hb hown (hts _ q84) dX2_hash128_887 ?_
      refine lv_lmul hx hb dX2_hash128_890 ?_
      refine lv_topl (fun f11 ef11 => ?_)
      refine lv_lstore (lv' := [(9, .long f11), (0, .ref ha), (1, .int (nI 0)), (2, .int (nI NN)), (4, .long a), (6, .long (mv_t2 f qq rr b)), (13, .int (nI qq))]) hx hb dX2_hash128_891 hl (by decide) rfl (fun ls hl => ?_)
      refine lv_lload hx hb dX2_hash128_893 (lv_at hl 4 rfl) ?_
      refine lv_lload hx hb dX2_hash128_895 (lv_at hl 0 rfl) ?_
      refine lv_lxor hx hb dX2_hash128_897 ?_
      refine lv_topl (fun f12 ef12 => ?_)
      refine lv_lstore (lv' := [(4, .long f12), (9, .long f11), (0, .ref ha), (1, .int (nI 0)), (2, .int (nI NN)), (6, .long (mv_t2 f qq rr b)), (13, .int (nI qq))]) hx hb dX2_hash128_898 hl (by decide) rfl (fun ls hl => ?_)
      have hl := lv_sub hl (l' := [(0, .ref ha), (1, .int (nI 0)), (2, .int (nI NN)), (4, .long f12), (6, .long (mv_t2 f qq rr b))]) [2, 3, 4, 0, 5] rfl
      exact hE () ls (by rw [eE1 hk.1, show a ^^^ mv_s1 (mv_num f qq mm) = f12 from by rw [← hk.2, ef12, ef11, hr10, ef9, mv_jL31]; rfl]; exact hl)
    refine mv_cut (α := Int64) (fun k ls => (1 ≤ rr ∧ mv_xk f qq 1 k = mv_num f qq mm) ∧ lv_has ls 15 [(0, .ref ha), (1, .int (nI 0)), (2, .int (nI NN)), (4, .long a), (6, .long (mv_t2 f qq rr b)), (9, .long k), (13, .int (nI qq))]) (fun _ ls => F0 m 852 ls []) (fun k ls hk => ?_) (fun hA1 => ?_)
    · obtain ⟨hk, hl⟩ := hk
      have hl : lv_has ls 15 [(0, .ref ha), (1, .int (nI 0)), (2, .int (nI NN)), (4, .long a), (6, .long (mv_t2 f qq rr b)), (9, .long k), (13, .int (nI qq))] := hl
      refine lv_lload hx hb dX2_hash128_852 (lv_at hl 5 rfl) ?_
      refine lv_aload_n hx hb dX2_hash128_854 rfl (lv_at hl 0 rfl) ?_
      refine lv_iload_n hx hb dX2_hash128_855 rfl (lv_at hl 1 rfl) ?_
      refine lv_iload hx hb dX2_hash128_856 (lv_at hl 6 rfl) ?_
      refine lv_iadd hx hb dX2_hash128_858 ?_
      refine mv_top (y := (nI qq)) (mv_add (a := 0) (b := qq) (by omega)) ?_
      refine mv_bald hx hb hK hP 0 0 rfl rfl (qq) (by omega) (by omega) dX2_hash128_859 ?_
      refine lv_sipush (v := 255) hx hb dX2_hash128_860 (by decide) ?_
      refine lv_iand hx hb dX2_hash128_863 ?_
      refine lv_i2l (v := ((((f qq) &&& 255)).toInt64)) hx hb dX2_hash128_864 rfl ?_
      refine lv_lxor hx hb dX2_hash128_865 ?_
      refine lv_topl (fun f13 ef13 => ?_)
      refine lv_lstore (lv' := [(9, .long f13), (0, .ref ha), (1, .int (nI 0)), (2, .int (nI NN)), (4, .long a), (6, .long (mv_t2 f qq rr b)), (13, .int (nI qq))]) hx hb dX2_hash128_866 hl (by decide) rfl (fun ls hl => ?_)
      have hl := lv_sub hl (l' := [(0, .ref ha), (1, .int (nI 0)), (2, .int (nI NN)), (4, .long a), (6, .long (mv_t2 f qq rr b)), (9, .long f13), (13, .int (nI qq))]) [1, 2, 3, 4, 5, 0, 6] rfl
      have e9 : f13 = mv_num f qq mm := by rw [← hk.2, ef13]; show _ = k ^^^ mv_tm f qq 0; rw [mv_tm0]; rfl
      exact hA0 f13 ls ⟨⟨by omega, e9⟩, hl⟩
    refine mv_cut (α := Int64) (fun k ls => (2 ≤ rr ∧ mv_xk f qq 2 k = mv_num f qq mm) ∧ lv_has ls 15 [(0, .ref ha), (1, .int (nI 0)), (2, .int (nI NN)), (4, .long a), (6, .long (mv_t2 f qq rr b)), (9, .long k), (13, .int (nI qq))]) (fun _ ls => F0 m 831 ls []) (fun k ls hk => ?_) (fun hA2 => ?_)
    · obtain ⟨hk, hl⟩ := hk
      have hl : lv_has ls 15 [(0, .ref ha), (1, .int (nI 0)), (2, .int (nI NN)), (4, .long a), (6, .long (mv_t2 f qq rr b)), (9, .long k), (13, .int (nI qq))] := hl
      refine lv_lload hx hb dX2_hash128_831 (lv_at hl 5 rfl) ?_
      refine lv_aload_n hx hb dX2_hash128_833 rfl (lv_at hl 0 rfl) ?_
      refine lv_iload_n hx hb dX2_hash128_834 rfl (lv_at hl 1 rfl) ?_
      refine lv_iload hx hb dX2_hash128_835 (lv_at hl 6 rfl) ?_
      refine lv_iadd hx hb dX2_hash128_837 ?_
      refine mv_top (y := (nI qq)) (mv_add (a := 0) (b := qq) (by omega)) ?_
      refine lv_iconst (v := 1) hx hb dX2_hash128_838 (by decide) ?_
      refine lv_iadd hx hb dX2_hash128_839 ?_
      refine mv_top (y := (nI (qq + 1))) (mv_add (a := qq) (b := 1) (by omega)) ?_
      refine mv_bald hx hb hK hP 0 0 rfl rfl (qq + 1) (by omega) (by omega) dX2_hash128_840 ?_
      refine lv_sipush (v := 255) hx hb dX2_hash128_841 (by decide) ?_
      refine lv_iand hx hb dX2_hash128_844 ?_
      refine lv_i2l (v := ((((f (qq + 1)) &&& 255)).toInt64)) hx hb dX2_hash128_845 rfl ?_
      refine lv_bipush (v := 8) hx hb dX2_hash128_846 (by decide) ?_
      refine lv_lshl (v := (mv_ls ((((f (qq + 1)) &&& 255)).toInt64) 8)) hx hb dX2_hash128_848 rfl ?_
      refine lv_lxor hx hb dX2_hash128_849 ?_
      refine lv_topl (fun f14 ef14 => ?_)
      refine lv_lstore (lv' := [(9, .long f14), (0, .ref ha), (1, .int (nI 0)), (2, .int (nI NN)), (4, .long a), (6, .long (mv_t2 f qq rr b)), (13, .int (nI qq))]) hx hb dX2_hash128_850 hl (by decide) rfl (fun ls hl => ?_)
      have hl := lv_sub hl (l' := [(0, .ref ha), (1, .int (nI 0)), (2, .int (nI NN)), (4, .long a), (6, .long (mv_t2 f qq rr b)), (9, .long f14), (13, .int (nI qq))]) [1, 2, 3, 4, 5, 0, 6] rfl
      have e9 : mv_xk f qq 1 f14 = mv_num f qq mm := by rw [← hk.2, ef14]; rfl
      exact hA1 f14 ls ⟨⟨by omega, e9⟩, hl⟩
    refine mv_cut (α := Int64) (fun k ls => (3 ≤ rr ∧ mv_xk f qq 3 k = mv_num f qq mm) ∧ lv_has ls 15 [(0, .ref ha), (1, .int (nI 0)), (2, .int (nI NN)), (4, .long a), (6, .long (mv_t2 f qq rr b)), (9, .long k), (13, .int (nI qq))]) (fun _ ls => F0 m 810 ls []) (fun k ls hk => ?_) (fun hA3 => ?_)
    · obtain ⟨hk, hl⟩ := hk
      have hl : lv_has ls 15 [(0, .ref ha), (1, .int (nI 0)), (2, .int (nI NN)), (4, .long a), (6, .long (mv_t2 f qq rr b)), (9, .long k), (13, .int (nI qq))] := hl
      refine lv_lload hx hb dX2_hash128_810 (lv_at hl 5 rfl) ?_
      refine lv_aload_n hx hb dX2_hash128_812 rfl (lv_at hl 0 rfl) ?_
      refine lv_iload_n hx hb dX2_hash128_813 rfl (lv_at hl 1 rfl) ?_
      refine lv_iload hx hb dX2_hash128_814 (lv_at hl 6 rfl) ?_
      refine lv_iadd hx hb dX2_hash128_816 ?_
      refine mv_top (y := (nI qq)) (mv_add (a := 0) (b := qq) (by omega)) ?_
      refine lv_iconst (v := 2) hx hb dX2_hash128_817 (by decide) ?_
      refine lv_iadd hx hb dX2_hash128_818 ?_
      refine mv_top (y := (nI (qq + 2))) (mv_add (a := qq) (b := 2) (by omega)) ?_
      refine mv_bald hx hb hK hP 0 0 rfl rfl (qq + 2) (by omega) (by omega) dX2_hash128_819 ?_
      refine lv_sipush (v := 255) hx hb dX2_hash128_820 (by decide) ?_
      refine lv_iand hx hb dX2_hash128_823 ?_
      refine lv_i2l (v := ((((f (qq + 2)) &&& 255)).toInt64)) hx hb dX2_hash128_824 rfl ?_
      refine lv_bipush (v := 16) hx hb dX2_hash128_825 (by decide) ?_
      refine lv_lshl (v := (mv_ls ((((f (qq + 2)) &&& 255)).toInt64) 16)) hx hb dX2_hash128_827 rfl ?_
      refine lv_lxor hx hb dX2_hash128_828 ?_
      refine lv_topl (fun f15 ef15 => ?_)
      refine lv_lstore (lv' := [(9, .long f15), (0, .ref ha), (1, .int (nI 0)), (2, .int (nI NN)), (4, .long a), (6, .long (mv_t2 f qq rr b)), (13, .int (nI qq))]) hx hb dX2_hash128_829 hl (by decide) rfl (fun ls hl => ?_)
      have hl := lv_sub hl (l' := [(0, .ref ha), (1, .int (nI 0)), (2, .int (nI NN)), (4, .long a), (6, .long (mv_t2 f qq rr b)), (9, .long f15), (13, .int (nI qq))]) [1, 2, 3, 4, 5, 0, 6] rfl
      have e9 : mv_xk f qq 2 f15 = mv_num f qq mm := by rw [← hk.2, ef15]; rfl
      exact hA2 f15 ls ⟨⟨by omega, e9⟩, hl⟩
    refine mv_cut (α := Int64) (fun k ls => (4 ≤ rr ∧ mv_xk f qq 4 k = mv_num f qq mm) ∧ lv_has ls 15 [(0, .ref ha), (1, .int (nI 0)), (2, .int (nI NN)), (4, .long a), (6, .long (mv_t2 f qq rr b)), (9, .long k), (13, .int (nI qq))]) (fun _ ls => F0 m 789 ls []) (fun k ls hk => ?_) (fun hA4 => ?_)
    · obtain ⟨hk, hl⟩ := hk
      have hl : lv_has ls 15 [(0, .ref ha), (1, .int (nI 0)), (2, .int (nI NN)), (4, .long a), (6, .long (mv_t2 f qq rr b)), (9, .long k), (13, .int (nI qq))] := hl
      refine lv_lload hx hb dX2_hash128_789 (lv_at hl 5 rfl) ?_
      refine lv_aload_n hx hb dX2_hash128_791 rfl (lv_at hl 0 rfl) ?_
      refine lv_iload_n hx hb dX2_hash128_792 rfl (lv_at hl 1 rfl) ?_
      refine lv_iload hx hb dX2_hash128_793 (lv_at hl 6 rfl) ?_
      refine lv_iadd hx hb dX2_hash128_795 ?_
      refine mv_top (y := (nI qq)) (mv_add (a := 0) (b := qq) (by omega)) ?_
      refine lv_iconst (v := 3) hx hb dX2_hash128_796 (by decide) ?_
      refine lv_iadd hx hb dX2_hash128_797 ?_
      refine mv_top (y := (nI (qq + 3))) (mv_add (a := qq) (b := 3) (by omega)) ?_
      refine mv_bald hx hb hK hP 0 0 rfl rfl (qq + 3) (by omega) (by omega) dX2_hash128_798 ?_
      refine lv_sipush (v := 255) hx hb dX2_hash128_799 (by decide) ?_
      refine lv_iand hx hb dX2_hash128_802 ?_
      refine lv_i2l (v := ((((f (qq + 3)) &&& 255)).toInt64)) hx hb dX2_hash128_803 rfl ?_
      refine lv_bipush (v := 24) hx hb dX2_hash128_804 (by decide) ?_
      refine lv_lshl (v := (mv_ls ((((f (qq + 3)) &&& 255)).toInt64) 24)) hx hb dX2_hash128_806 rfl ?_
      refine lv_lxor hx hb dX2_hash128_807 ?_
      refine lv_topl (fun f16 ef16 => ?_)
      refine lv_lstore (lv' := [(9, .long f16), (0, .ref ha), (1, .int (nI 0)), (2, .int (nI NN)), (4, .long a), (6, .long (mv_t2 f qq rr b)), (13, .int (nI qq))]) hx hb dX2_hash128_808 hl (by decide) rfl (fun ls hl => ?_)
      have hl := lv_sub hl (l' := [(0, .ref ha), (1, .int (nI 0)), (2, .int (nI NN)), (4, .long a), (6, .long (mv_t2 f qq rr b)), (9, .long f16), (13, .int (nI qq))]) [1, 2, 3, 4, 5, 0, 6] rfl
      have e9 : mv_xk f qq 3 f16 = mv_num f qq mm := by rw [← hk.2, ef16]; rfl
      exact hA3 f16 ls ⟨⟨by omega, e9⟩, hl⟩
    refine mv_cut (α := Int64) (fun k ls => (5 ≤ rr ∧ mv_xk f qq 5 k = mv_num f qq mm) ∧ lv_has ls 15 [(0, .ref ha), (1, .int (nI 0)), (2, .int (nI NN)), (4, .long a), (6, .long (mv_t2 f qq rr b)), (9, .long k), (13, .int (nI qq))]) (fun _ ls => F0 m 768 ls []) (fun k ls hk => ?_) (fun hA5 => ?_)
    · obtain ⟨hk, hl⟩ := hk
      have hl : lv_has ls 15 [(0, .ref ha), (1, .int (nI 0)), (2, .int (nI NN)), (4, .long a), (6, .long (mv_t2 f qq rr b)), (9, .long k), (13, .int (nI qq))] := hl
      refine lv_lload hx hb dX2_hash128_768 (lv_at hl 5 rfl) ?_
      refine lv_aload_n hx hb dX2_hash128_770 rfl (lv_at hl 0 rfl) ?_
      refine lv_iload_n hx hb dX2_hash128_771 rfl (lv_at hl 1 rfl) ?_
      refine lv_iload hx hb dX2_hash128_772 (lv_at hl 6 rfl) ?_
      refine lv_iadd hx hb dX2_hash128_774 ?_
      refine mv_top (y := (nI qq)) (mv_add (a := 0) (b := qq) (by omega)) ?_
      refine lv_iconst (v := 4) hx hb dX2_hash128_775 (by decide) ?_
      refine lv_iadd hx hb dX2_hash128_776 ?_
      refine mv_top (y := (nI (qq + 4))) (mv_add (a := qq) (b := 4) (by omega)) ?_
      refine mv_bald hx hb hK hP 0 0 rfl rfl (qq + 4) (by omega) (by omega) dX2_hash128_777 ?_
      refine lv_sipush (v := 255) hx hb dX2_hash128_778 (by decide) ?_
      refine lv_iand hx hb dX2_hash128_781 ?_
      refine lv_i2l (v := ((((f (qq + 4)) &&& 255)).toInt64)) hx hb dX2_hash128_782 rfl ?_
      refine lv_bipush (v := 32) hx hb dX2_hash128_783 (by decide) ?_
      refine lv_lshl (v := (mv_ls ((((f (qq + 4)) &&& 255)).toInt64) 32)) hx hb dX2_hash128_785 rfl ?_
      refine lv_lxor hx hb dX2_hash128_786 ?_
      refine lv_topl (fun f17 ef17 => ?_)
      refine lv_lstore (lv' := [(9, .long f17), (0, .ref ha), (1, .int (nI 0)), (2, .int (nI NN)), (4, .long a), (6, .long (mv_t2 f qq rr b)), (13, .int (nI qq))]) hx hb dX2_hash128_787 hl (by decide) rfl (fun ls hl => ?_)
      have hl := lv_sub hl (l' := [(0, .ref ha), (1, .int (nI 0)), (2, .int (nI NN)), (4, .long a), (6, .long (mv_t2 f qq rr b)), (9, .long f17), (13, .int (nI qq))]) [1, 2, 3, 4, 5, 0, 6] rfl
      have e9 : mv_xk f qq 4 f17 = mv_num f qq mm := by rw [← hk.2, ef17]; rfl
      exact hA4 f17 ls ⟨⟨by omega, e9⟩, hl⟩
    refine mv_cut (α := Int64) (fun k ls => (6 ≤ rr ∧ mv_xk f qq 6 k = mv_num f qq mm) ∧ lv_has ls 15 [(0, .ref ha), (1, .int (nI 0)), (2, .int (nI NN)), (4, .long a), (6, .long (mv_t2 f qq rr b)), (9, .long k), (13, .int (nI qq))]) (fun _ ls => F0 m 747 ls []) (fun k ls hk => ?_) (fun hA6 => ?_)
    · obtain ⟨hk, hl⟩ := hk
      have hl : lv_has ls 15 [(0, .ref ha), (1, .int (nI 0)), (2, .int (nI NN)), (4, .long a), (6, .long (mv_t2 f qq rr b)), (9, .long k), (13, .int (nI qq))] := hl
      refine lv_lload hx hb dX2_hash128_747 (lv_at hl 5 rfl) ?_
      refine lv_aload_n hx hb dX2_hash128_749 rfl (lv_at hl 0 rfl) ?_
      refine lv_iload_n hx hb dX2_hash128_750 rfl (lv_at hl 1 rfl) ?_
      refine lv_iload hx hb dX2_hash128_751 (lv_at hl 6 rfl) ?_
      refine lv_iadd hx hb dX2_hash128_753 ?_
      refine mv_top (y := (nI qq)) (mv_add (a := 0) (b := qq) (by omega)) ?_
      refine lv_iconst (v := 5) hx hb dX2_hash128_754 (by decide) ?_
      refine lv_iadd hx hb dX2_hash128_755 ?_
      refine mv_top (y := (nI (qq + 5))) (mv_add (a := qq) (b := 5) (by omega)) ?_
      refine mv_bald hx hb hK hP 0 0 rfl rfl (qq + 5) (by omega) (by omega) dX2_hash128_756 ?_
      refine lv_sipush (v := 255) hx hb dX2_hash128_757 (by decide) ?_
      refine lv_iand hx hb dX2_hash128_760 ?_
      refine lv_i2l (v := ((((f (qq + 5)) &&& 255)).toInt64)) hx hb dX2_hash128_761 rfl ?_
      refine lv_bipush (v := 40) hx hb dX2_hash128_762 (by decide) ?_
      refine lv_lshl (v := (mv_ls ((((f (qq + 5)) &&& 255)).toInt64) 40)) hx hb dX2_hash128_764 rfl ?_
      refine lv_lxor hx hb dX2_hash128_765 ?_
      refine lv_topl (fun f18 ef18 => ?_)
      refine lv_lstore (lv' := [(9, .long f18), (0, .ref ha), (1, .int (nI 0)), (2, .int (nI NN)), (4, .long a), (6, .long (mv_t2 f qq rr b)), (13, .int (nI qq))]) hx hb dX2_hash128_766 hl (by decide) rfl (fun ls hl => ?_)
      have hl := lv_sub hl (l' := [(0, .ref ha), (1, .int (nI 0)), (2, .int (nI NN)), (4, .long a), (6, .long (mv_t2 f qq rr b)), (9, .long f18), (13, .int (nI qq))]) [1, 2, 3, 4, 5, 0, 6] rfl
      have e9 : mv_xk f qq 5 f18 = mv_num f qq mm := by rw [← hk.2, ef18]; rfl
      exact hA5 f18 ls ⟨⟨by omega, e9⟩, hl⟩
    refine mv_cut (α := Int64) (fun k ls => (7 ≤ rr ∧ mv_xk f qq 7 k = mv_num f qq mm) ∧ lv_has ls 15 [(0, .ref ha), (1, .int (nI 0)), (2, .int (nI NN)), (4, .long a), (6, .long (mv_t2 f qq rr b)), (9, .long k), (13, .int (nI qq))]) (fun _ ls => F0 m 725 ls []) (fun k ls hk => ?_) (fun hA7 => ?_)
    · obtain ⟨hk, hl⟩ := hk
      have hl : lv_has ls 15 [(0, .ref ha), (1, .int (nI 0)), (2, .int (nI NN)), (4, .long a), (6, .long (mv_t2 f qq rr b)), (9, .long k), (13, .int (nI qq))] := hl
      refine lv_lload hx hb dX2_hash128_725 (lv_at hl 5 rfl) ?_
      refine lv_aload_n hx hb dX2_hash128_727 rfl (lv_at hl 0 rfl) ?_
      refine lv_iload_n hx hb dX2_hash128_728 rfl (lv_at hl 1 rfl) ?_
      refine lv_iload hx hb dX2_hash128_729 (lv_at hl 6 rfl) ?_
      refine lv_iadd hx hb dX2_hash128_731 ?_
      refine mv_top (y := (nI qq)) (mv_add (a := 0) (b := qq) (by omega)) ?_
      refine lv_bipush (v := 6) hx hb dX2_hash128_732 (by decide) ?_
      refine lv_iadd hx hb dX2_hash128_734 ?_
      refine mv_top (y := (nI (qq + 6))) (mv_add (a := qq) (b := 6) (by omega)) ?_
      refine mv_bald hx hb hK hP 0 0 rfl rfl (qq + 6) (by omega) (by omega) dX2_hash128_735 ?_
      refine lv_sipush (v := 255) hx hb dX2_hash128_736 (by decide) ?_
      refine lv_iand hx hb dX2_hash128_739 ?_
      refine lv_i2l (v := ((((f (qq + 6)) &&& 255)).toInt64)) hx hb dX2_hash128_740 rfl ?_
      refine lv_bipush (v := 48) hx hb dX2_hash128_741 (by decide) ?_
      refine lv_lshl (v := (mv_ls ((((f (qq + 6)) &&& 255)).toInt64) 48)) hx hb dX2_hash128_743 rfl ?_
      refine lv_lxor hx hb dX2_hash128_744 ?_
      refine lv_topl (fun f19 ef19 => ?_)
      refine lv_lstore (lv' := [(9, .long f19), (0, .ref ha), (1, .int (nI 0)), (2, .int (nI NN)), (4, .long a), (6, .long (mv_t2 f qq rr b)), (13, .int (nI qq))]) hx hb dX2_hash128_745 hl (by decide) rfl (fun ls hl => ?_)
      have hl := lv_sub hl (l' := [(0, .ref ha), (1, .int (nI 0)), (2, .int (nI NN)), (4, .long a), (6, .long (mv_t2 f qq rr b)), (9, .long f19), (13, .int (nI qq))]) [1, 2, 3, 4, 5, 0, 6] rfl
      have e9 : mv_xk f qq 6 f19 = mv_num f qq mm := by rw [← hk.2, ef19]; rfl
      exact hA6 f19 ls ⟨⟨by omega, e9⟩, hl⟩
    refine mv_cut (α := Int64) (fun k ls => (8 ≤ rr ∧ mv_xk f qq 8 k = mv_num f qq mm) ∧ lv_has ls 15 [(0, .ref ha), (1, .int (nI 0)), (2, .int (nI NN)), (4, .long a), (6, .long (mv_t2 f qq rr b)), (9, .long k), (13, .int (nI qq))]) (fun _ ls => F0 m 703 ls []) (fun k ls hk => ?_) (fun hA8 => ?_)
    · obtain ⟨hk, hl⟩ := hk
      have hl : lv_has ls 15 [(0, .ref ha), (1, .int (nI 0)), (2, .int (nI NN)), (4, .long a), (6, .long (mv_t2 f qq rr b)), (9, .long k), (13, .int (nI qq))] := hl
      refine lv_lload hx hb dX2_hash128_703 (lv_at hl 5 rfl) ?_
      refine lv_aload_n hx hb dX2_hash128_705 rfl (lv_at hl 0 rfl) ?_
      refine lv_iload_n hx hb dX2_hash128_706 rfl (lv_at hl 1 rfl) ?_
      refine lv_iload hx hb dX2_hash128_707 (lv_at hl 6 rfl) ?_
      refine lv_iadd hx hb dX2_hash128_709 ?_
      refine mv_top (y := (nI qq)) (mv_add (a := 0) (b := qq) (by omega)) ?_
      refine lv_bipush (v := 7) hx hb dX2_hash128_710 (by decide) ?_
      refine lv_iadd hx hb dX2_hash128_712 ?_
      refine mv_top (y := (nI (qq + 7))) (mv_add (a := qq) (b := 7) (by omega)) ?_
      refine mv_bald hx hb hK hP 0 0 rfl rfl (qq + 7) (by omega) (by omega) dX2_hash128_713 ?_
      refine lv_sipush (v := 255) hx hb dX2_hash128_714 (by decide) ?_
      refine lv_iand hx hb dX2_hash128_717 ?_
      refine lv_i2l (v := ((((f (qq + 7)) &&& 255)).toInt64)) hx hb dX2_hash128_718 rfl ?_
      refine lv_bipush (v := 56) hx hb dX2_hash128_719 (by decide) ?_
      refine lv_lshl (v := (mv_ls ((((f (qq + 7)) &&& 255)).toInt64) 56)) hx hb dX2_hash128_721 rfl ?_
      refine lv_lxor hx hb dX2_hash128_722 ?_
      refine lv_topl (fun f20 ef20 => ?_)
      refine lv_lstore (lv' := [(9, .long f20), (0, .ref ha), (1, .int (nI 0)), (2, .int (nI NN)), (4, .long a), (6, .long (mv_t2 f qq rr b)), (13, .int (nI qq))]) hx hb dX2_hash128_723 hl (by decide) rfl (fun ls hl => ?_)
      have hl := lv_sub hl (l' := [(0, .ref ha), (1, .int (nI 0)), (2, .int (nI NN)), (4, .long a), (6, .long (mv_t2 f qq rr b)), (9, .long f20), (13, .int (nI qq))]) [1, 2, 3, 4, 5, 0, 6] rfl
      have e9 : mv_xk f qq 7 f20 = mv_num f qq mm := by rw [← hk.2, ef20]; rfl
      exact hA7 f20 ls ⟨⟨by omega, e9⟩, hl⟩
    refine mv_cut (α := Int64) (fun k ls => (8 < rr ∧ k = mv_num f (qq + 8) (rr - 8)) ∧ lv_has ls 15 [(0, .ref ha), (1, .int (nI 0)), (2, .int (nI NN)), (4, .long a), (6, .long b), (9, .long 0), (11, .long k), (13, .int (nI qq))]) (fun _ ls => F0 m 671 ls []) (fun k ls hk => ?_) (fun hB0 => ?_)
    · obtain ⟨hk, hl⟩ := hk
      have hl : lv_has ls 15 [(0, .ref ha), (1, .int (nI 0)), (2, .int (nI NN)), (4, .long a), (6, .long b), (9, .long 0), (11, .long k), (13, .int (nI qq))] := hl
      refine lv_lload hx hb dX2_hash128_671 (lv_at hl 6 rfl) ?_
      refine lv_ldc2 (v := 5545529020109919103) hx hb hown (hts _ q84) dX2_hash128_673 ?_
      refine lv_lmul hx hb dX2_hash128_676 ?_
      refine lv_topl (fun f21 ef21 => ?_)
      refine lv_lstore (lv' := [(11, .long f21), (0, .ref ha), (1, .int (nI 0)), (2, .int (nI NN)), (4, .long a), (6, .long b), (9, .long 0), (13, .int (nI qq))]) hx hb dX2_hash128_677 hl (by decide) rfl (fun ls hl => ?_)
      refine lv_lload hx hb dX2_hash128_679 (lv_at hl 0 rfl) ?_
      refine lv_bipush (v := 33) hx hb dX2_hash128_681 (by decide) ?_
      refine vp_callSl (W.runS (As := [.long f21, .int 33]) (rest := []) ⟨hx, hb, hml, hown, hts⟩ (c_rotL l f21 33) (va_cwS 2 hts (lw_S q81 q82 q16 q83) rfl rfl rfl (by decide +kernel) ⟨Nat.le_of_ble_eq_true rfl, Nat.le_of_ble_eq_true rfl⟩) ⟨fun a U g mk q => q, fun U hU hW => ⟨rfl, trivial⟩⟩ rfl rfl hl.1 rfl (lv_room (Nat.le_of_ble_eq_true rfl)) dX2_hash128_683 ⟨Nat.le_of_ble_eq_true rfl, Nat.le_of_ble_eq_true rfl⟩) (fun r22 hr22 => ?_)
      have hr22 : r22 = mv_jL f21 33 := hr22
      refine lv_lstore (lv' := [(11, .long r22), (0, .ref ha), (1, .int (nI 0)), (2, .int (nI NN)), (4, .long a), (6, .long b), (9, .long 0), (13, .int (nI qq))]) hx hb dX2_hash128_686 hl (by decide) rfl (fun ls hl => ?_)
      refine lv_lload hx hb dX2_hash128_688 (lv_at hl 0 rfl) ?_
      refine lv_ldc2 (v := (-8663945395140668459)) hx hb hown (hts _ q80) dX2_hash128_690 ?_
      refine lv_lmul hx hb dX2_hash128_693 ?_
      refine lv_topl (fun f23 ef23 => ?_)
      refine lv_lstore (lv' := [(11, .long f23), (0, .ref ha), (1, .int (nI 0)), (2, .int (nI NN)), (4, .long a), (6, .long b), (9, .long 0), (13, .int (nI qq))]) hx hb dX2_hash128_694 hl (by decide) rfl (fun ls hl => ?_)
      refine lv_lload hx hb dX2_hash128_696 (lv_at hl 5 rfl) ?_
      refine lv_lload hx hb dX2_hash128_698 (lv_at hl 0 rfl) ?_
      refine lv_lxor hx hb dX2_hash128_700 ?_
      refine lv_topl (fun f24 ef24 => ?_)
      refine lv_lstore (lv' := [(6, .long f24), (11, .long f23), (0, .ref ha), (1, .int (nI 0)), (2, .int (nI NN)), (4, .long a), (9, .long 0), (13, .int (nI qq))]) hx hb dX2_hash128_701 hl (by decide) rfl (fun ls hl => ?_)
      have hl := lv_sub hl (l' := [(0, .ref ha), (1, .int (nI 0)), (2, .int (nI NN)), (4, .long a), (6, .long f24), (9, .long 0), (13, .int (nI qq))]) [2, 3, 4, 5, 0, 6, 7] rfl
      exact hA8 0 ls ⟨⟨by omega, by rw [hmm, if_pos (by omega)]; exact mv_xk_num f qq 8 (by omega)⟩, by rw [eE2 hk.1, show b ^^^ mv_s2 (mv_num f (qq + 8) (rr - 8)) = f24 from by rw [← hk.2, ef24, ef23, hr22, ef21, mv_jL33]; rfl]; exact hl⟩
    refine mv_cut (α := Int64) (fun k ls => (9 ≤ rr ∧ mv_xk f (qq + 8) 1 k = mv_num f (qq + 8) (rr - 8)) ∧ lv_has ls 15 [(0, .ref ha), (1, .int (nI 0)), (2, .int (nI NN)), (4, .long a), (6, .long b), (9, .long 0), (11, .long k), (13, .int (nI qq))]) (fun _ ls => F0 m 652 ls []) (fun k ls hk => ?_) (fun hB1 => ?_)
    · obtain ⟨hk, hl⟩ := hk
      have hl : lv_has ls 15 [(0, .ref ha), (1, .int (nI 0)), (2, .int (nI NN)), (4, .long a), (6, .long b), (9, .long 0), (11, .long k), (13, .int (nI qq))] := hl
      refine lv_lload hx hb dX2_hash128_652 (lv_at hl 6 rfl) ?_
      refine lv_aload_n hx hb dX2_hash128_654 rfl (lv_at hl 0 rfl) ?_
      refine lv_iload_n hx hb dX2_hash128_655 rfl (lv_at hl 1 rfl) ?_
      refine lv_iload hx hb dX2_hash128_656 (lv_at hl 7 rfl) ?_
      refine lv_iadd hx hb dX2_hash128_658 ?_
      refine mv_top (y := (nI qq)) (mv_add (a := 0) (b := qq) (by omega)) ?_
      refine lv_bipush (v := 8) hx hb dX2_hash128_659 (by decide) ?_
      refine lv_iadd hx hb dX2_hash128_661 ?_
      refine mv_top (y := (nI (qq + 8))) (mv_add (a := qq) (b := 8) (by omega)) ?_
      refine mv_bald hx hb hK hP 0 0 rfl rfl (qq + 8) (by omega) (by omega) dX2_hash128_662 ?_
      refine lv_sipush (v := 255) hx hb dX2_hash128_663 (by decide) ?_
      refine lv_iand hx hb dX2_hash128_666 ?_
      refine lv_i2l (v := ((((f (qq + 8)) &&& 255)).toInt64)) hx hb dX2_hash128_667 rfl ?_
      refine lv_lxor hx hb dX2_hash128_668 ?_
      refine lv_topl (fun f25 ef25 => ?_)
      refine lv_lstore (lv' := [(11, .long f25), (0, .ref ha), (1, .int (nI 0)), (2, .int (nI NN)), (4, .long a), (6, .long b), (9, .long 0), (13, .int (nI qq))]) hx hb dX2_hash128_669 hl (by decide) rfl (fun ls hl => ?_)
      have hl := lv_sub hl (l' := [(0, .ref ha), (1, .int (nI 0)), (2, .int (nI NN)), (4, .long a), (6, .long b), (9, .long 0), (11, .long f25), (13, .int (nI qq))]) [1, 2, 3, 4, 5, 6, 0, 7] rfl
      have e9 : f25 = mv_num f (qq + 8) (rr - 8) := by rw [← hk.2, ef25]; show _ = k ^^^ mv_tm f (qq + 8) 0; rw [mv_tm0]; rfl
      exact hB0 f25 ls ⟨⟨by omega, e9⟩, hl⟩
    refine mv_cut (α := Int64) (fun k ls => (10 ≤ rr ∧ mv_xk f (qq + 8) 2 k = mv_num f (qq + 8) (rr - 8)) ∧ lv_has ls 15 [(0, .ref ha), (1, .int (nI 0)), (2, .int (nI NN)), (4, .long a), (6, .long b), (9, .long 0), (11, .long k), (13, .int (nI qq))]) (fun _ ls => F0 m 630 ls []) (fun k ls hk => ?_) (fun hB2 => ?_)
    · obtain ⟨hk, hl⟩ := hk
      have hl : lv_has ls 15 [(0, .ref ha), (1, .int (nI 0)), (2, .int (nI NN)), (4, .long a), (6, .long b), (9, .long 0), (11, .long k), (13, .int (nI qq))] := hl
      refine lv_lload hx hb dX2_hash128_630 (lv_at hl 6 rfl) ?_
      refine lv_aload_n hx hb dX2_hash128_632 rfl (lv_at hl 0 rfl) ?_
      refine lv_iload_n hx hb dX2_hash128_633 rfl (lv_at hl 1 rfl) ?_
      refine lv_iload hx hb dX2_hash128_634 (lv_at hl 7 rfl) ?_
      refine lv_iadd hx hb dX2_hash128_636 ?_
      refine mv_top (y := (nI qq)) (mv_add (a := 0) (b := qq) (by omega)) ?_
      refine lv_bipush (v := 9) hx hb dX2_hash128_637 (by decide) ?_
      refine lv_iadd hx hb dX2_hash128_639 ?_
      refine mv_top (y := (nI (qq + 9))) (mv_add (a := qq) (b := 9) (by omega)) ?_
      refine mv_bald hx hb hK hP 0 0 rfl rfl (qq + 9) (by omega) (by omega) dX2_hash128_640 ?_
      refine lv_sipush (v := 255) hx hb dX2_hash128_641 (by decide) ?_
      refine lv_iand hx hb dX2_hash128_644 ?_
      refine lv_i2l (v := ((((f (qq + 9)) &&& 255)).toInt64)) hx hb dX2_hash128_645 rfl ?_
      refine lv_bipush (v := 8) hx hb dX2_hash128_646 (by decide) ?_
      refine lv_lshl (v := (mv_ls ((((f (qq + 9)) &&& 255)).toInt64) 8)) hx hb dX2_hash128_648 rfl ?_
      refine lv_lxor hx hb dX2_hash128_649 ?_
      refine lv_topl (fun f26 ef26 => ?_)
      refine lv_lstore (lv' := [(11, .long f26), (0, .ref ha), (1, .int (nI 0)), (2, .int (nI NN)), (4, .long a), (6, .long b), (9, .long 0), (13, .int (nI qq))]) hx hb dX2_hash128_650 hl (by decide) rfl (fun ls hl => ?_)
      have hl := lv_sub hl (l' := [(0, .ref ha), (1, .int (nI 0)), (2, .int (nI NN)), (4, .long a), (6, .long b), (9, .long 0), (11, .long f26), (13, .int (nI qq))]) [1, 2, 3, 4, 5, 6, 0, 7] rfl
      have e9 : mv_xk f (qq + 8) 1 f26 = mv_num f (qq + 8) (rr - 8) := by rw [← hk.2, ef26]; rfl
      exact hB1 f26 ls ⟨⟨by omega, e9⟩, hl⟩
    refine mv_cut (α := Int64) (fun k ls => (11 ≤ rr ∧ mv_xk f (qq + 8) 3 k = mv_num f (qq + 8) (rr - 8)) ∧ lv_has ls 15 [(0, .ref ha), (1, .int (nI 0)), (2, .int (nI NN)), (4, .long a), (6, .long b), (9, .long 0), (11, .long k), (13, .int (nI qq))]) (fun _ ls => F0 m 608 ls []) (fun k ls hk => ?_) (fun hB3 => ?_)
    · obtain ⟨hk, hl⟩ := hk
      have hl : lv_has ls 15 [(0, .ref ha), (1, .int (nI 0)), (2, .int (nI NN)), (4, .long a), (6, .long b), (9, .long 0), (11, .long k), (13, .int (nI qq))] := hl
      refine lv_lload hx hb dX2_hash128_608 (lv_at hl 6 rfl) ?_
      refine lv_aload_n hx hb dX2_hash128_610 rfl (lv_at hl 0 rfl) ?_
      refine lv_iload_n hx hb dX2_hash128_611 rfl (lv_at hl 1 rfl) ?_
      refine lv_iload hx hb dX2_hash128_612 (lv_at hl 7 rfl) ?_
      refine lv_iadd hx hb dX2_hash128_614 ?_
      refine mv_top (y := (nI qq)) (mv_add (a := 0) (b := qq) (by omega)) ?_
      refine lv_bipush (v := 10) hx hb dX2_hash128_615 (by decide) ?_
      refine lv_iadd hx hb dX2_hash128_617 ?_
      refine mv_top (y := (nI (qq + 10))) (mv_add (a := qq) (b := 10) (by omega)) ?_
      refine mv_bald hx hb hK hP 0 0 rfl rfl (qq + 10) (by omega) (by omega) dX2_hash128_618 ?_
      refine lv_sipush (v := 255) hx hb dX2_hash128_619 (by decide) ?_
      refine lv_iand hx hb dX2_hash128_622 ?_
      refine lv_i2l (v := ((((f (qq + 10)) &&& 255)).toInt64)) hx hb dX2_hash128_623 rfl ?_
      refine lv_bipush (v := 16) hx hb dX2_hash128_624 (by decide) ?_
      refine lv_lshl (v := (mv_ls ((((f (qq + 10)) &&& 255)).toInt64) 16)) hx hb dX2_hash128_626 rfl ?_
      refine lv_lxor hx hb dX2_hash128_627 ?_
      refine lv_topl (fun f27 ef27 => ?_)
      refine lv_lstore (lv' := [(11, .long f27), (0, .ref ha), (1, .int (nI 0)), (2, .int (nI NN)), (4, .long a), (6, .long b), (9, .long 0), (13, .int (nI qq))]) hx hb dX2_hash128_628 hl (by decide) rfl (fun ls hl => ?_)
      have hl := lv_sub hl (l' := [(0, .ref ha), (1, .int (nI 0)), (2, .int (nI NN)), (4, .long a), (6, .long b), (9, .long 0), (11, .long f27), (13, .int (nI qq))]) [1, 2, 3, 4, 5, 6, 0, 7] rfl
      have e9 : mv_xk f (qq + 8) 2 f27 = mv_num f (qq + 8) (rr - 8) := by rw [← hk.2, ef27]; rfl
      exact hB2 f27 ls ⟨⟨by omega, e9⟩, hl⟩
    refine mv_cut (α := Int64) (fun k ls => (12 ≤ rr ∧ mv_xk f (qq + 8) 4 k = mv_num f (qq + 8) (rr - 8)) ∧ lv_has ls 15 [(0, .ref ha), (1, .int (nI 0)), (2, .int (nI NN)), (4, .long a), (6, .long b), (9, .long 0), (11, .long k), (13, .int (nI qq))]) (fun _ ls => F0 m 586 ls []) (fun k ls hk => ?_) (fun hB4 => ?_)
    · obtain ⟨hk, hl⟩ := hk
      have hl : lv_has ls 15 [(0, .ref ha), (1, .int (nI 0)), (2, .int (nI NN)), (4, .long a), (6, .long b), (9, .long 0), (11, .long k), (13, .int (nI qq))] := hl
      refine lv_lload hx hb dX2_hash128_586 (lv_at hl 6 rfl) ?_
      refine lv_aload_n hx hb dX2_hash128_588 rfl (lv_at hl 0 rfl) ?_
      refine lv_iload_n hx hb dX2_hash128_589 rfl (lv_at hl 1 rfl) ?_
      refine lv_iload hx hb dX2_hash128_590 (lv_at hl 7 rfl) ?_
      refine lv_iadd hx hb dX2_hash128_592 ?_
      refine mv_top (y := (nI qq)) (mv_add (a := 0) (b := qq) (by omega)) ?_
      refine lv_bipush (v := 11) hx hb dX2_hash128_593 (by decide) ?_
      refine lv_iadd hx hb dX2_hash128_595 ?_
      refine mv_top (y := (nI (qq + 11))) (mv_add (a := qq) (b := 11) (by omega)) ?_
      refine mv_bald hx hb hK hP 0 0 rfl rfl (qq + 11) (by omega) (by omega) dX2_hash128_596 ?_
      refine lv_sipush (v := 255) hx hb dX2_hash128_597 (by decide) ?_
      refine lv_iand hx hb dX2_hash128_600 ?_
      refine lv_i2l (v := ((((f (qq + 11)) &&& 255)).toInt64)) hx hb dX2_hash128_601 rfl ?_
      refine lv_bipush (v := 24) hx hb dX2_hash128_602 (by decide) ?_
      refine lv_lshl (v := (mv_ls ((((f (qq + 11)) &&& 255)).toInt64) 24)) hx hb dX2_hash128_604 rfl ?_
      refine lv_lxor hx hb dX2_hash128_605 ?_
      refine lv_topl (fun f28 ef28 => ?_)
      refine lv_lstore (lv' := [(11, .long f28), (0, .ref ha), (1, .int (nI 0)), (2, .int (nI NN)), (4, .long a), (6, .long b), (9, .long 0), (13, .int (nI qq))]) hx hb dX2_hash128_606 hl (by decide) rfl (fun ls hl => ?_)
      have hl := lv_sub hl (l' := [(0, .ref ha), (1, .int (nI 0)), (2, .int (nI NN)), (4, .long a), (6, .long b), (9, .long 0), (11, .long f28), (13, .int (nI qq))]) [1, 2, 3, 4, 5, 6, 0, 7] rfl
      have e9 : mv_xk f (qq + 8) 3 f28 = mv_num f (qq + 8) (rr - 8) := by rw [← hk.2, ef28]; rfl
      exact hB3 f28 ls ⟨⟨by omega, e9⟩, hl⟩
    refine mv_cut (α := Int64) (fun k ls => (13 ≤ rr ∧ mv_xk f (qq + 8) 5 k = mv_num f (qq + 8) (rr - 8)) ∧ lv_has ls 15 [(0, .ref ha), (1, .int (nI 0)), (2, .int (nI NN)), (4, .long a), (6, .long b), (9, .long 0), (11, .long k), (13, .int (nI qq))]) (fun _ ls => F0 m 564 ls []) (fun k ls hk => ?_) (fun hB5 => ?_)
    · obtain ⟨hk, hl⟩ := hk
      have hl : lv_has ls 15 [(0, .ref ha), (1, .int (nI 0)), (2, .int (nI NN)), (4, .long a), (6, .long b), (9, .long 0), (11, .long k), (13, .int (nI qq))] := hl
      refine lv_lload hx hb dX2_hash128_564 (lv_at hl 6 rfl) ?_
      refine lv_aload_n hx hb dX2_hash128_566 rfl (lv_at hl 0 rfl) ?_
      refine lv_iload_n hx hb dX2_hash128_567 rfl (lv_at hl 1 rfl) ?_
      refine lv_iload hx hb dX2_hash128_568 (lv_at hl 7 rfl) ?_
      refine lv_iadd hx hb dX2_hash128_570 ?_
      refine mv_top (y := (nI qq)) (mv_add (a := 0) (b := qq) (by omega)) ?_
      refine lv_bipush (v := 12) hx hb dX2_hash128_571 (by decide) ?_
      refine lv_iadd hx hb dX2_hash128_573 ?_
      refine mv_top (y := (nI (qq + 12))) (mv_add (a := qq) (b := 12) (by omega)) ?_
      refine mv_bald hx hb hK hP 0 0 rfl rfl (qq + 12) (by omega) (by omega) dX2_hash128_574 ?_
      refine lv_sipush (v := 255) hx hb dX2_hash128_575 (by decide) ?_
      refine lv_iand hx hb dX2_hash128_578 ?_
      refine lv_i2l (v := ((((f (qq + 12)) &&& 255)).toInt64)) hx hb dX2_hash128_579 rfl ?_
      refine lv_bipush (v := 32) hx hb dX2_hash128_580 (by decide) ?_
      refine lv_lshl (v := (mv_ls ((((f (qq + 12)) &&& 255)).toInt64) 32)) hx hb dX2_hash128_582 rfl ?_
      refine lv_lxor hx hb dX2_hash128_583 ?_
      refine lv_topl (fun f29 ef29 => ?_)
      refine lv_lstore (lv' := [(11, .long f29), (0, .ref ha), (1, .int (nI 0)), (2, .int (nI NN)), (4, .long a), (6, .long b), (9, .long 0), (13, .int (nI qq))]) hx hb dX2_hash128_584 hl (by decide) rfl (fun ls hl => ?_)
      have hl := lv_sub hl (l' := [(0, .ref ha), (1, .int (nI 0)), (2, .int (nI NN)), (4, .long a), (6, .long b), (9, .long 0), (11, .long f29), (13, .int (nI qq))]) [1, 2, 3, 4, 5, 6, 0, 7] rfl
      have e9 : mv_xk f (qq + 8) 4 f29 = mv_num f (qq + 8) (rr - 8) := by rw [← hk.2, ef29]; rfl
      exact hB4 f29 ls ⟨⟨by omega, e9⟩, hl⟩
    refine mv_cut (α := Int64) (fun k ls => (14 ≤ rr ∧ mv_xk f (qq + 8) 6 k = mv_num f (qq + 8) (rr - 8)) ∧ lv_has ls 15 [(0, .ref ha), (1, .int (nI 0)), (2, .int (nI NN)), (4, .long a), (6, .long b), (9, .long 0), (11, .long k), (13, .int (nI qq))]) (fun _ ls => F0 m 542 ls []) (fun k ls hk => ?_) (fun hB6 => ?_)
    · obtain ⟨hk, hl⟩ := hk
      have hl : lv_has ls 15 [(0, .ref ha), (1, .int (nI 0)), (2, .int (nI NN)), (4, .long a), (6, .long b), (9, .long 0), (11, .long k), (13, .int (nI qq))] := hl
      refine lv_lload hx hb dX2_hash128_542 (lv_at hl 6 rfl) ?_
      refine lv_aload_n hx hb dX2_hash128_544 rfl (lv_at hl 0 rfl) ?_
      refine lv_iload_n hx hb dX2_hash128_545 rfl (lv_at hl 1 rfl) ?_
      refine lv_iload hx hb dX2_hash128_546 (lv_at hl 7 rfl) ?_
      refine lv_iadd hx hb dX2_hash128_548 ?_
      refine mv_top (y := (nI qq)) (mv_add (a := 0) (b := qq) (by omega)) ?_
      refine lv_bipush (v := 13) hx hb dX2_hash128_549 (by decide) ?_
      refine lv_iadd hx hb dX2_hash128_551 ?_
      refine mv_top (y := (nI (qq + 13))) (mv_add (a := qq) (b := 13) (by omega)) ?_
      refine mv_bald hx hb hK hP 0 0 rfl rfl (qq + 13) (by omega) (by omega) dX2_hash128_552 ?_
      refine lv_sipush (v := 255) hx hb dX2_hash128_553 (by decide) ?_
      refine lv_iand hx hb dX2_hash128_556 ?_
      refine lv_i2l (v := ((((f (qq + 13)) &&& 255)).toInt64)) hx hb dX2_hash128_557 rfl ?_
      refine lv_bipush (v := 40) hx hb dX2_hash128_558 (by decide) ?_
      refine lv_lshl (v := (mv_ls ((((f (qq + 13)) &&& 255)).toInt64) 40)) hx hb dX2_hash128_560 rfl ?_
      refine lv_lxor hx hb dX2_hash128_561 ?_
      refine lv_topl (fun f30 ef30 => ?_)
      refine lv_lstore (lv' := [(11, .long f30), (0, .ref ha), (1, .int (nI 0)), (2, .int (nI NN)), (4, .long a), (6, .long b), (9, .long 0), (13, .int (nI qq))]) hx hb dX2_hash128_562 hl (by decide) rfl (fun ls hl => ?_)
      have hl := lv_sub hl (l' := [(0, .ref ha), (1, .int (nI 0)), (2, .int (nI NN)), (4, .long a), (6, .long b), (9, .long 0), (11, .long f30), (13, .int (nI qq))]) [1, 2, 3, 4, 5, 6, 0, 7] rfl
      have e9 : mv_xk f (qq + 8) 5 f30 = mv_num f (qq + 8) (rr - 8) := by rw [← hk.2, ef30]; rfl
      exact hB5 f30 ls ⟨⟨by omega, e9⟩, hl⟩
    refine mv_cut (α := Int64) (fun k ls => (15 ≤ rr ∧ mv_xk f (qq + 8) 7 k = mv_num f (qq + 8) (rr - 8)) ∧ lv_has ls 15 [(0, .ref ha), (1, .int (nI 0)), (2, .int (nI NN)), (4, .long a), (6, .long b), (9, .long 0), (11, .long k), (13, .int (nI qq))]) (fun _ ls => F0 m 520 ls []) (fun k ls hk => ?_) (fun hB7 => ?_)
    · obtain ⟨hk, hl⟩ := hk
      have hl : lv_has ls 15 [(0, .ref ha), (1, .int (nI 0)), (2, .int (nI NN)), (4, .long a), (6, .long b), (9, .long 0), (11, .long k), (13, .int (nI qq))] := hl
      refine lv_lload hx hb dX2_hash128_520 (lv_at hl 6 rfl) ?_
      refine lv_aload_n hx hb dX2_hash128_522 rfl (lv_at hl 0 rfl) ?_
      refine lv_iload_n hx hb dX2_hash128_523 rfl (lv_at hl 1 rfl) ?_
      refine lv_iload hx hb dX2_hash128_524 (lv_at hl 7 rfl) ?_
      refine lv_iadd hx hb dX2_hash128_526 ?_
      refine mv_top (y := (nI qq)) (mv_add (a := 0) (b := qq) (by omega)) ?_
      refine lv_bipush (v := 14) hx hb dX2_hash128_527 (by decide) ?_
      refine lv_iadd hx hb dX2_hash128_529 ?_
      refine mv_top (y := (nI (qq + 14))) (mv_add (a := qq) (b := 14) (by omega)) ?_
      refine mv_bald hx hb hK hP 0 0 rfl rfl (qq + 14) (by omega) (by omega) dX2_hash128_530 ?_
      refine lv_sipush (v := 255) hx hb dX2_hash128_531 (by decide) ?_
      refine lv_iand hx hb dX2_hash128_534 ?_
      refine lv_i2l (v := ((((f (qq + 14)) &&& 255)).toInt64)) hx hb dX2_hash128_535 rfl ?_
      refine lv_bipush (v := 48) hx hb dX2_hash128_536 (by decide) ?_
      refine lv_lshl (v := (mv_ls ((((f (qq + 14)) &&& 255)).toInt64) 48)) hx hb dX2_hash128_538 rfl ?_
      refine lv_lxor hx hb dX2_hash128_539 ?_
      refine lv_topl (fun f31 ef31 => ?_)
      refine lv_lstore (lv' := [(11, .long f31), (0, .ref ha), (1, .int (nI 0)), (2, .int (nI NN)), (4, .long a), (6, .long b), (9, .long 0), (13, .int (nI qq))]) hx hb dX2_hash128_540 hl (by decide) rfl (fun ls hl => ?_)
      have hl := lv_sub hl (l' := [(0, .ref ha), (1, .int (nI 0)), (2, .int (nI NN)), (4, .long a), (6, .long b), (9, .long 0), (11, .long f31), (13, .int (nI qq))]) [1, 2, 3, 4, 5, 6, 0, 7] rfl
      have e9 : mv_xk f (qq + 8) 6 f31 = mv_num f (qq + 8) (rr - 8) := by rw [← hk.2, ef31]; rfl
      exact hB6 f31 ls ⟨⟨by omega, e9⟩, hl⟩
    have hcase : rr = 0 ∨ rr = 1 ∨ rr = 2 ∨ rr = 3 ∨ rr = 4 ∨ rr = 5 ∨ rr = 6 ∨ rr = 7 ∨ rr = 8 ∨ rr = 9 ∨ rr = 10 ∨ rr = 11 ∨ rr = 12 ∨ rr = 13 ∨ rr = 14 ∨ rr = 15 := by omega
    rcases hcase with hc | hc | hc | hc | hc | hc | hc | hc | hc | hc | hc | hc | hc | hc | hc | hc
    · refine lv_tableOut (tgt := 900) hx hb dX2_hash128_447 (Or.inl (by rw [hc]; decide +kernel)) (by decide) ?_
      have hl := lv_sub hl (l' := [(0, .ref ha), (1, .int (nI 0)), (2, .int (nI NN)), (4, .long a), (6, .long b)]) [3, 4, 5, 7, 8] rfl
      exact hE () ls (by rw [show mv_t1 f qq rr a = a from by unfold mv_t1; rw [if_neg (by omega)], eE2n (by omega)]; exact hl)
    · refine lv_tableIn (off := 405) (tgt := 852) hx hb dX2_hash128_447 (by rw [hc]; decide +kernel) (by rw [hc]; decide +kernel) (by rw [hc]; decide +kernel) (by decide) ?_
      have hl := lv_sub hl (l' := [(0, .ref ha), (1, .int (nI 0)), (2, .int (nI NN)), (4, .long a), (6, .long b), (9, .long 0), (13, .int (nI qq))]) [3, 4, 5, 7, 8, 2, 0] rfl
      exact hA1 0 ls ⟨⟨by omega, by rw [mv_xk_num f qq 1 (by omega), hmm, if_neg (by omega), hc]⟩, by rw [eE2n (by omega)]; exact hl⟩
    · refine lv_tableIn (off := 384) (tgt := 831) hx hb dX2_hash128_447 (by rw [hc]; decide +kernel) (by rw [hc]; decide +kernel) (by rw [hc]; decide +kernel) (by decide) ?_
      have hl := lv_sub hl (l' := [(0, .ref ha), (1, .int (nI 0)), (2, .int (nI NN)), (4, .long a), (6, .long b), (9, .long 0), (13, .int (nI qq))]) [3, 4, 5, 7, 8, 2, 0] rfl
      exact hA2 0 ls ⟨⟨by omega, by rw [mv_xk_num f qq 2 (by omega), hmm, if_neg (by omega), hc]⟩, by rw [eE2n (by omega)]; exact hl⟩
    · refine lv_tableIn (off := 363) (tgt := 810) hx hb dX2_hash128_447 (by rw [hc]; decide +kernel) (by rw [hc]; decide +kernel) (by rw [hc]; decide +kernel) (by decide) ?_
      have hl := lv_sub hl (l' := [(0, .ref ha), (1, .int (nI 0)), (2, .int (nI NN)), (4, .long a), (6, .long b), (9, .long 0), (13, .int (nI qq))]) [3, 4, 5, 7, 8, 2, 0] rfl
      exact hA3 0 ls ⟨⟨by omega, by rw [mv_xk_num f qq 3 (by omega), hmm, if_neg (by omega), hc]⟩, by rw [eE2n (by omega)]; exact hl⟩
    · refine lv_tableIn (off := 342) (tgt := 789) hx hb dX2_hash128_447 (by rw [hc]; decide +kernel) (by rw [hc]; decide +kernel) (by rw [hc]; decide +kernel) (by decide) ?_
      have hl := lv_sub hl (l' := [(0, .ref ha), (1, .int (nI 0)), (2, .int (nI NN)), (4, .long a), (6, .long b), (9, .long 0), (13, .int (nI qq))]) [3, 4, 5, 7, 8, 2, 0] rfl
      exact hA4 0 ls ⟨⟨by omega, by rw [mv_xk_num f qq 4 (by omega), hmm, if_neg (by omega), hc]⟩, by rw [eE2n (by omega)]; exact hl⟩
    · refine lv_tableIn (off := 321) (tgt := 768) hx hb dX2_hash128_447 (by rw [hc]; decide +kernel) (by rw [hc]; decide +kernel) (by rw [hc]; decide +kernel) (by decide) ?_
      have hl := lv_sub hl (l' := [(0, .ref ha), (1, .int (nI 0)), (2, .int (nI NN)), (4, .long a), (6, .long b), (9, .long 0), (13, .int (nI qq))]) [3, 4, 5, 7, 8, 2, 0] rfl
      exact hA5 0 ls ⟨⟨by omega, by rw [mv_xk_num f qq 5 (by omega), hmm, if_neg (by omega), hc]⟩, by rw [eE2n (by omega)]; exact hl⟩
    · refine lv_tableIn (off := 300) (tgt := 747) hx hb dX2_hash128_447 (by rw [hc]; decide +kernel) (by rw [hc]; decide +kernel) (by rw [hc]; decide +kernel) (by decide) ?_
      have hl := lv_sub hl (l' := [(0, .ref ha), (1, .int (nI 0)), (2, .int (nI NN)), (4, .long a), (6, .long b), (9, .long 0), (13, .int (nI qq))]) [3, 4, 5, 7, 8, 2, 0] rfl
      exact hA6 0 ls ⟨⟨by omega, by rw [mv_xk_num f qq 6 (by omega), hmm, if_neg (by omega), hc]⟩, by rw [eE2n (by omega)]; exact hl⟩
    · refine lv_tableIn (off := 278) (tgt := 725) hx hb dX2_hash128_447 (by rw [hc]; decide +kernel) (by rw [hc]; decide +kernel) (by rw [hc]; decide +kernel) (by decide) ?_
      have hl := lv_sub hl (l' := [(0, .ref ha), (1, .int (nI 0)), (2, .int (nI NN)), (4, .long a), (6, .long b), (9, .long 0), (13, .int (nI qq))]) [3, 4, 5, 7, 8, 2, 0] rfl
      exact hA7 0 ls ⟨⟨by omega, by rw [mv_xk_num f qq 7 (by omega), hmm, if_neg (by omega), hc]⟩, by rw [eE2n (by omega)]; exact hl⟩
    · refine lv_tableIn (off := 256) (tgt := 703) hx hb dX2_hash128_447 (by rw [hc]; decide +kernel) (by rw [hc]; decide +kernel) (by rw [hc]; decide +kernel) (by decide) ?_
      have hl := lv_sub hl (l' := [(0, .ref ha), (1, .int (nI 0)), (2, .int (nI NN)), (4, .long a), (6, .long b), (9, .long 0), (13, .int (nI qq))]) [3, 4, 5, 7, 8, 2, 0] rfl
      exact hA8 0 ls ⟨⟨by omega, by rw [mv_xk_num f qq 8 (by omega), hmm, if_neg (by omega), hc]⟩, by rw [eE2n (by omega)]; exact hl⟩
    · refine lv_tableIn (off := 205) (tgt := 652) hx hb dX2_hash128_447 (by rw [hc]; decide +kernel) (by rw [hc]; decide +kernel) (by rw [hc]; decide +kernel) (by decide) ?_
      have hl := lv_sub hl (l' := [(0, .ref ha), (1, .int (nI 0)), (2, .int (nI NN)), (4, .long a), (6, .long b), (9, .long 0), (11, .long 0), (13, .int (nI qq))]) [3, 4, 5, 7, 8, 2, 1, 0] rfl
      exact hB1 0 ls ⟨⟨by omega, by rw [mv_xk_num f (qq + 8) 1 (by omega), hc]⟩, hl⟩
    · refine lv_tableIn (off := 183) (tgt := 630) hx hb dX2_hash128_447 (by rw [hc]; decide +kernel) (by rw [hc]; decide +kernel) (by rw [hc]; decide +kernel) (by decide) ?_
      have hl := lv_sub hl (l' := [(0, .ref ha), (1, .int (nI 0)), (2, .int (nI NN)), (4, .long a), (6, .long b), (9, .long 0), (11, .long 0), (13, .int (nI qq))]) [3, 4, 5, 7, 8, 2, 1, 0] rfl
      exact hB2 0 ls ⟨⟨by omega, by rw [mv_xk_num f (qq + 8) 2 (by omega), hc]⟩, hl⟩
    · refine lv_tableIn (off := 161) (tgt := 608) hx hb dX2_hash128_447 (by rw [hc]; decide +kernel) (by rw [hc]; decide +kernel) (by rw [hc]; decide +kernel) (by decide) ?_
      have hl := lv_sub hl (l' := [(0, .ref ha), (1, .int (nI 0)), (2, .int (nI NN)), (4, .long a), (6, .long b), (9, .long 0), (11, .long 0), (13, .int (nI qq))]) [3, 4, 5, 7, 8, 2, 1, 0] rfl
      exact hB3 0 ls ⟨⟨by omega, by rw [mv_xk_num f (qq + 8) 3 (by omega), hc]⟩, hl⟩
    · refine lv_tableIn (off := 139) (tgt := 586) hx hb dX2_hash128_447 (by rw [hc]; decide +kernel) (by rw [hc]; decide +kernel) (by rw [hc]; decide +kernel) (by decide) ?_
      have hl := lv_sub hl (l' := [(0, .ref ha), (1, .int (nI 0)), (2, .int (nI NN)), (4, .long a), (6, .long b), (9, .long 0), (11, .long 0), (13, .int (nI qq))]) [3, 4, 5, 7, 8, 2, 1, 0] rfl
      exact hB4 0 ls ⟨⟨by omega, by rw [mv_xk_num f (qq + 8) 4 (by omega), hc]⟩, hl⟩
    · refine lv_tableIn (off := 117) (tgt := 564) hx hb dX2_hash128_447 (by rw [hc]; decide +kernel) (by rw [hc]; decide +kernel) (by rw [hc]; decide +kernel) (by decide) ?_
      have hl := lv_sub hl (l' := [(0, .ref ha), (1, .int (nI 0)), (2, .int (nI NN)), (4, .long a), (6, .long b), (9, .long 0), (11, .long 0), (13, .int (nI qq))]) [3, 4, 5, 7, 8, 2, 1, 0] rfl
      exact hB5 0 ls ⟨⟨by omega, by rw [mv_xk_num f (qq + 8) 5 (by omega), hc]⟩, hl⟩
    · refine lv_tableIn (off := 95) (tgt := 542) hx hb dX2_hash128_447 (by rw [hc]; decide +kernel) (by rw [hc]; decide +kernel) (by rw [hc]; decide +kernel) (by decide) ?_
      have hl := lv_sub hl (l' := [(0, .ref ha), (1, .int (nI 0)), (2, .int (nI NN)), (4, .long a), (6, .long b), (9, .long 0), (11, .long 0), (13, .int (nI qq))]) [3, 4, 5, 7, 8, 2, 1, 0] rfl
      exact hB6 0 ls ⟨⟨by omega, by rw [mv_xk_num f (qq + 8) 6 (by omega), hc]⟩, hl⟩
    · refine lv_tableIn (off := 73) (tgt := 520) hx hb dX2_hash128_447 (by rw [hc]; decide +kernel) (by rw [hc]; decide +kernel) (by rw [hc]; decide +kernel) (by decide) ?_
      have hl := lv_sub hl (l' := [(0, .ref ha), (1, .int (nI 0)), (2, .int (nI NN)), (4, .long a), (6, .long b), (9, .long 0), (11, .long 0), (13, .int (nI qq))]) [3, 4, 5, 7, 8, 2, 1, 0] rfl
      exact hB7 0 ls ⟨⟨by omega, by rw [mv_xk_num f (qq + 8) 7 (by omega), hc]⟩, hl⟩
  · have hjk : j < NN / 16 := by rw [nI_leI (by omega) (by omega)] at c0; omega
    refine lv_iload hx hb dX2_hash128_23 (lv_at hl 7 rfl) ?_
    refine lv_iconst (v := 4) hx hb dX2_hash128_25 (by decide) ?_
    refine lv_ishl hx hb dX2_hash128_26 ?_
    refine mv_top (y := (nI (16 * j))) (mv_shl4 (by omega) rfl) ?_
    refine lv_istore (lv' := [(10, .int (nI (16 * j))), (0, .ref ha), (1, .int (nI 0)), (2, .int (nI NN)), (3, .int x), (4, .long a), (6, .long b), (8, .int (nI (NN / 16))), (9, .int (nI j))]) hx hb dX2_hash128_27 hl (by decide) rfl (fun ls hl => ?_)
    refine lv_aload_n hx hb dX2_hash128_29 rfl (lv_at hl 1 rfl) ?_
    refine lv_iload_n hx hb dX2_hash128_30 rfl (lv_at hl 2 rfl) ?_
    refine lv_iload hx hb dX2_hash128_31 (lv_at hl 0 rfl) ?_
    refine lv_iadd hx hb dX2_hash128_33 ?_
    refine mv_top (y := (nI (16 * j))) (mv_add (a := 0) (b := 16 * j) (by omega)) ?_
    refine mv_bald hx hb hK hP 0 0 rfl rfl (16 * j) (by omega) (by omega) dX2_hash128_34 ?_
    refine lv_i2l (v := (((f (16 * j))).toInt64)) hx hb dX2_hash128_35 rfl ?_
    refine lv_ldc2 (v := 255) hx hb hown (hts _ q79) dX2_hash128_36 ?_
    refine lv_land hx hb dX2_hash128_39 ?_
    refine mv_topl (y := (mv_by f (16 * j))) (mv_by2 f (16 * j)) ?_
    refine lv_aload_n hx hb dX2_hash128_40 rfl (lv_at hl 1 rfl) ?_
    refine lv_iload_n hx hb dX2_hash128_41 rfl (lv_at hl 2 rfl) ?_
    refine lv_iload hx hb dX2_hash128_42 (lv_at hl 0 rfl) ?_
    refine lv_iadd hx hb dX2_hash128_44 ?_
    refine mv_top (y := (nI (16 * j))) (mv_add (a := 0) (b := 16 * j) (by omega)) ?_
    refine lv_iconst (v := 1) hx hb dX2_hash128_45 (by decide) ?_
    refine lv_iadd hx hb dX2_hash128_46 ?_
    refine mv_top (y := (nI (16 * j + 1))) (mv_add (a := 16 * j) (b := 1) (by omega)) ?_
    refine mv_bald hx hb hK hP 0 0 rfl rfl (16 * j + 1) (by omega) (by omega) dX2_hash128_47 ?_
    refine lv_i2l (v := (((f (16 * j + 1))).toInt64)) hx hb dX2_hash128_48 rfl ?_
    refine lv_ldc2 (v := 255) hx hb hown (hts _ q79) dX2_hash128_49 ?_
    refine lv_land hx hb dX2_hash128_52 ?_
    refine mv_topl (y := (mv_by f (16 * j + 1))) (mv_by2 f (16 * j + 1)) ?_
    refine lv_bipush (v := 8) hx hb dX2_hash128_53 (by decide) ?_
    refine lv_lshl (v := (mv_ls (mv_by f (16 * j + 1)) 8)) hx hb dX2_hash128_55 rfl ?_
    refine lv_lor hx hb dX2_hash128_56 ?_
    refine lv_aload_n hx hb dX2_hash128_57 rfl (lv_at hl 1 rfl) ?_
    refine lv_iload_n hx hb dX2_hash128_58 rfl (lv_at hl 2 rfl) ?_
    refine lv_iload hx hb dX2_hash128_59 (lv_at hl 0 rfl) ?_
    refine lv_iadd hx hb dX2_hash128_61 ?_
    refine mv_top (y := (nI (16 * j))) (mv_add (a := 0) (b := 16 * j) (by omega)) ?_
    refine lv_iconst (v := 2) hx hb dX2_hash128_62 (by decide) ?_
    refine lv_iadd hx hb dX2_hash128_63 ?_
    refine mv_top (y := (nI (16 * j + 2))) (mv_add (a := 16 * j) (b := 2) (by omega)) ?_
    refine mv_bald hx hb hK hP 0 0 rfl rfl (16 * j + 2) (by omega) (by omega) dX2_hash128_64 ?_
    refine lv_i2l (v := (((f (16 * j + 2))).toInt64)) hx hb dX2_hash128_65 rfl ?_
    refine lv_ldc2 (v := 255) hx hb hown (hts _ q79) dX2_hash128_66 ?_
    refine lv_land hx hb dX2_hash128_69 ?_
    refine mv_topl (y := (mv_by f (16 * j + 2))) (mv_by2 f (16 * j + 2)) ?_
    refine lv_bipush (v := 16) hx hb dX2_hash128_70 (by decide) ?_
    refine lv_lshl (v := (mv_ls (mv_by f (16 * j + 2)) 16)) hx hb dX2_hash128_72 rfl ?_
    refine lv_lor hx hb dX2_hash128_73 ?_
    refine lv_aload_n hx hb dX2_hash128_74 rfl (lv_at hl 1 rfl) ?_
    refine lv_iload_n hx hb dX2_hash128_75 rfl (lv_at hl 2 rfl) ?_
    refine lv_iload hx hb dX2_hash128_76 (lv_at hl 0 rfl) ?_
    refine lv_iadd hx hb dX2_hash128_78 ?_
    refine mv_top (y := (nI (16 * j))) (mv_add (a := 0) (b := 16 * j) (by omega)) ?_
    refine lv_iconst (v := 3) hx hb dX2_hash128_79 (by decide) ?_
    refine lv_iadd hx hb dX2_hash128_80 ?_
    refine mv_top (y := (nI (16 * j + 3))) (mv_add (a := 16 * j) (b := 3) (by omega)) ?_
    refine mv_bald hx hb hK hP 0 0 rfl rfl (16 * j + 3) (by omega) (by omega) dX2_hash128_81 ?_
    refine lv_i2l (v := (((f (16 * j + 3))).toInt64)) hx hb dX2_hash128_82 rfl ?_
    refine lv_ldc2 (v := 255) hx hb hown (hts _ q79) dX2_hash128_83 ?_
    refine lv_land hx hb dX2_hash128_86 ?_
    refine mv_topl (y := (mv_by f (16 * j + 3))) (mv_by2 f (16 * j + 3)) ?_
    refine lv_bipush (v := 24) hx hb dX2_hash128_87 (by decide) ?_
    refine lv_lshl (v := (mv_ls (mv_by f (16 * j + 3)) 24)) hx hb dX2_hash128_89 rfl ?_
    refine lv_lor hx hb dX2_hash128_90 ?_
    refine lv_aload_n hx hb dX2_hash128_91 rfl (lv_at hl 1 rfl) ?_
    refine lv_iload_n hx hb dX2_hash128_92 rfl (lv_at hl 2 rfl) ?_
    refine lv_iload hx hb dX2_hash128_93 (lv_at hl 0 rfl) ?_
    refine lv_iadd hx hb dX2_hash128_95 ?_
    refine mv_top (y := (nI (16 * j))) (mv_add (a := 0) (b := 16 * j) (by omega)) ?_
    refine lv_iconst (v := 4) hx hb dX2_hash128_96 (by decide) ?_
    refine lv_iadd hx hb dX2_hash128_97 ?_
    refine mv_top (y := (nI (16 * j + 4))) (mv_add (a := 16 * j) (b := 4) (by omega)) ?_
    refine mv_bald hx hb hK hP 0 0 rfl rfl (16 * j + 4) (by omega) (by omega) dX2_hash128_98 ?_
    refine lv_i2l (v := (((f (16 * j + 4))).toInt64)) hx hb dX2_hash128_99 rfl ?_
    refine lv_ldc2 (v := 255) hx hb hown (hts _ q79) dX2_hash128_100 ?_
    refine lv_land hx hb dX2_hash128_103 ?_
    refine mv_topl (y := (mv_by f (16 * j + 4))) (mv_by2 f (16 * j + 4)) ?_
    refine lv_bipush (v := 32) hx hb dX2_hash128_104 (by decide) ?_
    refine lv_lshl (v := (mv_ls (mv_by f (16 * j + 4)) 32)) hx hb dX2_hash128_106 rfl ?_
    refine lv_lor hx hb dX2_hash128_107 ?_
    refine lv_aload_n hx hb dX2_hash128_108 rfl (lv_at hl 1 rfl) ?_
    refine lv_iload_n hx hb dX2_hash128_109 rfl (lv_at hl 2 rfl) ?_
    refine lv_iload hx hb dX2_hash128_110 (lv_at hl 0 rfl) ?_
    refine lv_iadd hx hb dX2_hash128_112 ?_
    refine mv_top (y := (nI (16 * j))) (mv_add (a := 0) (b := 16 * j) (by omega)) ?_
    refine lv_iconst (v := 5) hx hb dX2_hash128_113 (by decide) ?_
    refine lv_iadd hx hb dX2_hash128_114 ?_
    refine mv_top (y := (nI (16 * j + 5))) (mv_add (a := 16 * j) (b := 5) (by omega)) ?_
    refine mv_bald hx hb hK hP 0 0 rfl rfl (16 * j + 5) (by omega) (by omega) dX2_hash128_115 ?_
    refine lv_i2l (v := (((f (16 * j + 5))).toInt64)) hx hb dX2_hash128_116 rfl ?_
    refine lv_ldc2 (v := 255) hx hb hown (hts _ q79) dX2_hash128_117 ?_
    refine lv_land hx hb dX2_hash128_120 ?_
    refine mv_topl (y := (mv_by f (16 * j + 5))) (mv_by2 f (16 * j + 5)) ?_
    refine lv_bipush (v := 40) hx hb dX2_hash128_121 (by decide) ?_
    refine lv_lshl (v := (mv_ls (mv_by f (16 * j + 5)) 40)) hx hb dX2_hash128_123 rfl ?_
    refine lv_lor hx hb dX2_hash128_124 ?_
    refine lv_aload_n hx hb dX2_hash128_125 rfl (lv_at hl 1 rfl) ?_
    refine lv_iload_n hx hb dX2_hash128_126 rfl (lv_at hl 2 rfl) ?_
    refine lv_iload hx hb dX2_hash128_127 (lv_at hl 0 rfl) ?_
    refine lv_iadd hx hb dX2_hash128_129 ?_
    refine mv_top (y := (nI (16 * j))) (mv_add (a := 0) (b := 16 * j) (by omega)) ?_
    refine lv_bipush (v := 6) hx hb dX2_hash128_130 (by decide) ?_
    refine lv_iadd hx hb dX2_hash128_132 ?_
    refine mv_top (y := (nI (16 * j + 6))) (mv_add (a := 16 * j) (b := 6) (by omega)) ?_
    refine mv_bald hx hb hK hP 0 0 rfl rfl (16 * j + 6) (by omega) (by omega) dX2_hash128_133 ?_
    refine lv_i2l (v := (((f (16 * j + 6))).toInt64)) hx hb dX2_hash128_134 rfl ?_
    refine lv_ldc2 (v := 255) hx hb hown (hts _ q79) dX2_hash128_135 ?_
    refine lv_land hx hb dX2_hash128_138 ?_
    refine mv_topl (y := (mv_by f (16 * j + 6))) (mv_by2 f (16 * j + 6)) ?_
    refine lv_bipush (v := 48) hx hb dX2_hash128_139 (by decide) ?_
    refine lv_lshl (v := (mv_ls (mv_by f (16 * j + 6)) 48)) hx hb dX2_hash128_141 rfl ?_
    refine lv_lor hx hb dX2_hash128_142 ?_
    refine lv_aload_n hx hb dX2_hash128_143 rfl (lv_at hl 1 rfl) ?_
    refine lv_iload_n hx hb dX2_hash128_144 rfl (lv_at hl 2 rfl) ?_
    refine lv_iload hx hb dX2_hash128_145 (lv_at hl 0 rfl) ?_
    refine lv_iadd hx hb dX2_hash128_147 ?_
    refine mv_top (y := (nI (16 * j))) (mv_add (a := 0) (b := 16 * j) (by omega)) ?_
    refine lv_bipush (v := 7) hx hb dX2_hash128_148 (by decide) ?_
    refine lv_iadd hx hb dX2_hash128_150 ?_
    refine mv_top (y := (nI (16 * j + 7))) (mv_add (a := 16 * j) (b := 7) (by omega)) ?_
    refine mv_bald hx hb hK hP 0 0 rfl rfl (16 * j + 7) (by omega) (by omega) dX2_hash128_151 ?_
    refine lv_i2l (v := (((f (16 * j + 7))).toInt64)) hx hb dX2_hash128_152 rfl ?_
    refine lv_ldc2 (v := 255) hx hb hown (hts _ q79) dX2_hash128_153 ?_
    refine lv_land hx hb dX2_hash128_156 ?_
    refine mv_topl (y := (mv_by f (16 * j + 7))) (mv_by2 f (16 * j + 7)) ?_
    refine lv_bipush (v := 56) hx hb dX2_hash128_157 (by decide) ?_
    refine lv_lshl (v := (mv_ls (mv_by f (16 * j + 7)) 56)) hx hb dX2_hash128_159 rfl ?_
    refine lv_lor hx hb dX2_hash128_160 ?_
    refine lv_topl (fun f32 ef32 => ?_)
    refine lv_lstore (lv' := [(11, .long f32), (10, .int (nI (16 * j))), (0, .ref ha), (1, .int (nI 0)), (2, .int (nI NN)), (3, .int x), (4, .long a), (6, .long b), (8, .int (nI (NN / 16))), (9, .int (nI j))]) hx hb dX2_hash128_161 hl (by decide) rfl (fun ls hl => ?_)
    refine lv_aload_n hx hb dX2_hash128_163 rfl (lv_at hl 2 rfl) ?_
    refine lv_iload_n hx hb dX2_hash128_164 rfl (lv_at hl 3 rfl) ?_
    refine lv_iload hx hb dX2_hash128_165 (lv_at hl 1 rfl) ?_
    refine lv_iadd hx hb dX2_hash128_167 ?_
    refine mv_top (y := (nI (16 * j))) (mv_add (a := 0) (b := 16 * j) (by omega)) ?_
    refine lv_bipush (v := 8) hx hb dX2_hash128_168 (by decide) ?_
    refine lv_iadd hx hb dX2_hash128_170 ?_
    refine mv_top (y := (nI (16 * j + 8))) (mv_add (a := 16 * j) (b := 8) (by omega)) ?_
    refine mv_bald hx hb hK hP 0 0 rfl rfl (16 * j + 8) (by omega) (by omega) dX2_hash128_171 ?_
    refine lv_i2l (v := (((f (16 * j + 8))).toInt64)) hx hb dX2_hash128_172 rfl ?_
    refine lv_ldc2 (v := 255) hx hb hown (hts _ q79) dX2_hash128_173 ?_
    refine lv_land hx hb dX2_hash128_176 ?_
    refine mv_topl (y := (mv_by f (16 * j + 8))) (mv_by2 f (16 * j + 8)) ?_
    refine lv_aload_n hx hb dX2_hash128_177 rfl (lv_at hl 2 rfl) ?_
    refine lv_iload_n hx hb dX2_hash128_178 rfl (lv_at hl 3 rfl) ?_
    refine lv_iload hx hb dX2_hash128_179 (lv_at hl 1 rfl) ?_
    refine lv_iadd hx hb dX2_hash128_181 ?_
    refine mv_top (y := (nI (16 * j))) (mv_add (a := 0) (b := 16 * j) (by omega)) ?_
    refine lv_bipush (v := 9) hx hb dX2_hash128_182 (by decide) ?_
    refine lv_iadd hx hb dX2_hash128_184 ?_
    refine mv_top (y := (nI (16 * j + 9))) (mv_add (a := 16 * j) (b := 9) (by omega)) ?_
    refine mv_bald hx hb hK hP 0 0 rfl rfl (16 * j + 9) (by omega) (by omega) dX2_hash128_185 ?_
    refine lv_i2l (v := (((f (16 * j + 9))).toInt64)) hx hb dX2_hash128_186 rfl ?_
    refine lv_ldc2 (v := 255) hx hb hown (hts _ q79) dX2_hash128_187 ?_
    refine lv_land hx hb dX2_hash128_190 ?_
    refine mv_topl (y := (mv_by f (16 * j + 9))) (mv_by2 f (16 * j + 9)) ?_
    refine lv_bipush (v := 8) hx hb dX2_hash128_191 (by decide) ?_
    refine lv_lshl (v := (mv_ls (mv_by f (16 * j + 9)) 8)) hx hb dX2_hash128_193 rfl ?_
    refine lv_lor hx hb dX2_hash128_194 ?_
    refine lv_aload_n hx hb dX2_hash128_195 rfl (lv_at hl 2 rfl) ?_
    refine lv_iload_n hx hb dX2_hash128_196 rfl (lv_at hl 3 rfl) ?_
    refine lv_iload hx hb dX2_hash128_197 (lv_at hl 1 rfl) ?_
    refine lv_iadd hx hb dX2_hash128_199 ?_
    refine mv_top (y := (nI (16 * j))) (mv_add (a := 0) (b := 16 * j) (by omega)) ?_
    refine lv_bipush (v := 10) hx hb dX2_hash128_200 (by decide) ?_
    refine lv_iadd hx hb dX2_hash128_202 ?_
    refine mv_top (y := (nI (16 * j + 10))) (mv_add (a := 16 * j) (b := 10) (by omega)) ?_
    refine mv_bald hx hb hK hP 0 0 rfl rfl (16 * j + 10) (by omega) (by omega) dX2_hash128_203 ?_
    refine lv_i2l (v := (((f (16 * j + 10))).toInt64)) hx hb dX2_hash128_204 rfl ?_
    refine lv_ldc2 (v := 255) hx hb hown (hts _ q79) dX2_hash128_205 ?_
    refine lv_land hx hb dX2_hash128_208 ?_
    refine mv_topl (y := (mv_by f (16 * j + 10))) (mv_by2 f (16 * j + 10)) ?_
    refine lv_bipush (v := 16) hx hb dX2_hash128_209 (by decide) ?_
    refine lv_lshl (v := (mv_ls (mv_by f (16 * j + 10)) 16)) hx hb dX2_hash128_211 rfl ?_
    refine lv_lor hx hb dX2_hash128_212 ?_
    refine lv_aload_n hx hb dX2_hash128_213 rfl (lv_at hl 2 rfl) ?_
    refine lv_iload_n hx hb dX2_hash128_214 rfl (lv_at hl 3 rfl) ?_
    refine lv_iload hx hb dX2_hash128_215 (lv_at hl 1 rfl) ?_
    refine lv_iadd hx hb dX2_hash128_217 ?_
    refine mv_top (y := (nI (16 * j))) (mv_add (a := 0) (b := 16 * j) (by omega)) ?_
    refine lv_bipush (v := 11) hx hb dX2_hash128_218 (by decide) ?_
    refine lv_iadd hx hb dX2_hash128_220 ?_
    refine mv_top (y := (nI (16 * j + 11))) (mv_add (a := 16 * j) (b := 11) (by omega)) ?_
    refine mv_bald hx hb hK hP 0 0 rfl rfl (16 * j + 11) (by omega) (by omega) dX2_hash128_221 ?_
    refine lv_i2l (v := (((f (16 * j + 11))).toInt64)) hx hb dX2_hash128_222 rfl ?_
    refine lv_ldc2 (v := 255) hx hb hown (hts _ q79) dX2_hash128_223 ?_
    refine lv_land hx hb dX2_hash128_226 ?_
    refine mv_topl (y := (mv_by f (16 * j + 11))) (mv_by2 f (16 * j + 11)) ?_
    refine lv_bipush (v := 24) hx hb dX2_hash128_227 (by decide) ?_
    refine lv_lshl (v := (mv_ls (mv_by f (16 * j + 11)) 24)) hx hb dX2_hash128_229 rfl ?_
    refine lv_lor hx hb dX2_hash128_230 ?_
    refine lv_aload_n hx hb dX2_hash128_231 rfl (lv_at hl 2 rfl) ?_
    refine lv_iload_n hx hb dX2_hash128_232 rfl (lv_at hl 3 rfl) ?_
    refine lv_iload hx hb dX2_hash128_233 (lv_at hl 1 rfl) ?_
    refine lv_iadd hx hb dX2_hash128_235 ?_
    refine mv_top (y := (nI (16 * j))) (mv_add (a := 0) (b := 16 * j) (by omega)) ?_
    refine lv_bipush (v := 12) hx hb dX2_hash128_236 (by decide) ?_
    refine lv_iadd hx hb dX2_hash128_238 ?_
    refine mv_top (y := (nI (16 * j + 12))) (mv_add (a := 16 * j) (b := 12) (by omega)) ?_
    refine mv_bald hx hb hK hP 0 0 rfl rfl (16 * j + 12) (by omega) (by omega) dX2_hash128_239 ?_
    refine lv_i2l (v := (((f (16 * j + 12))).toInt64)) hx hb dX2_hash128_240 rfl ?_
    refine lv_ldc2 (v := 255) hx hb hown (hts _ q79) dX2_hash128_241 ?_
    refine lv_land hx hb dX2_hash128_244 ?_
    refine mv_topl (y := (mv_by f (16 * j + 12))) (mv_by2 f (16 * j + 12)) ?_
    refine lv_bipush (v := 32) hx hb dX2_hash128_245 (by decide) ?_
    refine lv_lshl (v := (mv_ls (mv_by f (16 * j + 12)) 32)) hx hb dX2_hash128_247 rfl ?_
    refine lv_lor hx hb dX2_hash128_248 ?_
    refine lv_aload_n hx hb dX2_hash128_249 rfl (lv_at hl 2 rfl) ?_
    refine lv_iload_n hx hb dX2_hash128_250 rfl (lv_at hl 3 rfl) ?_
    refine lv_iload hx hb dX2_hash128_251 (lv_at hl 1 rfl) ?_
    refine lv_iadd hx hb dX2_hash128_253 ?_
    refine mv_top (y := (nI (16 * j))) (mv_add (a := 0) (b := 16 * j) (by omega)) ?_
    refine lv_bipush (v := 13) hx hb dX2_hash128_254 (by decide) ?_
    refine lv_iadd hx hb dX2_hash128_256 ?_
    refine mv_top (y := (nI (16 * j + 13))) (mv_add (a := 16 * j) (b := 13) (by omega)) ?_
    refine mv_bald hx hb hK hP 0 0 rfl rfl (16 * j + 13) (by omega) (by omega) dX2_hash128_257 ?_
    refine lv_i2l (v := (((f (16 * j + 13))).toInt64)) hx hb dX2_hash128_258 rfl ?_
    refine lv_ldc2 (v := 255) hx hb hown (hts _ q79) dX2_hash128_259 ?_
    refine lv_land hx hb dX2_hash128_262 ?_
    refine mv_topl (y := (mv_by f (16 * j + 13))) (mv_by2 f (16 * j + 13)) ?_
    refine lv_bipush (v := 40) hx hb dX2_hash128_263 (by decide) ?_
    refine lv_lshl (v := (mv_ls (mv_by f (16 * j + 13)) 40)) hx hb dX2_hash128_265 rfl ?_
    refine lv_lor hx hb dX2_hash128_266 ?_
    refine lv_aload_n hx hb dX2_hash128_267 rfl (lv_at hl 2 rfl) ?_
    refine lv_iload_n hx hb dX2_hash128_268 rfl (lv_at hl 3 rfl) ?_
    refine lv_iload hx hb dX2_hash128_269 (lv_at hl 1 rfl) ?_
    refine lv_iadd hx hb dX2_hash128_271 ?_
    refine mv_top (y := (nI (16 * j))) (mv_add (a := 0) (b := 16 * j) (by omega)) ?_
    refine lv_bipush (v := 14) hx hb dX2_hash128_272 (by decide) ?_
    refine lv_iadd hx hb dX2_hash128_274 ?_
    refine mv_top (y := (nI (16 * j + 14))) (mv_add (a := 16 * j) (b := 14) (by omega)) ?_
    refine mv_bald hx hb hK hP 0 0 rfl rfl (16 * j + 14) (by omega) (by omega) dX2_hash128_275 ?_
    refine lv_i2l (v := (((f (16 * j + 14))).toInt64)) hx hb dX2_hash128_276 rfl ?_
    refine lv_ldc2 (v := 255) hx hb hown (hts _ q79) dX2_hash128_277 ?_
    refine lv_land hx hb dX2_hash128_280 ?_
    refine mv_topl (y := (mv_by f (16 * j + 14))) (mv_by2 f (16 * j + 14)) ?_
    refine lv_bipush (v := 48) hx hb dX2_hash128_281 (by decide) ?_
    refine lv_lshl (v := (mv_ls (mv_by f (16 * j + 14)) 48)) hx hb dX2_hash128_283 rfl ?_
    refine lv_lor hx hb dX2_hash128_284 ?_
    refine lv_aload_n hx hb dX2_hash128_285 rfl (lv_at hl 2 rfl) ?_
    refine lv_iload_n hx hb dX2_hash128_286 rfl (lv_at hl 3 rfl) ?_
    refine lv_iload hx hb dX2_hash128_287 (lv_at hl 1 rfl) ?_
    refine lv_iadd hx hb dX2_hash128_289 ?_
    refine mv_top (y := (nI (16 * j))) (mv_add (a := 0) (b := 16 * j) (by omega)) ?_
    refine lv_bipush (v := 15) hx hb dX2_hash128_290 (by decide) ?_
    refine lv_iadd hx hb dX2_hash128_292 ?_
    refine mv_top (y := (nI (16 * j + 15))) (mv_add (a := 16 * j) (b := 15) (by omega)) ?_
    refine mv_bald hx hb hK hP 0 0 rfl rfl (16 * j + 15) (by omega) (by omega) dX2_hash128_293 ?_
    refine lv_i2l (v := (((f (16 * j + 15))).toInt64)) hx hb dX2_hash128_294 rfl ?_
    refine lv_ldc2 (v := 255) hx hb hown (hts _ q79) dX2_hash128_295 ?_
    refine lv_land hx hb dX2_hash128_298 ?_
    refine mv_topl (y := (mv_by f (16 * j + 15))) (mv_by2 f (16 * j + 15)) ?_
    refine lv_bipush (v := 56) hx hb dX2_hash128_299 (by decide) ?_
    refine lv_lshl (v := (mv_ls (mv_by f (16 * j + 15)) 56)) hx hb dX2_hash128_301 rfl ?_
    refine lv_lor hx hb dX2_hash128_302 ?_
    refine lv_topl (fun f33 ef33 => ?_)
    refine lv_lstore (lv' := [(13, .long f33), (11, .long f32), (10, .int (nI (16 * j))), (0, .ref ha), (1, .int (nI 0)), (2, .int (nI NN)), (3, .int x), (4, .long a), (6, .long b), (8, .int (nI (NN / 16))), (9, .int (nI j))]) hx hb dX2_hash128_303 hl (by decide) rfl (fun ls hl => ?_)
    refine lv_lload hx hb dX2_hash128_305 (lv_at hl 1 rfl) ?_
    refine lv_ldc2 (v := (-8663945395140668459)) hx hb hown (hts _ q80) dX2_hash128_307 ?_
    refine lv_lmul hx hb dX2_hash128_310 ?_
    refine lv_topl (fun f34 ef34 => ?_)
    refine lv_lstore (lv' := [(11, .long f34), (13, .long f33), (10, .int (nI (16 * j))), (0, .ref ha), (1, .int (nI 0)), (2, .int (nI NN)), (3, .int x), (4, .long a), (6, .long b), (8, .int (nI (NN / 16))), (9, .int (nI j))]) hx hb dX2_hash128_311 hl (by decide) rfl (fun ls hl => ?_)
    refine lv_lload hx hb dX2_hash128_313 (lv_at hl 0 rfl) ?_
    refine lv_bipush (v := 31) hx hb dX2_hash128_315 (by decide) ?_
    refine vp_callSl (W.runS (As := [.long f34, .int 31]) (rest := []) ⟨hx, hb, hml, hown, hts⟩ (c_rotL l f34 31) (va_cwS 2 hts (lw_S q81 q82 q16 q83) rfl rfl rfl (by decide +kernel) ⟨Nat.le_of_ble_eq_true rfl, Nat.le_of_ble_eq_true rfl⟩) ⟨fun a U g mk q => q, fun U hU hW => ⟨rfl, trivial⟩⟩ rfl rfl hl.1 rfl (lv_room (Nat.le_of_ble_eq_true rfl)) dX2_hash128_317 ⟨Nat.le_of_ble_eq_true rfl, Nat.le_of_ble_eq_true rfl⟩) (fun r35 hr35 => ?_)
    have hr35 : r35 = mv_jL f34 31 := hr35
    refine lv_lstore (lv' := [(11, .long r35), (13, .long f33), (10, .int (nI (16 * j))), (0, .ref ha), (1, .int (nI 0)), (2, .int (nI NN)), (3, .int x), (4, .long a), (6, .long b), (8, .int (nI (NN / 16))), (9, .int (nI j))]) hx hb dX2_hash128_320 hl (by decide) rfl (fun ls hl => ?_)
    refine lv_lload hx hb dX2_hash128_322 (lv_at hl 0 rfl) ?_
    refine lv_ldc2 (v := 5545529020109919103) hx hb hown (hts _ q84) dX2_hash128_324 ?_
    refine lv_lmul hx hb dX2_hash128_327 ?_
    refine lv_topl (fun f36 ef36 => ?_)
    refine lv_lstore (lv' := [(11, .long f36), (13, .long f33), (10, .int (nI (16 * j))), (0, .ref ha), (1, .int (nI 0)), (2, .int (nI NN)), (3, .int x), (4, .long a), (6, .long b), (8, .int (nI (NN / 16))), (9, .int (nI j))]) hx hb dX2_hash128_328 hl (by decide) rfl (fun ls hl => ?_)
    refine lv_lload hx hb dX2_hash128_330 (lv_at hl 7 rfl) ?_
    refine lv_lload hx hb dX2_hash128_332 (lv_at hl 0 rfl) ?_
    refine lv_lxor hx hb dX2_hash128_334 ?_
    refine lv_topl (fun f37 ef37 => ?_)
    refine lv_lstore (lv' := [(4, .long f37), (11, .long f36), (13, .long f33), (10, .int (nI (16 * j))), (0, .ref ha), (1, .int (nI 0)), (2, .int (nI NN)), (3, .int x), (6, .long b), (8, .int (nI (NN / 16))), (9, .int (nI j))]) hx hb dX2_hash128_335 hl (by decide) rfl (fun ls hl => ?_)
    refine lv_lload hx hb dX2_hash128_337 (lv_at hl 0 rfl) ?_
    refine lv_bipush (v := 27) hx hb dX2_hash128_339 (by decide) ?_
    refine vp_callSl (W.runS (As := [.long f37, .int 27]) (rest := []) ⟨hx, hb, hml, hown, hts⟩ (c_rotL l f37 27) (va_cwS 2 hts (lw_S q81 q82 q16 q83) rfl rfl rfl (by decide +kernel) ⟨Nat.le_of_ble_eq_true rfl, Nat.le_of_ble_eq_true rfl⟩) ⟨fun a U g mk q => q, fun U hU hW => ⟨rfl, trivial⟩⟩ rfl rfl hl.1 rfl (lv_room (Nat.le_of_ble_eq_true rfl)) dX2_hash128_341 ⟨Nat.le_of_ble_eq_true rfl, Nat.le_of_ble_eq_true rfl⟩) (fun r38 hr38 => ?_)
    have hr38 : r38 = mv_jL f37 27 := hr38
    refine lv_lstore (lv' := [(4, .long r38), (11, .long f36), (13, .long f33), (10, .int (nI (16 * j))), (0, .ref ha), (1, .int (nI 0)), (2, .int (nI NN)), (3, .int x), (6, .long b), (8, .int (nI (NN / 16))), (9, .int (nI j))]) hx hb dX2_hash128_344 hl (by decide) rfl (fun ls hl => ?_)
    refine lv_lload hx hb dX2_hash128_346 (lv_at hl 0 rfl) ?_
    refine lv_lload hx hb dX2_hash128_348 (lv_at hl 8 rfl) ?_
    refine lv_ladd hx hb dX2_hash128_350 ?_
    refine lv_topl (fun f39 ef39 => ?_)
    refine lv_lstore (lv' := [(4, .long f39), (11, .long f36), (13, .long f33), (10, .int (nI (16 * j))), (0, .ref ha), (1, .int (nI 0)), (2, .int (nI NN)), (3, .int x), (6, .long b), (8, .int (nI (NN / 16))), (9, .int (nI j))]) hx hb dX2_hash128_351 hl (by decide) rfl (fun ls hl => ?_)
    refine lv_lload hx hb dX2_hash128_353 (lv_at hl 0 rfl) ?_
    refine lv_ldc2 (v := 5) hx hb hown (hts _ q85) dX2_hash128_355 ?_
    refine lv_lmul hx hb dX2_hash128_358 ?_
    refine lv_ldc2 (v := 1390208809) hx hb hown (hts _ q86) dX2_hash128_359 ?_
    refine lv_ladd hx hb dX2_hash128_362 ?_
    refine lv_topl (fun f40 ef40 => ?_)
    refine lv_lstore (lv' := [(4, .long f40), (11, .long f36), (13, .long f33), (10, .int (nI (16 * j))), (0, .ref ha), (1, .int (nI 0)), (2, .int (nI NN)), (3, .int x), (6, .long b), (8, .int (nI (NN / 16))), (9, .int (nI j))]) hx hb dX2_hash128_363 hl (by decide) rfl (fun ls hl => ?_)
    refine lv_lload hx hb dX2_hash128_365 (lv_at hl 2 rfl) ?_
    refine lv_ldc2 (v := 5545529020109919103) hx hb hown (hts _ q84) dX2_hash128_367 ?_
    refine lv_lmul hx hb dX2_hash128_370 ?_
    refine lv_topl (fun f41 ef41 => ?_)
    refine lv_lstore (lv' := [(13, .long f41), (4, .long f40), (11, .long f36), (10, .int (nI (16 * j))), (0, .ref ha), (1, .int (nI 0)), (2, .int (nI NN)), (3, .int x), (6, .long b), (8, .int (nI (NN / 16))), (9, .int (nI j))]) hx hb dX2_hash128_371 hl (by decide) rfl (fun ls hl => ?_)
    refine lv_lload hx hb dX2_hash128_373 (lv_at hl 0 rfl) ?_
    refine lv_bipush (v := 33) hx hb dX2_hash128_375 (by decide) ?_
    refine vp_callSl (W.runS (As := [.long f41, .int 33]) (rest := []) ⟨hx, hb, hml, hown, hts⟩ (c_rotL l f41 33) (va_cwS 2 hts (lw_S q81 q82 q16 q83) rfl rfl rfl (by decide +kernel) ⟨Nat.le_of_ble_eq_true rfl, Nat.le_of_ble_eq_true rfl⟩) ⟨fun a U g mk q => q, fun U hU hW => ⟨rfl, trivial⟩⟩ rfl rfl hl.1 rfl (lv_room (Nat.le_of_ble_eq_true rfl)) dX2_hash128_377 ⟨Nat.le_of_ble_eq_true rfl, Nat.le_of_ble_eq_true rfl⟩) (fun r42 hr42 => ?_)
    have hr42 : r42 = mv_jL f41 33 := hr42
    refine lv_lstore (lv' := [(13, .long r42), (4, .long f40), (11, .long f36), (10, .int (nI (16 * j))), (0, .ref ha), (1, .int (nI 0)), (2, .int (nI NN)), (3, .int x), (6, .long b), (8, .int (nI (NN / 16))), (9, .int (nI j))]) hx hb dX2_hash128_380 hl (by decide) rfl (fun ls hl => ?_)
    refine lv_lload hx hb dX2_hash128_382 (lv_at hl 0 rfl) ?_
    refine lv_ldc2 (v := (-8663945395140668459)) hx hb hown (hts _ q80) dX2_hash128_384 ?_
    refine lv_lmul hx hb dX2_hash128_387 ?_
    refine lv_topl (fun f43 ef43 => ?_)
    refine lv_lstore (lv' := [(13, .long f43), (4, .long f40), (11, .long f36), (10, .int (nI (16 * j))), (0, .ref ha), (1, .int (nI 0)), (2, .int (nI NN)), (3, .int x), (6, .long b), (8, .int (nI (NN / 16))), (9, .int (nI j))]) hx hb dX2_hash128_388 hl (by decide) rfl (fun ls hl => ?_)
    refine lv_lload hx hb dX2_hash128_390 (lv_at hl 8 rfl) ?_
    refine lv_lload hx hb dX2_hash128_392 (lv_at hl 0 rfl) ?_
    refine lv_lxor hx hb dX2_hash128_394 ?_
    refine lv_topl (fun f44 ef44 => ?_)
    refine lv_lstore (lv' := [(6, .long f44), (13, .long f43), (4, .long f40), (11, .long f36), (10, .int (nI (16 * j))), (0, .ref ha), (1, .int (nI 0)), (2, .int (nI NN)), (3, .int x), (8, .int (nI (NN / 16))), (9, .int (nI j))]) hx hb dX2_hash128_395 hl (by decide) rfl (fun ls hl => ?_)
    refine lv_lload hx hb dX2_hash128_397 (lv_at hl 0 rfl) ?_
    refine lv_bipush (v := 31) hx hb dX2_hash128_399 (by decide) ?_
    refine vp_callSl (W.runS (As := [.long f44, .int 31]) (rest := []) ⟨hx, hb, hml, hown, hts⟩ (c_rotL l f44 31) (va_cwS 2 hts (lw_S q81 q82 q16 q83) rfl rfl rfl (by decide +kernel) ⟨Nat.le_of_ble_eq_true rfl, Nat.le_of_ble_eq_true rfl⟩) ⟨fun a U g mk q => q, fun U hU hW => ⟨rfl, trivial⟩⟩ rfl rfl hl.1 rfl (lv_room (Nat.le_of_ble_eq_true rfl)) dX2_hash128_401 ⟨Nat.le_of_ble_eq_true rfl, Nat.le_of_ble_eq_true rfl⟩) (fun r45 hr45 => ?_)
    have hr45 : r45 = mv_jL f44 31 := hr45
    refine lv_lstore (lv' := [(6, .long r45), (13, .long f43), (4, .long f40), (11, .long f36), (10, .int (nI (16 * j))), (0, .ref ha), (1, .int (nI 0)), (2, .int (nI NN)), (3, .int x), (8, .int (nI (NN / 16))), (9, .int (nI j))]) hx hb dX2_hash128_404 hl (by decide) rfl (fun ls hl => ?_)
    refine lv_lload hx hb dX2_hash128_406 (lv_at hl 0 rfl) ?_
    refine lv_lload hx hb dX2_hash128_408 (lv_at hl 2 rfl) ?_
    refine lv_ladd hx hb dX2_hash128_410 ?_
    refine lv_topl (fun f46 ef46 => ?_)
    refine lv_lstore (lv' := [(6, .long f46), (13, .long f43), (4, .long f40), (11, .long f36), (10, .int (nI (16 * j))), (0, .ref ha), (1, .int (nI 0)), (2, .int (nI NN)), (3, .int x), (8, .int (nI (NN / 16))), (9, .int (nI j))]) hx hb dX2_hash128_411 hl (by decide) rfl (fun ls hl => ?_)
    refine lv_lload hx hb dX2_hash128_413 (lv_at hl 0 rfl) ?_
    refine lv_ldc2 (v := 5) hx hb hown (hts _ q85) dX2_hash128_415 ?_
    refine lv_lmul hx hb dX2_hash128_418 ?_
    refine lv_ldc2 (v := 944331445) hx hb hown (hts _ q87) dX2_hash128_419 ?_
    refine lv_ladd hx hb dX2_hash128_422 ?_
    refine lv_topl (fun f47 ef47 => ?_)
    refine lv_lstore (lv' := [(6, .long f47), (13, .long f43), (4, .long f40), (11, .long f36), (10, .int (nI (16 * j))), (0, .ref ha), (1, .int (nI 0)), (2, .int (nI NN)), (3, .int x), (8, .int (nI (NN / 16))), (9, .int (nI j))]) hx hb dX2_hash128_423 hl (by decide) rfl (fun ls hl => ?_)
    refine lv_iinc (v := (nI (j + 1))) (lv' := [(9, .int (nI (j + 1))), (6, .long f47), (13, .long f43), (4, .long f40), (11, .long f36), (10, .int (nI (16 * j))), (0, .ref ha), (1, .int (nI 0)), (2, .int (nI NN)), (3, .int x), (8, .int (nI (NN / 16)))]) hx hb dX2_hash128_425 hl (k := 10) rfl (mv_inc j) (by decide) rfl (fun ls hl => ?_)
    refine lv_goto (tgt := 16) hx hb dX2_hash128_428 (by decide) ?_
    have hl := lv_sub hl (l' := [(0, .ref ha), (1, .int (nI 0)), (2, .int (nI NN)), (3, .int x), (4, .long f40), (6, .long f47), (8, .int (nI (NN / 16))), (9, .int (nI (j + 1)))]) [6, 7, 8, 9, 3, 1, 10, 0] rfl
    have ew1 : f32 = mv_num f (16 * j) 8 := by rw [ef32, ← mv_w8_num]; rfl
    have ew2 : f33 = mv_num f (16 * j + 8) 8 := by rw [ef33, ← mv_w8_num]; rfl
    have e9 : f40 = mv_r1 a b (mv_num f (16 * j) 8) := by rw [ef40, ef39, hr38, ef37, ef36, hr35, ef34, mv_jL27, mv_jL31, ew1]; rfl
    have e10 : f47 = mv_r2 b f40 (mv_num f (16 * j + 8) 8) := by rw [ef47, ef46, hr45, ef44, ef43, hr42, ef41, mv_jL31, mv_jL33, ew2]; rfl
    have f1 : f40 = (mv_b128 f 0 x8 (j + 1)).1 := by rw [e9, ea, eb]; show _ = mv_r1 _ _ (mv_num f (0 + 16 * j) 8); rw [Nat.zero_add]
    have f2 : f47 = (mv_b128 f 0 x8 (j + 1)).2 := by rw [e10, e9, ea, eb]; show _ = mv_r2 _ (mv_r1 _ _ (mv_num f (0 + 16 * j) 8)) (mv_num f (0 + 16 * j + 8) 8); rw [Nat.zero_add]
    exact ih (j + 1, f40, f47) ls ⟨hjk, f1, f2, hl⟩ (by show NN / 16 - (j + 1) < NN / 16 - j; omega)
end
section
/-! THE DESK -/
set_option maxRecDepth 100000
set_option maxHeartbeats 4000000 in
set_option maxRecDepth 100000 in
/-- MurmurDesk() -/
theorem c_dinit (l : Launch) (dC : Nat → ClassId) (dI : Nat → Nat → Nat) (h0 : Nat) (sz : Nat) : Met l yX0_init (ws_ yX0_init cX0_init 1 none) ({ frames := 1, cells := 1, slots := 256, locals := 12 }) (va_Pc [.ref h0] (fun U => U.heap.size = sz ∧ va_P (dC, dI) vwCl [(h0, .inr (0, [.null, .int 0]))] U.heap ∧ va_K (dC, dI) vwCl [] U ∧ va_D (fun _ => True) [(h0, .inr (0, [.null, .int 0]))])) (va_Qv (fun _ : ClassId × Nat => True) (fun u t => va_P (dC, dI) vwCl [(h0, .inr (0, [.ref u.2, .int (nI 0)])), (u.2, .inl (u.1, 256, .inl (fun _ => 0)))] t.heap ∧ va_K (dC, dI) vwCl [(u.1, .byte)] t ∧ va_D (va_A [(h0, .inr (0, [.null, .int 0]))] sz) [(h0, .inr (0, [.ref u.2, .int (nI 0)])), (u.2, .inl (u.1, 256, .inl (fun _ => 0)))]) (va_A [(h0, .inr (0, [.null, .int 0]))] sz)) 1 256 (va_A [(h0, .inr (0, [.null, .int 0]))] sz) := by
  refine Met.ofW (cc := cX0_init) (maxL := 1) (ret := none) (by decide) rfl ?_
  intro p e s m args below meth c s₁ B hml hv
  obtain ⟨rfl, hsz, hP, hK, hD0⟩ := hv
  have hx := B.exec
  have hb := B.bytes
  have hr := B.returns
  have hts := atoms_spec (ws := ws_ yX0_init cX0_init 1 none) B.pre
  have hts : ∀ w ∈ lw_all, w.before _ s = true := fun w h => hts w (List.mem_cons_of_mem _ h)
  have hown : s.vm.findClass RX0 = some m.cls := findClass_of_methodNamed B.named
  have hlocks := B.notSynchronized
  have hin : meth.name = "<init>" := (name_of_methodNamed B.named B.method).1
  subst hsz
  have hD := hD0.self (sz := s.heap.size)
  generalize hAe : va_A [(h0, .inr (0, [.null, .int 0]))] s.heap.size = A at hD ⊢
  have hA : ∀ q : Nat, s.heap.size ≤ q → A q := fun q h => by rw [← hAe]; exact Or.inr h
  have hS : va_S A s.heap s.heap [] := va_S.rf
  have hP : va_P (dC, dI) vwCl [(h0, .inr (0, [.null, .int 0]))] s.heap := hP
  have hl := lv_entry ([.ref h0]) (n := 1) (Nat.le_of_ble_eq_true rfl)
  rw [lg_entry_eq]
  generalize (lg_sl ([.ref h0]) ++ List.replicate (1 - (lg_sl ([.ref h0])).length) Slot.unset).toArray = ls at hl ⊢
  have hl : lv_has ls 1 [(0, .ref h0)] := hl
  refine lv_aload_n hx hb dX0_init_0 rfl (lv_at hl 0 rfl) ?_
  refine W.objInit hx hb hown (hts _ q22) (hts _ q23) (hts _ q24) rfl (by rw [hml]; exact hl.1) rfl dX0_init_1 (Nat.le_of_ble_eq_true rfl) (Nat.le_of_ble_eq_true rfl) ?_
  refine W.eq (g2 := F0 m 4 ls []) rfl ?_
  refine lv_aload_n hx hb dX0_init_4 rfl (lv_at hl 0 rfl) ?_
  refine lv_sipush (v := 256) hx hb dX0_init_5 (by decide) ?_
  refine va_newa (atype := .byte) (ty := .byte) (N' := 256) (a0 := (256, .inl (fun _ => 0))) hx hb (hts _ q32) rfl hK hP hD hS hA (fun _ => rfl) (by decide +kernel) (by decide +kernel) (by decide) (Nat.le_of_ble_eq_true rfl) (Nat.le_of_ble_eq_true rfl) dX0_init_8 (fun qa cL H hK hP hD hS => ?_)
  have hP : va_P (dC, dI) vwCl [(h0, .inr (0, [.null, .int 0])), (qa, .inl (cL, 256, .inl (fun _ => 0)))] H := hP
  have hD : va_D A [(h0, .inr (0, [.null, .int 0])), (qa, .inl (cL, 256, .inl (fun _ => 0)))] := hD
  have hK : va_K (dC, dI) vwCl [(cL, .byte)] s := hK
  refine va_putF (D := (dC, dI)) (ci := 0) (v := .ref qa) (ty := (.array .byte)) (C := RX0) (T := TX0) (N := 2) hx hb hts in_X0 tyX0 tyX0_ok nmX0 hown hK hP hD hS 0 rfl rfl 0 (by decide) (hts _ q25) (fun _ h9 => h9) rfl hin rfl (by decide +kernel) rfl rfl (Nat.le_of_ble_eq_true rfl) dX0_init_10 (fun H locs hP hD hS => ?_)
  have hP : va_P (dC, dI) vwCl [(h0, .inr (0, [.ref qa, .int 0])), (qa, .inl (cL, 256, .inl (fun _ => 0)))] H := hP
  have hD : va_D A [(h0, .inr (0, [.ref qa, .int 0])), (qa, .inl (cL, 256, .inl (fun _ => 0)))] := hD
  have hP9 := hP.sub (ws' := [(h0, .inr (0, [.ref qa, .int (nI 0)])), (qa, .inl (cL, 256, .inl (fun _ => 0)))]) [0, 1] rfl
  have hD9 := hD.sub (ws' := [(h0, .inr (0, [.ref qa, .int (nI 0)])), (qa, .inl (cL, 256, .inl (fun _ => 0)))]) [0, 1] (by decide) rfl
  have hK9 := hK.sub (tys' := [(cL, .byte)]) [0] rfl
  refine W.widen (k := 1) (n := 256) (Nat.le_of_ble_eq_true rfl) (Nat.le_of_ble_eq_true rfl) ?_
  exact W.vret hx hb hr (fun t ht hW => ⟨⟨(cL, qa), rfl, trivial, by rw [ht]; exact hP9, va_K.moved hW.alike hK9, hD9⟩, hS.F ht⟩) hS.2.2 dX0_init_13
set_option maxHeartbeats 4000000 in
set_option maxRecDepth 100000 in
/-- MurmurDesk.trim -/
theorem c_dtrim (l : Launch) (dC : Nat → ClassId) (dI : Nat → Nat → Nat) (h0 ha : Nat) (cA : ClassId) (f : Nat → Int32) (n : Nat) (sz : Nat) (hn : n ≤ 256) (x : Int32) : Met l yX0_trim (ws_ yX0_trim cX0_trim 2 none) ({ frames := 1, cells := 0, slots := 0, locals := 21 }) (va_Pc [.ref h0, .int x] (fun U => U.heap.size = sz ∧ va_P (dC, dI) vwCl [(h0, .inr (0, [.ref ha, .int (nI n)])), (ha, .inl (cA, 256, .inl f))] U.heap ∧ va_K (dC, dI) vwCl [(cA, .byte)] U ∧ va_D (fun _ => True) [(h0, .inr (0, [.ref ha, .int (nI n)])), (ha, .inl (cA, 256, .inl f))])) (va_Qv (fun _ : Unit => True) (fun _ t => va_P (dC, dI) vwCl [(h0, .inr (0, [.ref ha, .int (nI (mv_at n x))])), (ha, .inl (cA, 256, .inl f))] t.heap ∧ va_K (dC, dI) vwCl [(cA, .byte)] t ∧ va_D (va_A [(h0, .inr (0, [.ref ha, .int (nI n)])), (ha, .inl (cA, 256, .inl f))] sz) [(h0, .inr (0, [.ref ha, .int (nI (mv_at n x))])), (ha, .inl (cA, 256, .inl f))]) (va_A [(h0, .inr (0, [.ref ha, .int (nI n)])), (ha, .inl (cA, 256, .inl f))] sz)) 0 0 (va_A [(h0, .inr (0, [.ref ha, .int (nI n)])), (ha, .inl (cA, 256, .inl f))] sz) := by
  refine Met.ofW (cc := cX0_trim) (maxL := 2) (ret := none) (by decide) rfl ?_
  intro p e s m args below meth c s₁ B hml hv
  obtain ⟨rfl, hsz, hP, hK, hD0⟩ := hv
  have hx := B.exec
  have hb := B.bytes
  have hr := B.returns
  have hts := atoms_spec (ws := ws_ yX0_trim cX0_trim 2 none) B.pre
  have hts : ∀ w ∈ lw_all, w.before _ s = true := fun w h => hts w (List.mem_cons_of_mem _ h)
  have hown : s.vm.findClass RX0 = some m.cls := findClass_of_methodNamed B.named
  have hlocks := B.notSynchronized
  subst hsz
  have hD := hD0.self (sz := s.heap.size)
  generalize hAe : va_A [(h0, .inr (0, [.ref ha, .int (nI n)])), (ha, .inl (cA, 256, .inl f))] s.heap.size = A at hD ⊢
  have hA : ∀ q : Nat, s.heap.size ≤ q → A q := fun q h => by rw [← hAe]; exact Or.inr h
  have hS : va_S A s.heap s.heap [] := va_S.rf
  have hP : va_P (dC, dI) vwCl [(h0, .inr (0, [.ref ha, .int (nI n)])), (ha, .inl (cA, 256, .inl f))] s.heap := hP
  have hl := lv_entry ([.ref h0, .int x]) (n := 2) (Nat.le_of_ble_eq_true rfl)
  rw [lg_entry_eq]
  generalize (lg_sl ([.ref h0, .int x]) ++ List.replicate (2 - (lg_sl ([.ref h0, .int x])).length) Slot.unset).toArray = ls at hl ⊢
  have hl : lv_has ls 2 [(0, .ref h0), (1, .int x)] := hl
  refine lv_aload_n hx hb dX0_trim_0 rfl (lv_at hl 0 rfl) ?_
  refine lv_aload_n hx hb dX0_trim_1 rfl (lv_at hl 0 rfl) ?_
  refine lv_iload_n hx hb dX0_trim_2 rfl (lv_at hl 1 rfl) ?_
  have hPc := hP.sub (ws' := [(h0, .inr (0, [.ref ha, .int (nI n)])), (ha, .inl (cA, 256, .inl f))]) [0, 1] rfl
  have hKc := hK.sub (tys' := [(cA, .byte)]) [0] rfl
  refine vp_callSi (W.runV (As := [.int x]) (rest := [.ref h0]) ⟨hx, hb, hml, hown, hts⟩ (c_from l dC dI h0 ha cA f n hn x) (cwV 1 hts (lw_V q44 q46 qs0 q12 q47) rfl rfl rfl (by decide +kernel) ⟨Nat.le_of_ble_eq_true rfl, Nat.le_of_ble_eq_true rfl⟩) ⟨fun a U g mk q => ⟨q.1, q.2.1, va_K.moved (u := U) (U := U.calling g mk a) (Vm.Alike.refl U.vm) q.2.2⟩, va_recv hK hP (ci := 0) (q0 := 0) rfl rfl, fun U hU hW => ⟨rfl, by rw [hU]; exact hPc, va_K.moved hW.alike hKc⟩⟩ rfl rfl hl.1 rfl (lv_room (Nat.le_of_ble_eq_true rfl)) dX0_trim_3 ⟨Nat.le_of_ble_eq_true rfl, Nat.le_of_ble_eq_true rfl⟩) (fun r1 hr1 => ?_)
  have hr1 : r1 = nI (mv_at n x) := hr1
  refine mv_top (y := (nI (mv_at n x))) (hr1) ?_
  refine va_put (D := (dC, dI)) (ci := 0) (v := .int (nI (mv_at n x))) (ty := .int) (C := RX0) (T := TX0) (N := 2) hx hb hts in_X0 tyX0 tyX0_ok nmX0 hown hK hP hD hS 0 rfl rfl 1 (by decide) (hts _ q26) (fun _ h9 => h9) rfl (by decide +kernel) rfl rfl (Nat.le_of_ble_eq_true rfl) dX0_trim_6 (fun H locs hP hD hS => ?_)
  have hP : va_P (dC, dI) vwCl [(h0, .inr (0, [.ref ha, .int (nI (mv_at n x))])), (ha, .inl (cA, 256, .inl f))] H := hP
  have hD : va_D A [(h0, .inr (0, [.ref ha, .int (nI (mv_at n x))])), (ha, .inl (cA, 256, .inl f))] := hD
  have hP9 := hP.sub (ws' := [(h0, .inr (0, [.ref ha, .int (nI (mv_at n x))])), (ha, .inl (cA, 256, .inl f))]) [0, 1] rfl
  have hD9 := hD.sub (ws' := [(h0, .inr (0, [.ref ha, .int (nI (mv_at n x))])), (ha, .inl (cA, 256, .inl f))]) [0, 1] (by decide) rfl
  have hK9 := hK.sub (tys' := [(cA, .byte)]) [0] rfl
  exact W.vret hx hb hr (fun t ht hW => ⟨⟨(), rfl, trivial, by rw [ht]; exact hP9, va_K.moved hW.alike hK9, hD9⟩, hS.F ht⟩) hS.2.2 dX0_trim_9
set_option maxHeartbeats 4000000 in
set_option maxRecDepth 100000 in
/-- MurmurDesk.put -/
theorem c_dput (l : Launch) (dC : Nat → ClassId) (dI : Nat → Nat → Nat) (h0 ha : Nat) (cA : ClassId) (f : Nat → Int32) (n : Nat) (sz : Nat) (hn : n ≤ 256) (a b d z : Int32) : Met l yX0_put (ws_ yX0_put cX0_put 5 (some .boolean)) ({ frames := 1, cells := 0, slots := 0, locals := 22 }) (va_Pc [.ref h0, .int a, .int b, .int d, .int z] (fun U => U.heap.size = sz ∧ va_P (dC, dI) vwCl [(h0, .inr (0, [.ref ha, .int (nI n)])), (ha, .inl (cA, 256, .inl f))] U.heap ∧ va_K (dC, dI) vwCl [(cA, .byte)] U ∧ va_D (fun _ => True) [(h0, .inr (0, [.ref ha, .int (nI n)])), (ha, .inl (cA, 256, .inl f))])) (va_Qi (fun (r : Int32) (u : Nat × (Nat → Int32)) => r = (if n ≤ 240 then 1 else 0) ∧ u.1 = (if n ≤ 240 then n + 16 else n) ∧ u.2 = (if n ≤ 240 then mv_p16 f n a b d z else f)) (fun u t => va_P (dC, dI) vwCl [(h0, .inr (0, [.ref ha, .int (nI (u.1))])), (ha, .inl (cA, 256, .inl u.2))] t.heap ∧ va_K (dC, dI) vwCl [(cA, .byte)] t ∧ va_D (va_A [(h0, .inr (0, [.ref ha, .int (nI n)])), (ha, .inl (cA, 256, .inl f))] sz) [(h0, .inr (0, [.ref ha, .int (nI (u.1))])), (ha, .inl (cA, 256, .inl u.2))]) (va_A [(h0, .inr (0, [.ref ha, .int (nI n)])), (ha, .inl (cA, 256, .inl f))] sz)) 0 0 (va_A [(h0, .inr (0, [.ref ha, .int (nI n)])), (ha, .inl (cA, 256, .inl f))] sz) := by
  refine Met.ofW (cc := cX0_put) (maxL := 5) (ret := (some .boolean)) (by decide) rfl ?_
  intro p e s m args below meth c s₁ B hml hv
  obtain ⟨rfl, hsz, hP, hK, hD0⟩ := hv
  have hx := B.exec
  have hb := B.bytes
  have hr := B.returns
  have hts := atoms_spec (ws := ws_ yX0_put cX0_put 5 (some .boolean)) B.pre
  have hts : ∀ w ∈ lw_all, w.before _ s = true := fun w h => hts w (List.mem_cons_of_mem _ h)
  have hown : s.vm.findClass RX0 = some m.cls := findClass_of_methodNamed B.named
  have hlocks := B.notSynchronized
  subst hsz
  have hD := hD0.self (sz := s.heap.size)
  generalize hAe : va_A [(h0, .inr (0, [.ref ha, .int (nI n)])), (ha, .inl (cA, 256, .inl f))] s.heap.size = A at hD ⊢
  have hA : ∀ q : Nat, s.heap.size ≤ q → A q := fun q h => by rw [← hAe]; exact Or.inr h
  have hS : va_S A s.heap s.heap [] := va_S.rf
  have hP : va_P (dC, dI) vwCl [(h0, .inr (0, [.ref ha, .int (nI n)])), (ha, .inl (cA, 256, .inl f))] s.heap := hP
  have hl := lv_entry ([.ref h0, .int a, .int b, .int d, .int z]) (n := 5) (Nat.le_of_ble_eq_true rfl)
  rw [lg_entry_eq]
  generalize (lg_sl ([.ref h0, .int a, .int b, .int d, .int z]) ++ List.replicate (5 - (lg_sl ([.ref h0, .int a, .int b, .int d, .int z])).length) Slot.unset).toArray = ls at hl ⊢
  have hl : lv_has ls 5 [(0, .ref h0), (1, .int a), (2, .int b), (3, .int d), (4, .int z)] := hl
  refine lv_aload_n hx hb dX0_put_0 rfl (lv_at hl 0 rfl) ?_
  refine va_get (D := (dC, dI)) (ci := 0) (v := .int (nI n)) (C := RX0) (T := TX0) (N := 2) hx hb hts in_X0 hown hK hP 0 rfl rfl 1 (by decide) (hts _ q26) (fun _ h9 => h9) rfl dX0_put_1 ?_
  refine lv_aload_n hx hb dX0_put_4 rfl (lv_at hl 0 rfl) ?_
  refine va_get (D := (dC, dI)) (ci := 0) (v := .ref ha) (C := RX0) (T := TX0) (N := 2) hx hb hts in_X0 hown hK hP 0 rfl rfl 0 (by decide) (hts _ q25) (fun _ h9 => h9) rfl dX0_put_5 ?_
  refine va_alen (v := (nI 256)) hx hb hK hP 1 0 rfl rfl rfl dX0_put_8 ?_
  refine lv_bipush (v := 16) hx hb dX0_put_9 (by decide) ?_
  refine lv_isub hx hb dX0_put_11 ?_
  refine mv_top (y := (nI 240)) (mv_sub (a := 256) (b := 16) (by omega)) ?_
  refine lv_icmp_le (tgt := 17) hx hb dX0_put_12 (by decide) (fun c0 => ?_) (fun c0 => ?_)
  · have h240 : n ≤ 240 := by rw [nI_leI (by omega) (by omega)] at c0; exact c0
    refine lv_aload_n hx hb dX0_put_17 rfl (lv_at hl 0 rfl) ?_
    refine va_get (D := (dC, dI)) (ci := 0) (v := .ref ha) (C := RX0) (T := TX0) (N := 2) hx hb hts in_X0 hown hK hP 0 rfl rfl 0 (by decide) (hts _ q25) (fun _ h9 => h9) rfl dX0_put_18 ?_
    refine lv_aload_n hx hb dX0_put_21 rfl (lv_at hl 0 rfl) ?_
    refine va_get (D := (dC, dI)) (ci := 0) (v := .int (nI n)) (C := RX0) (T := TX0) (N := 2) hx hb hts in_X0 hown hK hP 0 rfl rfl 1 (by decide) (hts _ q26) (fun _ h9 => h9) rfl dX0_put_22 ?_
    refine lv_iload_n hx hb dX0_put_25 rfl (lv_at hl 1 rfl) ?_
    have hPc := hP.sub (ws' := [(ha, .inl (cA, 256, .inl f))]) [1] rfl
    have hDc := hD.sub (ws' := [(ha, .inl (cA, 256, .inl f))]) [1] (by decide) rfl
    have hKc := hK.sub (tys' := [(cA, .byte)]) [0] rfl
    have hFc := va_free (wc := [(ha, .inl (cA, 256, .inl f))]) hD hS hA [1] rfl
    refine va_callv (va_runS (As := [.ref ha, .int (nI n), .int a]) (rest := []) ⟨hx, hb, hml, hown, hts⟩ (c_word l dC dI ha cA f s.heap.size n (by omega) a) (va_cwS 3 hts (lw_S q37 q38 q12 q39) rfl rfl rfl (by decide +kernel) ⟨Nat.le_of_ble_eq_true rfl, Nat.le_of_ble_eq_true rfl⟩) ⟨fun a U g mk q => by obtain ⟨q0, q1, qP, qK, qD⟩ := q; exact ⟨q0, q1, qP, va_K.moved (u := U) (U := U.calling g mk a) (Vm.Alike.refl U.vm) qK, qD⟩, fun U hU hW => ⟨rfl, by rw [hU], by rw [hU]; exact hPc, va_K.moved hW.alike hKc, hDc.weaken (fun _ _ _ _ => trivial)⟩⟩ rfl rfl hl.1 rfl (lv_room (Nat.le_of_ble_eq_true rfl)) dX0_put_26 ⟨Nat.le_of_ble_eq_true rfl, Nat.le_of_ble_eq_true rfl⟩) hS (fun q _ h => hFc q h) hFc (fun u t H1 locs ht hvm hwr1 hB hz1 hk1 hS => ?_)
    obtain ⟨hP1, hK1, hD1⟩ := hB
    rw [ht] at hP1
    have hK1 := va_K.moved hvm.symm hK1
    obtain ⟨hP, hD⟩ := va_join (wr := [(h0, .inr (0, [.ref ha, .int (nI n)]))]) (w1 := [(ha, .inl (cA, 256, .inl (mv_p4 f n a)))]) hP hD [1] [0] rfl rfl (by decide) (by decide) hk1 hFc hP1 hD1
    have hK := (hK.sub (tys' := []) [] rfl).app hK1
    generalize H1 = H at hP hS ⊢
    have hP : va_P (dC, dI) vwCl [(h0, .inr (0, [.ref ha, .int (nI n)])), (ha, .inl (cA, 256, .inl (mv_p4 f n a)))] H := hP
    have hD : va_D A [(h0, .inr (0, [.ref ha, .int (nI n)])), (ha, .inl (cA, 256, .inl (mv_p4 f n a)))] := hD
    have hK : va_K (dC, dI) vwCl [(cA, .byte)] s := hK
    refine lv_aload_n hx hb dX0_put_29 rfl (lv_at hl 0 rfl) ?_
    refine va_get (D := (dC, dI)) (ci := 0) (v := .ref ha) (C := RX0) (T := TX0) (N := 2) hx hb hts in_X0 hown hK hP 0 rfl rfl 0 (by decide) (hts _ q25) (fun _ h9 => h9) rfl dX0_put_30 ?_
    refine lv_aload_n hx hb dX0_put_33 rfl (lv_at hl 0 rfl) ?_
    refine va_get (D := (dC, dI)) (ci := 0) (v := .int (nI n)) (C := RX0) (T := TX0) (N := 2) hx hb hts in_X0 hown hK hP 0 rfl rfl 1 (by decide) (hts _ q26) (fun _ h9 => h9) rfl dX0_put_34 ?_
    refine lv_iconst (v := 4) hx hb dX0_put_37 (by decide) ?_
    refine lv_iadd hx hb dX0_put_38 ?_
    refine mv_top (y := (nI (n + 4))) (mv_add (a := n) (b := 4) (by omega)) ?_
    refine lv_iload_n hx hb dX0_put_39 rfl (lv_at hl 2 rfl) ?_
    have hPc := hP.sub (ws' := [(ha, .inl (cA, 256, .inl (mv_p4 f n a)))]) [1] rfl
    have hDc := hD.sub (ws' := [(ha, .inl (cA, 256, .inl (mv_p4 f n a)))]) [1] (by decide) rfl
    have hKc := hK.sub (tys' := [(cA, .byte)]) [0] rfl
    have hFc := va_free (wc := [(ha, .inl (cA, 256, .inl (mv_p4 f n a)))]) hD hS hA [1] rfl
    refine va_callv (va_runS (As := [.ref ha, .int (nI (n + 4)), .int b]) (rest := []) ⟨hx, hb, hml, hown, hts⟩ (c_word l dC dI ha cA (mv_p4 f n a) H.size (n + 4) (by omega) b) (va_cwS 3 hts (lw_S q37 q38 q12 q39) rfl rfl rfl (by decide +kernel) ⟨Nat.le_of_ble_eq_true rfl, Nat.le_of_ble_eq_true rfl⟩) ⟨fun a U g mk q => by obtain ⟨q0, q1, qP, qK, qD⟩ := q; exact ⟨q0, q1, qP, va_K.moved (u := U) (U := U.calling g mk a) (Vm.Alike.refl U.vm) qK, qD⟩, fun U hU hW => ⟨rfl, by rw [hU], by rw [hU]; exact hPc, va_K.moved hW.alike hKc, hDc.weaken (fun _ _ _ _ => trivial)⟩⟩ rfl rfl hl.1 rfl (lv_room (Nat.le_of_ble_eq_true rfl)) dX0_put_40 ⟨Nat.le_of_ble_eq_true rfl, Nat.le_of_ble_eq_true rfl⟩) hS (fun q _ h => hFc q h) hFc (fun u t H1 locs ht hvm hwr2 hB hz1 hk1 hS => ?_)
    obtain ⟨hP1, hK1, hD1⟩ := hB
    rw [ht] at hP1
    have hK1 := va_K.moved hvm.symm hK1
    obtain ⟨hP, hD⟩ := va_join (wr := [(h0, .inr (0, [.ref ha, .int (nI n)]))]) (w1 := [(ha, .inl (cA, 256, .inl (mv_p4 (mv_p4 f n a) (n + 4) b)))]) hP hD [1] [0] rfl rfl (by decide) (by decide) hk1 hFc hP1 hD1
    have hK := (hK.sub (tys' := []) [] rfl).app hK1
    generalize H1 = H at hP hS ⊢
    have hP : va_P (dC, dI) vwCl [(h0, .inr (0, [.ref ha, .int (nI n)])), (ha, .inl (cA, 256, .inl (mv_p4 (mv_p4 f n a) (n + 4) b)))] H := hP
    have hD : va_D A [(h0, .inr (0, [.ref ha, .int (nI n)])), (ha, .inl (cA, 256, .inl (mv_p4 (mv_p4 f n a) (n + 4) b)))] := hD
    have hK : va_K (dC, dI) vwCl [(cA, .byte)] s := hK
    refine lv_aload_n hx hb dX0_put_43 rfl (lv_at hl 0 rfl) ?_
    refine va_get (D := (dC, dI)) (ci := 0) (v := .ref ha) (C := RX0) (T := TX0) (N := 2) hx hb hts in_X0 hown hK hP 0 rfl rfl 0 (by decide) (hts _ q25) (fun _ h9 => h9) rfl dX0_put_44 ?_
    refine lv_aload_n hx hb dX0_put_47 rfl (lv_at hl 0 rfl) ?_
    refine va_get (D := (dC, dI)) (ci := 0) (v := .int (nI n)) (C := RX0) (T := TX0) (N := 2) hx hb hts in_X0 hown hK hP 0 rfl rfl 1 (by decide) (hts _ q26) (fun _ h9 => h9) rfl dX0_put_48 ?_
    refine lv_bipush (v := 8) hx hb dX0_put_51 (by decide) ?_
    refine lv_iadd hx hb dX0_put_53 ?_
    refine mv_top (y := (nI (n + 8))) (mv_add (a := n) (b := 8) (by omega)) ?_
    refine lv_iload_n hx hb dX0_put_54 rfl (lv_at hl 3 rfl) ?_
    have hPc := hP.sub (ws' := [(ha, .inl (cA, 256, .inl (mv_p4 (mv_p4 f n a) (n + 4) b)))]) [1] rfl
    have hDc := hD.sub (ws' := [(ha, .inl (cA, 256, .inl (mv_p4 (mv_p4 f n a) (n + 4) b)))]) [1] (by decide) rfl
    have hKc := hK.sub (tys' := [(cA, .byte)]) [0] rfl
    have hFc := va_free (wc := [(ha, .inl (cA, 256, .inl (mv_p4 (mv_p4 f n a) (n + 4) b)))]) hD hS hA [1] rfl
    refine va_callv (va_runS (As := [.ref ha, .int (nI (n + 8)), .int d]) (rest := []) ⟨hx, hb, hml, hown, hts⟩ (c_word l dC dI ha cA (mv_p4 (mv_p4 f n a) (n + 4) b) H.size (n + 8) (by omega) d) (va_cwS 3 hts (lw_S q37 q38 q12 q39) rfl rfl rfl (by decide +kernel) ⟨Nat.le_of_ble_eq_true rfl, Nat.le_of_ble_eq_true rfl⟩) ⟨fun a U g mk q => by obtain ⟨q0, q1, qP, qK, qD⟩ := q; exact ⟨q0, q1, qP, va_K.moved (u := U) (U := U.calling g mk a) (Vm.Alike.refl U.vm) qK, qD⟩, fun U hU hW => ⟨rfl, by rw [hU], by rw [hU]; exact hPc, va_K.moved hW.alike hKc, hDc.weaken (fun _ _ _ _ => trivial)⟩⟩ rfl rfl hl.1 rfl (lv_room (Nat.le_of_ble_eq_true rfl)) dX0_put_55 ⟨Nat.le_of_ble_eq_true rfl, Nat.le_of_ble_eq_true rfl⟩) hS (fun q _ h => hFc q h) hFc (fun u t H1 locs ht hvm hwr3 hB hz1 hk1 hS => ?_)
    obtain ⟨hP1, hK1, hD1⟩ := hB
    rw [ht] at hP1
    have hK1 := va_K.moved hvm.symm hK1
    obtain ⟨hP, hD⟩ := va_join (wr := [(h0, .inr (0, [.ref ha, .int (nI n)]))]) (w1 := [(ha, .inl (cA, 256, .inl (mv_p4 (mv_p4 (mv_p4 f n a) (n + 4) b) (n + 8) d)))]) hP hD [1] [0] rfl rfl (by decide) (by decide) hk1 hFc hP1 hD1
    have hK := (hK.sub (tys' := []) [] rfl).app hK1
    generalize H1 = H at hP hS ⊢
    have hP : va_P (dC, dI) vwCl [(h0, .inr (0, [.ref ha, .int (nI n)])), (ha, .inl (cA, 256, .inl (mv_p4 (mv_p4 (mv_p4 f n a) (n + 4) b) (n + 8) d)))] H := hP
    have hD : va_D A [(h0, .inr (0, [.ref ha, .int (nI n)])), (ha, .inl (cA, 256, .inl (mv_p4 (mv_p4 (mv_p4 f n a) (n + 4) b) (n + 8) d)))] := hD
    have hK : va_K (dC, dI) vwCl [(cA, .byte)] s := hK
    refine lv_aload_n hx hb dX0_put_58 rfl (lv_at hl 0 rfl) ?_
    refine va_get (D := (dC, dI)) (ci := 0) (v := .ref ha) (C := RX0) (T := TX0) (N := 2) hx hb hts in_X0 hown hK hP 0 rfl rfl 0 (by decide) (hts _ q25) (fun _ h9 => h9) rfl dX0_put_59 ?_
    refine lv_aload_n hx hb dX0_put_62 rfl (lv_at hl 0 rfl) ?_
    refine va_get (D := (dC, dI)) (ci := 0) (v := .int (nI n)) (C := RX0) (T := TX0) (N := 2) hx hb hts in_X0 hown hK hP 0 rfl rfl 1 (by decide) (hts _ q26) (fun _ h9 => h9) rfl dX0_put_63 ?_
    refine lv_bipush (v := 12) hx hb dX0_put_66 (by decide) ?_
    refine lv_iadd hx hb dX0_put_68 ?_
    refine mv_top (y := (nI (n + 12))) (mv_add (a := n) (b := 12) (by omega)) ?_
    refine lv_iload hx hb dX0_put_69 (lv_at hl 4 rfl) ?_
    have hPc := hP.sub (ws' := [(ha, .inl (cA, 256, .inl (mv_p4 (mv_p4 (mv_p4 f n a) (n + 4) b) (n + 8) d)))]) [1] rfl
    have hDc := hD.sub (ws' := [(ha, .inl (cA, 256, .inl (mv_p4 (mv_p4 (mv_p4 f n a) (n + 4) b) (n + 8) d)))]) [1] (by decide) rfl
    have hKc := hK.sub (tys' := [(cA, .byte)]) [0] rfl
    have hFc := va_free (wc := [(ha, .inl (cA, 256, .inl (mv_p4 (mv_p4 (mv_p4 f n a) (n + 4) b) (n + 8) d)))]) hD hS hA [1] rfl
    refine va_callv (va_runS (As := [.ref ha, .int (nI (n + 12)), .int z]) (rest := []) ⟨hx, hb, hml, hown, hts⟩ (c_word l dC dI ha cA (mv_p4 (mv_p4 (mv_p4 f n a) (n + 4) b) (n + 8) d) H.size (n + 12) (by omega) z) (va_cwS 3 hts (lw_S q37 q38 q12 q39) rfl rfl rfl (by decide +kernel) ⟨Nat.le_of_ble_eq_true rfl, Nat.le_of_ble_eq_true rfl⟩) ⟨fun a U g mk q => by obtain ⟨q0, q1, qP, qK, qD⟩ := q; exact ⟨q0, q1, qP, va_K.moved (u := U) (U := U.calling g mk a) (Vm.Alike.refl U.vm) qK, qD⟩, fun U hU hW => ⟨rfl, by rw [hU], by rw [hU]; exact hPc, va_K.moved hW.alike hKc, hDc.weaken (fun _ _ _ _ => trivial)⟩⟩ rfl rfl hl.1 rfl (lv_room (Nat.le_of_ble_eq_true rfl)) dX0_put_71 ⟨Nat.le_of_ble_eq_true rfl, Nat.le_of_ble_eq_true rfl⟩) hS (fun q _ h => hFc q h) hFc (fun u t H1 locs ht hvm hwr4 hB hz1 hk1 hS => ?_)
    obtain ⟨hP1, hK1, hD1⟩ := hB
    rw [ht] at hP1
    have hK1 := va_K.moved hvm.symm hK1
    obtain ⟨hP, hD⟩ := va_join (wr := [(h0, .inr (0, [.ref ha, .int (nI n)]))]) (w1 := [(ha, .inl (cA, 256, .inl (mv_p4 (mv_p4 (mv_p4 (mv_p4 f n a) (n + 4) b) (n + 8) d) (n + 12) z)))]) hP hD [1] [0] rfl rfl (by decide) (by decide) hk1 hFc hP1 hD1
    have hK := (hK.sub (tys' := []) [] rfl).app hK1
    generalize H1 = H at hP hS ⊢
    have hP : va_P (dC, dI) vwCl [(h0, .inr (0, [.ref ha, .int (nI n)])), (ha, .inl (cA, 256, .inl (mv_p4 (mv_p4 (mv_p4 (mv_p4 f n a) (n + 4) b) (n + 8) d) (n + 12) z)))] H := hP
    have hD : va_D A [(h0, .inr (0, [.ref ha, .int (nI n)])), (ha, .inl (cA, 256, .inl (mv_p4 (mv_p4 (mv_p4 (mv_p4 f n a) (n + 4) b) (n + 8) d) (n + 12) z)))] := hD
    have hK : va_K (dC, dI) vwCl [(cA, .byte)] s := hK
    refine lv_aload_n hx hb dX0_put_74 rfl (lv_at hl 0 rfl) ?_
    refine lv_dup hx hb dX0_put_75 rfl ?_
    refine va_get (D := (dC, dI)) (ci := 0) (v := .int (nI n)) (C := RX0) (T := TX0) (N := 2) hx hb hts in_X0 hown hK hP 0 rfl rfl 1 (by decide) (hts _ q26) (fun _ h9 => h9) rfl dX0_put_76 ?_
    refine lv_bipush (v := 16) hx hb dX0_put_79 (by decide) ?_
    refine lv_iadd hx hb dX0_put_81 ?_
    refine mv_top (y := (nI (n + 16))) (mv_add (a := n) (b := 16) (by omega)) ?_
    refine va_put (D := (dC, dI)) (ci := 0) (v := .int (nI (n + 16))) (ty := .int) (C := RX0) (T := TX0) (N := 2) hx hb hts in_X0 tyX0 tyX0_ok nmX0 hown hK hP hD hS 0 rfl rfl 1 (by decide) (hts _ q26) (fun _ h9 => h9) rfl (by decide +kernel) rfl rfl (Nat.le_of_ble_eq_true rfl) dX0_put_82 (fun H locs hP hD hS => ?_)
    have hP : va_P (dC, dI) vwCl [(h0, .inr (0, [.ref ha, .int (nI (n + 16))])), (ha, .inl (cA, 256, .inl (mv_p4 (mv_p4 (mv_p4 (mv_p4 f n a) (n + 4) b) (n + 8) d) (n + 12) z)))] H := hP
    have hD : va_D A [(h0, .inr (0, [.ref ha, .int (nI (n + 16))])), (ha, .inl (cA, 256, .inl (mv_p4 (mv_p4 (mv_p4 (mv_p4 f n a) (n + 4) b) (n + 8) d) (n + 12) z)))] := hD
    refine lv_iconst (v := 1) hx hb dX0_put_85 (by decide) ?_
    have hP9 := hP.sub (ws' := [(h0, .inr (0, [.ref ha, .int (nI (n + 16))])), (ha, .inl (cA, 256, .inl (mv_p4 (mv_p4 (mv_p4 (mv_p4 f n a) (n + 4) b) (n + 8) d) (n + 12) z)))]) [0, 1] rfl
    have hD9 := hD.sub (ws' := [(h0, .inr (0, [.ref ha, .int (nI (n + 16))])), (ha, .inl (cA, 256, .inl (mv_p4 (mv_p4 (mv_p4 (mv_p4 f n a) (n + 4) b) (n + 8) d) (n + 12) z)))]) [0, 1] (by decide) rfl
    have hK9 := hK.sub (tys' := [(cA, .byte)]) [0] rfl
    exact W.zret (v := 1) hx hb hr rfl (fun t ht hW => ⟨⟨1, (n + 16, (mv_p4 (mv_p4 (mv_p4 (mv_p4 f n a) (n + 4) b) (n + 8) d) (n + 12) z)), rfl, ⟨by rw [if_pos h240], by rw [if_pos h240], by rw [if_pos h240]; rfl⟩, by rw [ht]; exact hP9, va_K.moved hW.alike hK9, hD9⟩, hS.F ht⟩) hS.2.2 dX0_put_86
  · have h240 : ¬ n ≤ 240 := by rw [nI_leI (by omega) (by omega)] at c0; exact c0
    refine lv_iconst (v := 0) hx hb dX0_put_15 (by decide) ?_
    have hP9 := hP.sub (ws' := [(h0, .inr (0, [.ref ha, .int (nI n)])), (ha, .inl (cA, 256, .inl f))]) [0, 1] rfl
    have hD9 := hD.sub (ws' := [(h0, .inr (0, [.ref ha, .int (nI n)])), (ha, .inl (cA, 256, .inl f))]) [0, 1] (by decide) rfl
    have hK9 := hK.sub (tys' := [(cA, .byte)]) [0] rfl
    exact W.zret (v := 0) hx hb hr rfl (fun t ht hW => ⟨⟨0, (n, f), rfl, ⟨by rw [if_neg h240], by rw [if_neg h240], by rw [if_neg h240]⟩, by rw [ht]; exact hP9, va_K.moved hW.alike hK9, hD9⟩, hS.F ht⟩) hS.2.2 dX0_put_16
set_option maxHeartbeats 4000000 in
set_option maxRecDepth 100000 in
/-- MurmurDesk.part -/
theorem c_part (l : Launch) (dC : Nat → ClassId) (dI : Nat → Nat → Nat) (h0 ha : Nat) (cA : ClassId) (f : Nat → Int32) (n : Nat) (sz : Nat) (hn : n ≤ 256) (x y : Int32) : Met l yX0_part (ws_ yX0_part cX0_part 7 (some (.array .byte))) ({ frames := 1, cells := 1, slots := 256, locals := 22 }) (va_Pc [.ref h0, .int x, .int y] (fun U => U.heap.size = sz ∧ va_P (dC, dI) vwCl [(h0, .inr (0, [.ref ha, .int (nI n)])), (ha, .inl (cA, 256, .inl f))] U.heap ∧ va_K (dC, dI) vwCl [(cA, .byte)] U ∧ va_D (fun _ => True) [(h0, .inr (0, [.ref ha, .int (nI n)])), (ha, .inl (cA, 256, .inl f))])) (va_Qr (fun u : ClassId × (Nat → Int32) => ∀ j, j < mv_ct n (mv_at n x) y → u.2 j = (f (mv_at n x + j)).toInt8.toInt32) (fun u a t => va_P (dC, dI) vwCl [(h0, .inr (0, [.ref ha, .int (nI n)])), (ha, .inl (cA, 256, .inl f)), (a, .inl (u.1, (mv_ct n (mv_at n x) y), .inl u.2))] t.heap ∧ va_K (dC, dI) vwCl [(cA, .byte), (u.1, .byte)] t ∧ va_D (va_A [(h0, .inr (0, [.ref ha, .int (nI n)])), (ha, .inl (cA, 256, .inl f))] sz) [(h0, .inr (0, [.ref ha, .int (nI n)])), (ha, .inl (cA, 256, .inl f)), (a, .inl (u.1, (mv_ct n (mv_at n x) y), .inl u.2))]) (va_A [(h0, .inr (0, [.ref ha, .int (nI n)])), (ha, .inl (cA, 256, .inl f))] sz)) 1 256 (va_A [(h0, .inr (0, [.ref ha, .int (nI n)])), (ha, .inl (cA, 256, .inl f))] sz) := by
  refine Met.ofW (cc := cX0_part) (maxL := 7) (ret := (some (.array .byte))) (by decide) rfl ?_
  intro p e s m args below meth c s₁ B hml hv
  obtain ⟨rfl, hsz, hP, hK, hD0⟩ := hv
  have hx := B.exec
  have hb := B.bytes
  have hr := B.returns
  have hts := atoms_spec (ws := ws_ yX0_part cX0_part 7 (some (.array .byte))) B.pre
  have hts : ∀ w ∈ lw_all, w.before _ s = true := fun w h => hts w (List.mem_cons_of_mem _ h)
  have hown : s.vm.findClass RX0 = some m.cls := findClass_of_methodNamed B.named
  have hlocks := B.notSynchronized
  subst hsz
  have hD := hD0.self (sz := s.heap.size)
  generalize hAe : va_A [(h0, .inr (0, [.ref ha, .int (nI n)])), (ha, .inl (cA, 256, .inl f))] s.heap.size = A at hD ⊢
  have hA : ∀ q : Nat, s.heap.size ≤ q → A q := fun q h => by rw [← hAe]; exact Or.inr h
  have hS : va_S A s.heap s.heap [] := va_S.rf
  have hP : va_P (dC, dI) vwCl [(h0, .inr (0, [.ref ha, .int (nI n)])), (ha, .inl (cA, 256, .inl f))] s.heap := hP
  have hl := lv_entry ([.ref h0, .int x, .int y]) (n := 7) (Nat.le_of_ble_eq_true rfl)
  rw [lg_entry_eq]
  generalize (lg_sl ([.ref h0, .int x, .int y]) ++ List.replicate (7 - (lg_sl ([.ref h0, .int x, .int y])).length) Slot.unset).toArray = ls at hl ⊢
  have hl : lv_has ls 7 [(0, .ref h0), (1, .int x), (2, .int y)] := hl
  obtain ⟨o, ho⟩ : ∃ o, o = mv_at n x := ⟨_, rfl⟩
  obtain ⟨k, hk⟩ : ∃ k, k = mv_ct n o y := ⟨_, rfl⟩
  have hon : o ≤ n := by rw [ho]; exact mv_at_le n x
  have hkn : k ≤ n - o := by rw [hk]; exact mv_ct_le n o y
  refine lv_aload_n hx hb dX0_part_0 rfl (lv_at hl 0 rfl) ?_
  refine lv_iload_n hx hb dX0_part_1 rfl (lv_at hl 1 rfl) ?_
  have hPc := hP.sub (ws' := [(h0, .inr (0, [.ref ha, .int (nI n)])), (ha, .inl (cA, 256, .inl f))]) [0, 1] rfl
  have hKc := hK.sub (tys' := [(cA, .byte)]) [0] rfl
  refine vp_callSi (W.runV (As := [.int x]) (rest := []) ⟨hx, hb, hml, hown, hts⟩ (c_from l dC dI h0 ha cA f n hn x) (cwV 1 hts (lw_V q44 q46 qs0 q12 q47) rfl rfl rfl (by decide +kernel) ⟨Nat.le_of_ble_eq_true rfl, Nat.le_of_ble_eq_true rfl⟩) ⟨fun a U g mk q => ⟨q.1, q.2.1, va_K.moved (u := U) (U := U.calling g mk a) (Vm.Alike.refl U.vm) q.2.2⟩, va_recv hK hP (ci := 0) (q0 := 0) rfl rfl, fun U hU hW => ⟨rfl, by rw [hU]; exact hPc, va_K.moved hW.alike hKc⟩⟩ rfl rfl hl.1 rfl (lv_room (Nat.le_of_ble_eq_true rfl)) dX0_part_2 ⟨Nat.le_of_ble_eq_true rfl, Nat.le_of_ble_eq_true rfl⟩) (fun r1 hr1 => ?_)
  have hr1 : r1 = nI (mv_at n x) := hr1
  refine mv_top (y := (nI o)) (by rw [hr1, ho]) ?_
  refine lv_istore_n (lv' := [(3, .int (nI o)), (0, .ref h0), (1, .int x), (2, .int y)]) hx hb dX0_part_5 rfl hl (by decide) rfl (fun ls hl => ?_)
  refine lv_aload_n hx hb dX0_part_6 rfl (lv_at hl 1 rfl) ?_
  refine lv_iload_n hx hb dX0_part_7 rfl (lv_at hl 0 rfl) ?_
  refine lv_iload_n hx hb dX0_part_8 rfl (lv_at hl 3 rfl) ?_
  have hPc := hP.sub (ws' := [(h0, .inr (0, [.ref ha, .int (nI n)])), (ha, .inl (cA, 256, .inl f))]) [0, 1] rfl
  have hKc := hK.sub (tys' := [(cA, .byte)]) [0] rfl
  refine vp_callSi (W.runV (As := [.int (nI o), .int y]) (rest := []) ⟨hx, hb, hml, hown, hts⟩ (c_count l dC dI h0 ha cA f n hn o hon y) (cwV 2 hts (lw_V q57 q59 qs2 q12 q60) rfl rfl rfl (by decide +kernel) ⟨Nat.le_of_ble_eq_true rfl, Nat.le_of_ble_eq_true rfl⟩) ⟨fun a U g mk q => ⟨q.1, q.2.1, va_K.moved (u := U) (U := U.calling g mk a) (Vm.Alike.refl U.vm) q.2.2⟩, va_recv hK hP (ci := 0) (q0 := 0) rfl rfl, fun U hU hW => ⟨rfl, by rw [hU]; exact hPc, va_K.moved hW.alike hKc⟩⟩ rfl rfl hl.1 rfl (lv_room (Nat.le_of_ble_eq_true rfl)) dX0_part_9 ⟨Nat.le_of_ble_eq_true rfl, Nat.le_of_ble_eq_true rfl⟩) (fun r2 hr2 => ?_)
  have hr2 : r2 = nI (mv_ct n o y) := hr2
  refine mv_top (y := (nI k)) (by rw [hr2, hk]) ?_
  refine lv_istore (lv' := [(4, .int (nI k)), (3, .int (nI o)), (0, .ref h0), (1, .int x), (2, .int y)]) hx hb dX0_part_12 hl (by decide) rfl (fun ls hl => ?_)
  refine lv_iload hx hb dX0_part_14 (lv_at hl 0 rfl) ?_
  refine va_newa (atype := .byte) (ty := .byte) (N' := k) (a0 := (k, .inl (fun _ => 0))) hx hb (hts _ q32) rfl hK hP hD hS hA (fun _ => rfl) (nI_pos (by omega)) (nI_clamp (by omega)) (by show k * 1 ≤ 536870912; omega) (Nat.le_of_ble_eq_true rfl) (by show 0 + k ≤ 256; omega) dX0_part_16 (fun qa cL H hK hP hD hS => ?_)
  have hP : va_P (dC, dI) vwCl [(h0, .inr (0, [.ref ha, .int (nI n)])), (ha, .inl (cA, 256, .inl f)), (qa, .inl (cL, k, .inl (fun _ => 0)))] H := hP
  have hD : va_D A [(h0, .inr (0, [.ref ha, .int (nI n)])), (ha, .inl (cA, 256, .inl f)), (qa, .inl (cL, k, .inl (fun _ => 0)))] := hD
  have hK : va_K (dC, dI) vwCl [(cA, .byte), (cL, .byte)] s := hK
  refine W.widen (k := 1) (n := 256) (Nat.le_of_ble_eq_true rfl) (by omega) ?_
  refine lv_astore (lv' := [(5, .ref qa), (4, .int (nI k)), (3, .int (nI o)), (0, .ref h0), (1, .int x), (2, .int y)]) hx hb dX0_part_18 hl (by decide) rfl (fun ls hl => ?_)
  refine lv_iconst (v := 0) hx hb dX0_part_20 (by decide) ?_
  refine mv_top (y := (nI 0)) (rfl) ?_
  refine lv_istore (lv' := [(6, .int (nI 0)), (5, .ref qa), (4, .int (nI k)), (3, .int (nI o)), (0, .ref h0), (1, .int x), (2, .int y)]) hx hb dX0_part_21 hl (by decide) rfl (fun ls hl => ?_)
  have hl := lv_sub hl (l' := [(0, .ref h0), (1, .int x), (2, .int y), (3, .int (nI o)), (4, .int (nI k)), (5, .ref qa), (6, .int (nI 0))]) [4, 5, 6, 3, 2, 1, 0] rfl
  refine mv_loopH (α := Nat × (Nat → Int32)) (fun y0 H locs ls => y0.1 ≤ k ∧ (∀ j, j < y0.1 → y0.2 j = (f (o + j)).toInt8.toInt32) ∧ va_P (dC, dI) vwCl [(h0, .inr (0, [.ref ha, .int (nI n)])), (ha, .inl (cA, 256, .inl f)), (qa, .inl (cL, k, .inl y0.2))] H ∧ va_D A [(h0, .inr (0, [.ref ha, .int (nI n)])), (ha, .inl (cA, 256, .inl f)), (qa, .inl (cL, k, .inl y0.2))] ∧ va_S A s.heap H locs ∧ lv_has ls 7 [(0, .ref h0), (1, .int x), (2, .int y), (3, .int (nI o)), (4, .int (nI k)), (5, .ref qa), (6, .int (nI y0.1))]) (fun _ ls => F0 m 23 ls []) (fun y0 => k - y0.1) ?_ (0, fun _ => 0) _ _ ls ⟨Nat.zero_le k, fun j hj => absurd hj (Nat.not_lt_zero j), hP, hD, hS, hl⟩
  clear hP hD hS hl
  rintro ⟨i, q⟩ H locs ls ⟨hi, hq, hP, hD, hS, hl⟩ ih
  have hi : i ≤ k := hi
  have hq : ∀ j, j < i → q j = (f (o + j)).toInt8.toInt32 := hq
  have hP : va_P (dC, dI) vwCl [(h0, .inr (0, [.ref ha, .int (nI n)])), (ha, .inl (cA, 256, .inl f)), (qa, .inl (cL, k, .inl q))] H := hP
  have hD : va_D A [(h0, .inr (0, [.ref ha, .int (nI n)])), (ha, .inl (cA, 256, .inl f)), (qa, .inl (cL, k, .inl q))] := hD
  have hl : lv_has ls 7 [(0, .ref h0), (1, .int x), (2, .int y), (3, .int (nI o)), (4, .int (nI k)), (5, .ref qa), (6, .int (nI i))] := hl
  have hS : va_S A s.heap H locs := hS
  refine lv_iload hx hb dX0_part_23 (lv_at hl 6 rfl) ?_
  refine lv_iload hx hb dX0_part_25 (lv_at hl 4 rfl) ?_
  refine lv_icmp_ge (tgt := 50) hx hb dX0_part_27 (by decide) (fun c0 => ?_) (fun c0 => ?_)
  · have hik : i = k := by rw [nI_leI (by omega) (by omega)] at c0; omega
    subst hik
    refine lv_aload hx hb dX0_part_50 (lv_at hl 5 rfl) ?_
    subst ho
    subst hk
    have hP9 := hP.sub (ws' := [(h0, .inr (0, [.ref ha, .int (nI n)])), (ha, .inl (cA, 256, .inl f)), (qa, .inl (cL, (mv_ct n (mv_at n x) y), .inl q))]) [0, 1, 2] rfl
    have hD9 := hD.sub (ws' := [(h0, .inr (0, [.ref ha, .int (nI n)])), (ha, .inl (cA, 256, .inl f)), (qa, .inl (cL, (mv_ct n (mv_at n x) y), .inl q))]) [0, 1, 2] (by decide) rfl
    have hK9 := hK.sub (tys' := [(cA, .byte), (cL, .byte)]) [0, 1] rfl
    exact W.aret (v := .ref qa) hx hb hr (Or.inr ⟨_, rfl⟩) (Or.inr ⟨_, rfl⟩) (fun t ht hW => ⟨⟨(cL, q), qa, rfl, hq, by rw [ht]; exact hP9, va_K.moved hW.alike hK9, hD9⟩, hS.F ht⟩) hS.2.2 dX0_part_52
  · have hik : i < k := by rw [nI_leI (by omega) (by omega)] at c0; omega
    refine lv_aload hx hb dX0_part_30 (lv_at hl 5 rfl) ?_
    refine lv_iload hx hb dX0_part_32 (lv_at hl 6 rfl) ?_
    refine lv_aload_n hx hb dX0_part_34 rfl (lv_at hl 0 rfl) ?_
    refine va_get (D := (dC, dI)) (ci := 0) (v := .ref ha) (C := RX0) (T := TX0) (N := 2) hx hb hts in_X0 hown hK hP 0 rfl rfl 0 (by decide) (hts _ q25) (fun _ h9 => h9) rfl dX0_part_35 ?_
    refine lv_iload_n hx hb dX0_part_38 rfl (lv_at hl 3 rfl) ?_
    refine lv_iload hx hb dX0_part_39 (lv_at hl 6 rfl) ?_
    refine lv_iadd hx hb dX0_part_41 ?_
    refine mv_top (y := (nI (o + i))) (mv_add (a := o) (b := i) (by omega)) ?_
    refine mv_bald hx hb hK hP 1 0 rfl rfl (o + i) (by omega) (by omega) dX0_part_42 ?_
    refine mv_bast hx hb hK hP hD hS 2 1 rfl rfl (i) (by omega) (by omega) dX0_part_43 (fun H locs hP hD hS => ?_)
    have hP : va_P (dC, dI) vwCl [(h0, .inr (0, [.ref ha, .int (nI n)])), (ha, .inl (cA, 256, .inl f)), (qa, .inl (cL, k, .inl (upd q i (vp_nar .byte (f (o + i))))))] H := hP
    have hD : va_D A [(h0, .inr (0, [.ref ha, .int (nI n)])), (ha, .inl (cA, 256, .inl f)), (qa, .inl (cL, k, .inl (upd q i (vp_nar .byte (f (o + i))))))] := hD
    refine lv_iinc (v := (nI (i + 1))) (lv' := [(6, .int (nI (i + 1))), (0, .ref h0), (1, .int x), (2, .int y), (3, .int (nI o)), (4, .int (nI k)), (5, .ref qa)]) hx hb dX0_part_44 hl (k := 6) rfl (mv_inc i) (by decide) rfl (fun ls hl => ?_)
    refine lv_goto (tgt := 23) hx hb dX0_part_47 (by decide) ?_
    have hl := lv_sub hl (l' := [(0, .ref h0), (1, .int x), (2, .int y), (3, .int (nI o)), (4, .int (nI k)), (5, .ref qa), (6, .int (nI (i + 1)))]) [1, 2, 3, 4, 5, 6, 0] rfl
    exact ih (i + 1, (upd q i (vp_nar .byte (f (o + i))))) H locs ls ⟨hik, fun j hj => (by show upd q i (vp_nar .byte (f (o + i))) j = _; by_cases hji : j = i; (subst hji; rw [pk_us, vp_nar_byte]); (rw [pk_un hji]; exact hq j (by have hj : j < i + 1 := hj; omega))), hP, hD, hS, hl⟩ (by show k - (i + 1) < k - i; omega)
set_option maxHeartbeats 4000000 in
set_option maxRecDepth 100000 in
/-- MurmurDesk.small -/
theorem c_dsmall (l : Launch) (dC : Nat → ClassId) (dI : Nat → Nat → Nat) (h0 ha : Nat) (cA : ClassId) (f : Nat → Int32) (n : Nat) (sz : Nat) (hn : n ≤ 256) (x w y : Int32) : Met l yX0_small (ws_ yX0_small cX0_small 6 (some .int)) ({ frames := 2, cells := 1, slots := 256, locals := 48 }) (va_Pc [.ref h0, .int x, .int w, .int y] (fun U => U.heap.size = sz ∧ va_P (dC, dI) vwCl [(h0, .inr (0, [.ref ha, .int (nI n)])), (ha, .inl (cA, 256, .inl f))] U.heap ∧ va_K (dC, dI) vwCl [(cA, .byte)] U ∧ va_D (fun _ => True) [(h0, .inr (0, [.ref ha, .int (nI n)])), (ha, .inl (cA, 256, .inl f))])) (va_Qi (fun (r : Int32) (_ : Unit) => r = mv_small f n x w y) (fun _ t => va_P (dC, dI) vwCl [(h0, .inr (0, [.ref ha, .int (nI n)])), (ha, .inl (cA, 256, .inl f))] t.heap ∧ va_K (dC, dI) vwCl [(cA, .byte)] t ∧ va_D (va_A [(h0, .inr (0, [.ref ha, .int (nI n)])), (ha, .inl (cA, 256, .inl f))] sz) [(h0, .inr (0, [.ref ha, .int (nI n)])), (ha, .inl (cA, 256, .inl f))]) (va_A [(h0, .inr (0, [.ref ha, .int (nI n)])), (ha, .inl (cA, 256, .inl f))] sz)) 1 256 (va_A [(h0, .inr (0, [.ref ha, .int (nI n)])), (ha, .inl (cA, 256, .inl f))] sz) := by
  refine Met.ofW (cc := cX0_small) (maxL := 6) (ret := (some .int)) (by decide) rfl ?_
  intro p e s m args below meth c s₁ B hml hv
  obtain ⟨rfl, hsz, hP, hK, hD0⟩ := hv
  have hx := B.exec
  have hb := B.bytes
  have hr := B.returns
  have hts := atoms_spec (ws := ws_ yX0_small cX0_small 6 (some .int)) B.pre
  have hts : ∀ w ∈ lw_all, w.before _ s = true := fun w h => hts w (List.mem_cons_of_mem _ h)
  have hown : s.vm.findClass RX0 = some m.cls := findClass_of_methodNamed B.named
  have hlocks := B.notSynchronized
  subst hsz
  have hD := hD0.self (sz := s.heap.size)
  generalize hAe : va_A [(h0, .inr (0, [.ref ha, .int (nI n)])), (ha, .inl (cA, 256, .inl f))] s.heap.size = A at hD ⊢
  have hA : ∀ q : Nat, s.heap.size ≤ q → A q := fun q h => by rw [← hAe]; exact Or.inr h
  have hS : va_S A s.heap s.heap [] := va_S.rf
  have hP : va_P (dC, dI) vwCl [(h0, .inr (0, [.ref ha, .int (nI n)])), (ha, .inl (cA, 256, .inl f))] s.heap := hP
  have hl := lv_entry ([.ref h0, .int x, .int w, .int y]) (n := 6) (Nat.le_of_ble_eq_true rfl)
  rw [lg_entry_eq]
  generalize (lg_sl ([.ref h0, .int x, .int w, .int y]) ++ List.replicate (6 - (lg_sl ([.ref h0, .int x, .int w, .int y])).length) Slot.unset).toArray = ls at hl ⊢
  have hl : lv_has ls 6 [(0, .ref h0), (1, .int x), (2, .int w), (3, .int y)] := hl
  refine lv_aload_n hx hb dX0_small_0 rfl (lv_at hl 0 rfl) ?_
  refine lv_iload_n hx hb dX0_small_1 rfl (lv_at hl 1 rfl) ?_
  refine lv_aload_n hx hb dX0_small_2 rfl (lv_at hl 0 rfl) ?_
  refine va_get (D := (dC, dI)) (ci := 0) (v := .int (nI n)) (C := RX0) (T := TX0) (N := 2) hx hb hts in_X0 hown hK hP 0 rfl rfl 1 (by decide) (hts _ q26) (fun _ h9 => h9) rfl dX0_small_3 ?_
  have hPc := hP.sub (ws' := [(h0, .inr (0, [.ref ha, .int (nI n)])), (ha, .inl (cA, 256, .inl f))]) [0, 1] rfl
  have hDc := hD.sub (ws' := [(h0, .inr (0, [.ref ha, .int (nI n)])), (ha, .inl (cA, 256, .inl f))]) [0, 1] (by decide) rfl
  have hKc := hK.sub (tys' := [(cA, .byte)]) [0] rfl
  have hFc := va_free (wc := [(h0, .inr (0, [.ref ha, .int (nI n)])), (ha, .inl (cA, 256, .inl f))]) hD hS hA [0, 1] rfl
  refine va_callr (va_runV (As := [.int x, .int (nI n)]) (rest := []) ⟨hx, hb, hml, hown, hts⟩ (c_part l dC dI h0 ha cA f n s.heap.size hn x (nI n)) (cwV 2 hts (lw_V q53 q55 qs1 q12 q56) rfl rfl rfl (by decide +kernel) ⟨Nat.le_of_ble_eq_true rfl, Nat.le_of_ble_eq_true rfl⟩) ⟨fun a U g mk q => by obtain ⟨q0, q1, qP, qK, qD⟩ := q; exact ⟨q0, q1, qP, va_K.moved (u := U) (U := U.calling g mk a) (Vm.Alike.refl U.vm) qK, qD⟩, va_recv hKc hPc (ci := 0) (q0 := 0) rfl rfl, fun U hU hW => ⟨rfl, by rw [hU], by rw [hU]; exact hPc, va_K.moved hW.alike hKc, hDc.weaken (fun _ _ _ _ => trivial)⟩⟩ rfl rfl hl.1 rfl (lv_room (Nat.le_of_ble_eq_true rfl)) dX0_small_6 ⟨Nat.le_of_ble_eq_true rfl, Nat.le_of_ble_eq_true rfl⟩) hS (fun q _ h => hFc q h) hFc (fun u qz t H1 locs ht hvm hwqz hB hz1 hk1 hS => ?_)
  obtain ⟨u1, q⟩ := u
  have hwqz : ∀ j, j < mv_ct n (mv_at n x) (nI n) → q j = (f (mv_at n x + j)).toInt8.toInt32 := hwqz
  obtain ⟨hP1, hK1, hD1⟩ := hB
  rw [ht] at hP1
  have hK1 := va_K.moved hvm.symm hK1
  obtain ⟨hP, hD⟩ := va_join (wr := []) (w1 := [(h0, .inr (0, [.ref ha, .int (nI n)])), (ha, .inl (cA, 256, .inl f)), (qz, .inl (u1, (mv_ct n (mv_at n x) (nI n)), .inl q))]) hP hD [0, 1] [] rfl rfl (by decide) (by decide) hk1 hFc hP1 hD1
  have hK := (hK.sub (tys' := []) [] rfl).app hK1
  generalize H1 = H at hP hS ⊢
  have hP : va_P (dC, dI) vwCl [(h0, .inr (0, [.ref ha, .int (nI n)])), (ha, .inl (cA, 256, .inl f)), (qz, .inl (u1, (mv_ct n (mv_at n x) (nI n)), .inl q))] H := hP
  have hD : va_D A [(h0, .inr (0, [.ref ha, .int (nI n)])), (ha, .inl (cA, 256, .inl f)), (qz, .inl (u1, (mv_ct n (mv_at n x) (nI n)), .inl q))] := hD
  have hK : va_K (dC, dI) vwCl [(cA, .byte), (u1, .byte)] s := hK
  obtain ⟨k, hk⟩ : ∃ k, k = mv_ct n (mv_at n x) (nI n) := ⟨_, rfl⟩
  have hkn : k ≤ n - mv_at n x := by rw [hk]; exact mv_ct_le n _ _
  rw [← hk] at hP hD hwqz
  refine lv_astore (lv' := [(4, .ref qz), (0, .ref h0), (1, .int x), (2, .int w), (3, .int y)]) hx hb dX0_small_9 hl (by decide) rfl (fun ls hl => ?_)
  refine lv_aload hx hb dX0_small_11 (lv_at hl 0 rfl) ?_
  refine va_alen (v := (nI k)) hx hb hK hP 2 1 rfl rfl rfl dX0_small_13 ?_
  refine lv_iconst (v := 4) hx hb dX0_small_14 (by decide) ?_
  refine lv_idiv hx hb dX0_small_15 (by decide +kernel) ?_
  refine mv_top (y := (nI (k / 4))) (mv_div (a := k) (d := 4) (by omega) (by omega) (by omega) rfl) ?_
  refine lv_istore (lv' := [(5, .int (nI (k / 4))), (4, .ref qz), (0, .ref h0), (1, .int x), (2, .int w), (3, .int y)]) hx hb dX0_small_16 hl (by decide) rfl (fun ls hl => ?_)
  obtain ⟨v, hv⟩ : ∃ v, v = mv_wd k w := ⟨_, rfl⟩
  have hv4 : 4 * v ≤ k := by rw [hv]; exact mv_wd_le k w
  have hl := lv_sub hl (l' := [(0, .ref h0), (1, .int x), (2, .int w), (3, .int y), (4, .ref qz), (5, .int (nI (k / 4)))]) [2, 3, 4, 5, 1, 0] rfl
  refine mv_cut (α := Unit) (fun _ ls => lv_has ls 6 [(0, .ref h0), (1, .int x), (2, .int w), (3, .int y), (4, .ref qz)]) (fun _ ls => F0 m 38 ls [.int (nI (4 * v))]) (fun _ ls hl => ?_) (fun hJ => ?_)
  · have hl : lv_has ls 6 [(0, .ref h0), (1, .int x), (2, .int w), (3, .int y), (4, .ref qz)] := hl
    refine lv_istore (lv' := [(5, .int (nI (4 * v))), (0, .ref h0), (1, .int x), (2, .int w), (3, .int y), (4, .ref qz)]) hx hb dX0_small_38 hl (by decide) rfl (fun ls hl => ?_)
    refine lv_aload hx hb dX0_small_40 (lv_at hl 5 rfl) ?_
    refine lv_iload hx hb dX0_small_42 (lv_at hl 0 rfl) ?_
    refine lv_iload_n hx hb dX0_small_44 rfl (lv_at hl 4 rfl) ?_
    have hPc := hP.sub (ws' := [(qz, .inl (u1, k, .inl q))]) [2] rfl
    have hKc := hK.sub (tys' := [(u1, .byte)]) [1] rfl
    refine vp_callSi (W.runS (As := [.ref qz, .int (nI (4 * v)), .int y]) (rest := []) ⟨hx, hb, hml, hown, hts⟩ (c_h32 l dC dI qz u1 k q v hv4 (by omega) y) (va_cwS 3 hts (lw_S q61 q62 q14 q63) rfl rfl rfl (by decide +kernel) ⟨Nat.le_of_ble_eq_true rfl, Nat.le_of_ble_eq_true rfl⟩) ⟨fun a U g mk q => ⟨q.1, q.2.1, va_K.moved (u := U) (U := U.calling g mk a) (Vm.Alike.refl U.vm) q.2.2⟩, fun U hU hW => ⟨rfl, by rw [hU]; exact hPc, va_K.moved hW.alike hKc⟩⟩ rfl rfl hl.1 rfl (lv_room (Nat.le_of_ble_eq_true rfl)) dX0_small_45 ⟨Nat.le_of_ble_eq_true rfl, Nat.le_of_ble_eq_true rfl⟩) (fun r1 hr1 => ?_)
    have hr1 : r1 = mv_h32 q 0 v y := hr1
    have hP9 := hP.sub (ws' := [(h0, .inr (0, [.ref ha, .int (nI n)])), (ha, .inl (cA, 256, .inl f))]) [0, 1] rfl
    have hD9 := hD.sub (ws' := [(h0, .inr (0, [.ref ha, .int (nI n)])), (ha, .inl (cA, 256, .inl f))]) [0, 1] (by decide) rfl
    have hK9 := hK.sub (tys' := [(cA, .byte)]) [0] rfl
    have eR : r1 = mv_small f n x w y := by rw [hr1]; unfold mv_small; rw [← hk, ← hv]; exact mv_h32_congr y (fun j hj => by rw [Nat.zero_add, hwqz j (by omega), bp_b])
    refine W.widen (k := 1) (n := 256) (Nat.le_of_ble_eq_true rfl) (Nat.le_of_ble_eq_true rfl) ?_
    exact W.iret (v := r1) hx hb hr (fun t ht hW => ⟨⟨r1, (), rfl, eR, by rw [ht]; exact hP9, va_K.moved hW.alike hK9, hD9⟩, hS.F ht⟩) hS.2.2 dX0_small_48
  refine lv_iload hx hb dX0_small_18 (lv_at hl 5 rfl) ?_
  refine lv_if_ne (tgt := 27) hx hb dX0_small_20 (by decide) (fun c0 => ?_) (fun c0 => ?_)
  · have hk4 : ¬ k / 4 = 0 := fun h => c0 (by rw [h]; rfl)
    have hmk := mv_mk_lt w
    have ev : mv_mk w % (k / 4 + 1) = v := by rw [hv]; unfold mv_wd; rw [if_neg hk4]
    refine lv_iconst (v := 4) hx hb dX0_small_27 (by decide) ?_
    refine lv_iload_n hx hb dX0_small_28 rfl (lv_at hl 2 rfl) ?_
    refine lv_ldc (v := 2147483647) hx hb hown (hts _ q48) dX0_small_29 ?_
    refine lv_iand hx hb dX0_small_31 ?_
    refine mv_top (y := (nI (mv_mk w))) (mv_mk_and w) ?_
    refine lv_iload hx hb dX0_small_32 (lv_at hl 5 rfl) ?_
    refine lv_iconst (v := 1) hx hb dX0_small_34 (by decide) ?_
    refine lv_iadd hx hb dX0_small_35 ?_
    refine mv_top (y := (nI (k / 4 + 1))) (mv_add (a := k / 4) (b := 1) (by omega)) ?_
    refine lv_irem hx hb dX0_small_36 (nI_ne0 (by omega) (by omega)) ?_
    refine mv_top (y := (nI v)) (mv_rem (a := mv_mk w) (d := k / 4 + 1) (by omega) (by omega) (by omega) ev) ?_
    refine lv_imul hx hb dX0_small_37 ?_
    refine mv_top (y := (nI (4 * v))) (mv_mul (a := 4) (b := v) rfl) ?_
    have hl := lv_sub hl (l' := [(0, .ref h0), (1, .int x), (2, .int w), (3, .int y), (4, .ref qz)]) [0, 1, 2, 3, 4] rfl
    exact hJ () ls hl
  · have hk4 : k / 4 = 0 := by have c1 : nI (k / 4) = nI 0 := c0; exact (nI_eq (by omega) (by omega)).mp c1
    have ev : v = 0 := by rw [hv]; unfold mv_wd; rw [if_pos hk4]
    refine lv_iconst (v := 0) hx hb dX0_small_23 (by decide) ?_
    refine mv_top (y := (nI (4 * v))) (by rw [ev]; rfl) ?_
    refine lv_goto (tgt := 38) hx hb dX0_small_24 (by decide) ?_
    have hl := lv_sub hl (l' := [(0, .ref h0), (1, .int x), (2, .int w), (3, .int y), (4, .ref qz)]) [0, 1, 2, 3, 4] rfl
    exact hJ () ls hl
set_option maxHeartbeats 4000000 in
set_option maxRecDepth 100000 in
/-- MurmurDesk.wide -/
theorem c_dwide (l : Launch) (dC : Nat → ClassId) (dI : Nat → Nat → Nat) (h0 ha : Nat) (cA : ClassId) (f : Nat → Int32) (n : Nat) (sz : Nat) (hn : n ≤ 256) (x y z w : Int32) : Met l yX0_wide (ws_ yX0_wide cX0_wide 6 (some .long)) ({ frames := 2, cells := 2, slots := 258, locals := 56 }) (va_Pc [.ref h0, .int x, .int y, .int z, .int w] (fun U => U.heap.size = sz ∧ va_P (dC, dI) vwCl [(h0, .inr (0, [.ref ha, .int (nI n)])), (ha, .inl (cA, 256, .inl f))] U.heap ∧ va_K (dC, dI) vwCl [(cA, .byte)] U ∧ va_D (fun _ => True) [(h0, .inr (0, [.ref ha, .int (nI n)])), (ha, .inl (cA, 256, .inl f))])) (va_Ql (fun (r : Int64) (_ : Unit) => r = mv_wide f n x y z w) (fun _ t => va_P (dC, dI) vwCl [(h0, .inr (0, [.ref ha, .int (nI n)])), (ha, .inl (cA, 256, .inl f))] t.heap ∧ va_K (dC, dI) vwCl [(cA, .byte)] t ∧ va_D (va_A [(h0, .inr (0, [.ref ha, .int (nI n)])), (ha, .inl (cA, 256, .inl f))] sz) [(h0, .inr (0, [.ref ha, .int (nI n)])), (ha, .inl (cA, 256, .inl f))]) (va_A [(h0, .inr (0, [.ref ha, .int (nI n)])), (ha, .inl (cA, 256, .inl f))] sz)) 2 258 (va_A [(h0, .inr (0, [.ref ha, .int (nI n)])), (ha, .inl (cA, 256, .inl f))] sz) := by
  refine Met.ofW (cc := cX0_wide) (maxL := 6) (ret := (some .long)) (by decide) rfl ?_
  intro p e s m args below meth c s₁ B hml hv
  obtain ⟨rfl, hsz, hP, hK, hD0⟩ := hv
  have hx := B.exec
  have hb := B.bytes
  have hr := B.returns
  have hts := atoms_spec (ws := ws_ yX0_wide cX0_wide 6 (some .long)) B.pre
  have hts : ∀ w ∈ lw_all, w.before _ s = true := fun w h => hts w (List.mem_cons_of_mem _ h)
  have hown : s.vm.findClass RX0 = some m.cls := findClass_of_methodNamed B.named
  have hlocks := B.notSynchronized
  subst hsz
  have hD := hD0.self (sz := s.heap.size)
  generalize hAe : va_A [(h0, .inr (0, [.ref ha, .int (nI n)])), (ha, .inl (cA, 256, .inl f))] s.heap.size = A at hD ⊢
  have hA : ∀ q : Nat, s.heap.size ≤ q → A q := fun q h => by rw [← hAe]; exact Or.inr h
  have hS : va_S A s.heap s.heap [] := va_S.rf
  have hP : va_P (dC, dI) vwCl [(h0, .inr (0, [.ref ha, .int (nI n)])), (ha, .inl (cA, 256, .inl f))] s.heap := hP
  have hl := lv_entry ([.ref h0, .int x, .int y, .int z, .int w]) (n := 6) (Nat.le_of_ble_eq_true rfl)
  rw [lg_entry_eq]
  generalize (lg_sl ([.ref h0, .int x, .int y, .int z, .int w]) ++ List.replicate (6 - (lg_sl ([.ref h0, .int x, .int y, .int z, .int w])).length) Slot.unset).toArray = ls at hl ⊢
  have hl : lv_has ls 6 [(0, .ref h0), (1, .int x), (2, .int y), (3, .int z), (4, .int w)] := hl
  refine lv_aload_n hx hb dX0_wide_0 rfl (lv_at hl 0 rfl) ?_
  refine lv_iload_n hx hb dX0_wide_1 rfl (lv_at hl 1 rfl) ?_
  refine lv_iload_n hx hb dX0_wide_2 rfl (lv_at hl 2 rfl) ?_
  have hPc := hP.sub (ws' := [(h0, .inr (0, [.ref ha, .int (nI n)])), (ha, .inl (cA, 256, .inl f))]) [0, 1] rfl
  have hDc := hD.sub (ws' := [(h0, .inr (0, [.ref ha, .int (nI n)])), (ha, .inl (cA, 256, .inl f))]) [0, 1] (by decide) rfl
  have hKc := hK.sub (tys' := [(cA, .byte)]) [0] rfl
  have hFc := va_free (wc := [(h0, .inr (0, [.ref ha, .int (nI n)])), (ha, .inl (cA, 256, .inl f))]) hD hS hA [0, 1] rfl
  refine va_callr (va_runV (As := [.int x, .int y]) (rest := []) ⟨hx, hb, hml, hown, hts⟩ (c_part l dC dI h0 ha cA f n s.heap.size hn x y) (cwV 2 hts (lw_V q53 q55 qs1 q12 q56) rfl rfl rfl (by decide +kernel) ⟨Nat.le_of_ble_eq_true rfl, Nat.le_of_ble_eq_true rfl⟩) ⟨fun a U g mk q => by obtain ⟨q0, q1, qP, qK, qD⟩ := q; exact ⟨q0, q1, qP, va_K.moved (u := U) (U := U.calling g mk a) (Vm.Alike.refl U.vm) qK, qD⟩, va_recv hKc hPc (ci := 0) (q0 := 0) rfl rfl, fun U hU hW => ⟨rfl, by rw [hU], by rw [hU]; exact hPc, va_K.moved hW.alike hKc, hDc.weaken (fun _ _ _ _ => trivial)⟩⟩ rfl rfl hl.1 rfl (lv_room (Nat.le_of_ble_eq_true rfl)) dX0_wide_3 ⟨Nat.le_of_ble_eq_true rfl, Nat.le_of_ble_eq_true rfl⟩) hS (fun q _ h => hFc q h) hFc (fun u qz t H1 locs ht hvm hwqz hB hz1 hk1 hS => ?_)
  obtain ⟨u1, q⟩ := u
  have hwqz : ∀ j, j < mv_ct n (mv_at n x) y → q j = (f (mv_at n x + j)).toInt8.toInt32 := hwqz
  obtain ⟨hP1, hK1, hD1⟩ := hB
  rw [ht] at hP1
  have hK1 := va_K.moved hvm.symm hK1
  obtain ⟨hP, hD⟩ := va_join (wr := []) (w1 := [(h0, .inr (0, [.ref ha, .int (nI n)])), (ha, .inl (cA, 256, .inl f)), (qz, .inl (u1, (mv_ct n (mv_at n x) y), .inl q))]) hP hD [0, 1] [] rfl rfl (by decide) (by decide) hk1 hFc hP1 hD1
  have hK := (hK.sub (tys' := []) [] rfl).app hK1
  generalize H1 = H at hP hS ⊢
  have hP : va_P (dC, dI) vwCl [(h0, .inr (0, [.ref ha, .int (nI n)])), (ha, .inl (cA, 256, .inl f)), (qz, .inl (u1, (mv_ct n (mv_at n x) y), .inl q))] H := hP
  have hD : va_D A [(h0, .inr (0, [.ref ha, .int (nI n)])), (ha, .inl (cA, 256, .inl f)), (qz, .inl (u1, (mv_ct n (mv_at n x) y), .inl q))] := hD
  have hK : va_K (dC, dI) vwCl [(cA, .byte), (u1, .byte)] s := hK
  obtain ⟨k, hk⟩ : ∃ k, k = mv_ct n (mv_at n x) y := ⟨_, rfl⟩
  have hkn : k ≤ n - mv_at n x := by rw [hk]; exact mv_ct_le n _ _
  rw [← hk] at hP hD hwqz
  refine lv_astore (lv' := [(5, .ref qz), (0, .ref h0), (1, .int x), (2, .int y), (3, .int z), (4, .int w)]) hx hb dX0_wide_6 hl (by decide) rfl (fun ls hl => ?_)
  refine lv_aload hx hb dX0_wide_8 (lv_at hl 0 rfl) ?_
  refine lv_iconst (v := 0) hx hb dX0_wide_10 (by decide) ?_
  refine mv_top (y := (nI 0)) (rfl) ?_
  refine lv_aload hx hb dX0_wide_11 (lv_at hl 0 rfl) ?_
  refine va_alen (v := (nI k)) hx hb hK hP 2 1 rfl rfl rfl dX0_wide_13 ?_
  refine lv_iload_n hx hb dX0_wide_14 rfl (lv_at hl 4 rfl) ?_
  refine lv_ldc (v := 2147483647) hx hb hown (hts _ q48) dX0_wide_15 ?_
  refine lv_iand hx hb dX0_wide_17 ?_
  have hPc := hP.sub (ws' := [(qz, .inl (u1, k, .inl q))]) [2] rfl
  have hDc := hD.sub (ws' := [(qz, .inl (u1, k, .inl q))]) [2] (by decide) rfl
  have hKc := hK.sub (tys' := [(u1, .byte)]) [1] rfl
  have hFc := va_free (wc := [(qz, .inl (u1, k, .inl q))]) hD hS hA [2] rfl
  refine va_callr (va_runS (As := [.ref qz, .int (nI 0), .int (nI k), .int (z &&& 2147483647)]) (rest := []) ⟨hx, hb, hml, hown, hts⟩ (c_h128 l dC dI qz u1 k q H.size (by omega) (z &&& 2147483647)) (va_cwS 4 hts (lw_S q76 q77 q14 q78) rfl rfl rfl (by decide +kernel) ⟨Nat.le_of_ble_eq_true rfl, Nat.le_of_ble_eq_true rfl⟩) ⟨fun a U g mk q => by obtain ⟨q0, q1, qP, qK, qD⟩ := q; exact ⟨q0, q1, qP, va_K.moved (u := U) (U := U.calling g mk a) (Vm.Alike.refl U.vm) qK, qD⟩, fun U hU hW => ⟨rfl, by rw [hU], by rw [hU]; exact hPc, va_K.moved hW.alike hKc, hDc.weaken (fun _ _ _ _ => trivial)⟩⟩ rfl rfl hl.1 rfl (lv_room (Nat.le_of_ble_eq_true rfl)) dX0_wide_18 ⟨Nat.le_of_ble_eq_true rfl, Nat.le_of_ble_eq_true rfl⟩) hS (fun q _ h => hFc q h) hFc (fun u qv t H1 locs ht hvm hwqv hB hz1 hk1 hS => ?_)
  obtain ⟨u2, v⟩ := u
  have hwqv : v 0 = (mv_h128 q 0 k (z &&& 2147483647).toInt64).1 ∧ v 1 = (mv_h128 q 0 k (z &&& 2147483647).toInt64).2 := hwqv
  obtain ⟨hP1, hK1, hD1⟩ := hB
  rw [ht] at hP1
  have hK1 := va_K.moved hvm.symm hK1
  obtain ⟨hP, hD⟩ := va_join (wr := [(h0, .inr (0, [.ref ha, .int (nI n)])), (ha, .inl (cA, 256, .inl f))]) (w1 := [(qz, .inl (u1, k, .inl q)), (qv, .inl (u2, 2, .inr (.inl v)))]) hP hD [2] [0, 1] rfl rfl (by decide) (by decide) hk1 hFc hP1 hD1
  have hK := (hK.sub (tys' := [(cA, .byte)]) [0] rfl).app hK1
  generalize H1 = H at hP hS ⊢
  have hP : va_P (dC, dI) vwCl [(h0, .inr (0, [.ref ha, .int (nI n)])), (ha, .inl (cA, 256, .inl f)), (qz, .inl (u1, k, .inl q)), (qv, .inl (u2, 2, .inr (.inl v)))] H := hP
  have hD : va_D A [(h0, .inr (0, [.ref ha, .int (nI n)])), (ha, .inl (cA, 256, .inl f)), (qz, .inl (u1, k, .inl q)), (qv, .inl (u2, 2, .inr (.inl v)))] := hD
  have hK : va_K (dC, dI) vwCl [(cA, .byte), (u1, .byte), (u2, .long)] s := hK
  have eH : (mv_h128 q 0 k (z &&& 2147483647).toInt64) = mv_wide2 f n x y z := by unfold mv_wide2; rw [← hk]; exact mv_h128_congr _ (fun j hj => by rw [Nat.zero_add, hwqz j hj, bp_b])
  rw [eH] at hwqv
  refine lv_iload hx hb dX0_wide_21 (lv_at hl 5 rfl) ?_
  refine lv_iconst (v := 1) hx hb dX0_wide_23 (by decide) ?_
  refine lv_iand hx hb dX0_wide_24 ?_
  have hm2 : w.toBitVec.toNat % 2 < 2 := Nat.mod_lt _ (by omega)
  refine mv_top (y := (nI (w.toBitVec.toNat % 2))) (pk_and w 1 (by decide +kernel)) ?_
  refine mv_lald hx hb hK hP 3 2 rfl rfl (w.toBitVec.toNat % 2) hm2 (by omega) dX0_wide_25 ?_
  have eR : v (w.toBitVec.toNat % 2) = mv_wide f n x y z w := by
    have e1 : w &&& 1 = nI (w.toBitVec.toNat % 2) := pk_and w 1 (by decide +kernel)
    unfold mv_wide
    rcases (show w.toBitVec.toNat % 2 = 0 ∨ w.toBitVec.toNat % 2 = 1 by omega) with h9 | h9
    · rw [if_pos (by rw [e1, h9]; rfl), h9]; exact hwqv.1
    · rw [if_neg (by rw [e1, h9]; decide +kernel), h9]; exact hwqv.2
  have hP9 := hP.sub (ws' := [(h0, .inr (0, [.ref ha, .int (nI n)])), (ha, .inl (cA, 256, .inl f))]) [0, 1] rfl
  have hD9 := hD.sub (ws' := [(h0, .inr (0, [.ref ha, .int (nI n)])), (ha, .inl (cA, 256, .inl f))]) [0, 1] (by decide) rfl
  have hK9 := hK.sub (tys' := [(cA, .byte)]) [0] rfl
  refine W.widen (k := 2) (n := 258) (Nat.le_of_ble_eq_true rfl) (Nat.le_of_ble_eq_true rfl) ?_
  exact W.lret (v := v (w.toBitVec.toNat % 2)) hx hb hr (fun t ht hW => ⟨⟨_, (), rfl, eR, by rw [ht]; exact hP9, va_K.moved hW.alike hK9, hD9⟩, hS.F ht⟩) hS.2.2 dX0_wide_26
end
section
/-! THE REFERENCE -/
set_option maxRecDepth 100000
theorem mv_b128_1 (f : Nat → Int32) (o : Nat) (s : Int64) (k : Nat) : (mv_b128 f o s (k + 1)).1 = mv_r1 (mv_b128 f o s k).1 (mv_b128 f o s k).2 (mv_num f (o + 16 * k) 8) := by
  rw [mv_b128, mv_st]
theorem mv_b128_2 (f : Nat → Int32) (o : Nat) (s : Int64) (k : Nat) : (mv_b128 f o s (k + 1)).2 = mv_r2 (mv_b128 f o s k).2 (mv_r1 (mv_b128 f o s k).1 (mv_b128 f o s k).2 (mv_num f (o + 16 * k) 8)) (mv_num f (o + 16 * k + 8) 8) := by
  rw [mv_b128, mv_st]
set_option maxHeartbeats 4000000 in
set_option maxRecDepth 100000 in
/-- MurmurDeskModel() -/
theorem c_minit (l : Launch) (dC : Nat → ClassId) (dI : Nat → Nat → Nat) (h0 : Nat) (sz : Nat) : Met l yX1_init (ws_ yX1_init cX1_init 1 none) ({ frames := 1, cells := 1, slots := 256, locals := 12 }) (va_Pc [.ref h0] (fun U => U.heap.size = sz ∧ va_P (dC, dI) vwCl [(h0, .inr (1, [.null, .int 0]))] U.heap ∧ va_K (dC, dI) vwCl [] U ∧ va_D (fun _ => True) [(h0, .inr (1, [.null, .int 0]))])) (va_Qv (fun _ : ClassId × Nat => True) (fun u t => va_P (dC, dI) vwCl [(h0, .inr (1, [.ref u.2, .int (nI 0)])), (u.2, .inl (u.1, 256, .inl (fun _ => 0)))] t.heap ∧ va_K (dC, dI) vwCl [(u.1, .byte)] t ∧ va_D (va_A [(h0, .inr (1, [.null, .int 0]))] sz) [(h0, .inr (1, [.ref u.2, .int (nI 0)])), (u.2, .inl (u.1, 256, .inl (fun _ => 0)))]) (va_A [(h0, .inr (1, [.null, .int 0]))] sz)) 1 256 (va_A [(h0, .inr (1, [.null, .int 0]))] sz) := by
  refine Met.ofW (cc := cX1_init) (maxL := 1) (ret := none) (by decide) rfl ?_
  intro p e s m args below meth c s₁ B hml hv
  obtain ⟨rfl, hsz, hP, hK, hD0⟩ := hv
  have hx := B.exec
  have hb := B.bytes
  have hr := B.returns
  have hts := atoms_spec (ws := ws_ yX1_init cX1_init 1 none) B.pre
  have hts : ∀ w ∈ lw_all, w.before _ s = true := fun w h => hts w (List.mem_cons_of_mem _ h)
  have hown : s.vm.findClass RX1 = some m.cls := findClass_of_methodNamed B.named
  have hlocks := B.notSynchronized
  have hin : meth.name = "<init>" := (name_of_methodNamed B.named B.method).1
  subst hsz
  have hD := hD0.self (sz := s.heap.size)
  generalize hAe : va_A [(h0, .inr (1, [.null, .int 0]))] s.heap.size = A at hD ⊢
  have hA : ∀ q : Nat, s.heap.size ≤ q → A q := fun q h => by rw [← hAe]; exact Or.inr h
  have hS : va_S A s.heap s.heap [] := va_S.rf
  have hP : va_P (dC, dI) vwCl [(h0, .inr (1, [.null, .int 0]))] s.heap := hP
  have hl := lv_entry ([.ref h0]) (n := 1) (Nat.le_of_ble_eq_true rfl)
  rw [lg_entry_eq]
  generalize (lg_sl ([.ref h0]) ++ List.replicate (1 - (lg_sl ([.ref h0])).length) Slot.unset).toArray = ls at hl ⊢
  have hl : lv_has ls 1 [(0, .ref h0)] := hl
  refine lv_aload_n hx hb dX1_init_0 rfl (lv_at hl 0 rfl) ?_
  refine W.objInit hx hb hown (hts _ q99) (hts _ q23) (hts _ q24) rfl (by rw [hml]; exact hl.1) rfl dX1_init_1 (Nat.le_of_ble_eq_true rfl) (Nat.le_of_ble_eq_true rfl) ?_
  refine W.eq (g2 := F0 m 4 ls []) rfl ?_
  refine lv_aload_n hx hb dX1_init_4 rfl (lv_at hl 0 rfl) ?_
  refine lv_sipush (v := 256) hx hb dX1_init_5 (by decide) ?_
  refine va_newa (atype := .byte) (ty := .byte) (N' := 256) (a0 := (256, .inl (fun _ => 0))) hx hb (hts _ q32) rfl hK hP hD hS hA (fun _ => rfl) (by decide +kernel) (by decide +kernel) (by decide) (Nat.le_of_ble_eq_true rfl) (Nat.le_of_ble_eq_true rfl) dX1_init_8 (fun qa cL H hK hP hD hS => ?_)
  have hP : va_P (dC, dI) vwCl [(h0, .inr (1, [.null, .int 0])), (qa, .inl (cL, 256, .inl (fun _ => 0)))] H := hP
  have hD : va_D A [(h0, .inr (1, [.null, .int 0])), (qa, .inl (cL, 256, .inl (fun _ => 0)))] := hD
  have hK : va_K (dC, dI) vwCl [(cL, .byte)] s := hK
  refine va_putF (D := (dC, dI)) (ci := 1) (v := .ref qa) (ty := (.array .byte)) (C := RX1) (T := TX1) (N := 2) hx hb hts in_X1 tyX1 tyX1_ok nmX1 hown hK hP hD hS 0 rfl rfl 0 (by decide) (hts _ q100) (fun _ h9 => h9) rfl hin rfl (by decide +kernel) rfl rfl (Nat.le_of_ble_eq_true rfl) dX1_init_10 (fun H locs hP hD hS => ?_)
  have hP : va_P (dC, dI) vwCl [(h0, .inr (1, [.ref qa, .int 0])), (qa, .inl (cL, 256, .inl (fun _ => 0)))] H := hP
  have hD : va_D A [(h0, .inr (1, [.ref qa, .int 0])), (qa, .inl (cL, 256, .inl (fun _ => 0)))] := hD
  have hP9 := hP.sub (ws' := [(h0, .inr (1, [.ref qa, .int (nI 0)])), (qa, .inl (cL, 256, .inl (fun _ => 0)))]) [0, 1] rfl
  have hD9 := hD.sub (ws' := [(h0, .inr (1, [.ref qa, .int (nI 0)])), (qa, .inl (cL, 256, .inl (fun _ => 0)))]) [0, 1] (by decide) rfl
  have hK9 := hK.sub (tys' := [(cL, .byte)]) [0] rfl
  refine W.widen (k := 1) (n := 256) (Nat.le_of_ble_eq_true rfl) (Nat.le_of_ble_eq_true rfl) ?_
  exact W.vret hx hb hr (fun t ht hW => ⟨⟨(cL, qa), rfl, trivial, by rw [ht]; exact hP9, va_K.moved hW.alike hK9, hD9⟩, hS.F ht⟩) hS.2.2 dX1_init_13
set_option maxHeartbeats 4000000 in
set_option maxRecDepth 100000 in
/-- MurmurDeskModel.trim -/
theorem c_mtrim (l : Launch) (dC : Nat → ClassId) (dI : Nat → Nat → Nat) (h0 ha : Nat) (cA : ClassId) (f : Nat → Int32) (n : Nat) (sz : Nat) (hn : n ≤ 256) (x : Int32) : Met l yX1_trim (ws_ yX1_trim cX1_trim 2 none) ({ frames := 1, cells := 0, slots := 0, locals := 21 }) (va_Pc [.ref h0, .int x] (fun U => U.heap.size = sz ∧ va_P (dC, dI) vwCl [(h0, .inr (1, [.ref ha, .int (nI n)])), (ha, .inl (cA, 256, .inl f))] U.heap ∧ va_K (dC, dI) vwCl [(cA, .byte)] U ∧ va_D (fun _ => True) [(h0, .inr (1, [.ref ha, .int (nI n)])), (ha, .inl (cA, 256, .inl f))])) (va_Qv (fun _ : Unit => True) (fun _ t => va_P (dC, dI) vwCl [(h0, .inr (1, [.ref ha, .int (nI (mv_at n x))])), (ha, .inl (cA, 256, .inl f))] t.heap ∧ va_K (dC, dI) vwCl [(cA, .byte)] t ∧ va_D (va_A [(h0, .inr (1, [.ref ha, .int (nI n)])), (ha, .inl (cA, 256, .inl f))] sz) [(h0, .inr (1, [.ref ha, .int (nI (mv_at n x))])), (ha, .inl (cA, 256, .inl f))]) (va_A [(h0, .inr (1, [.ref ha, .int (nI n)])), (ha, .inl (cA, 256, .inl f))] sz)) 0 0 (va_A [(h0, .inr (1, [.ref ha, .int (nI n)])), (ha, .inl (cA, 256, .inl f))] sz) := by
  refine Met.ofW (cc := cX1_trim) (maxL := 2) (ret := none) (by decide) rfl ?_
  intro p e s m args below meth c s₁ B hml hv
  obtain ⟨rfl, hsz, hP, hK, hD0⟩ := hv
  have hx := B.exec
  have hb := B.bytes
  have hr := B.returns
  have hts := atoms_spec (ws := ws_ yX1_trim cX1_trim 2 none) B.pre
  have hts : ∀ w ∈ lw_all, w.before _ s = true := fun w h => hts w (List.mem_cons_of_mem _ h)
  have hown : s.vm.findClass RX1 = some m.cls := findClass_of_methodNamed B.named
  have hlocks := B.notSynchronized
  subst hsz
  have hD := hD0.self (sz := s.heap.size)
  generalize hAe : va_A [(h0, .inr (1, [.ref ha, .int (nI n)])), (ha, .inl (cA, 256, .inl f))] s.heap.size = A at hD ⊢
  have hA : ∀ q : Nat, s.heap.size ≤ q → A q := fun q h => by rw [← hAe]; exact Or.inr h
  have hS : va_S A s.heap s.heap [] := va_S.rf
  have hP : va_P (dC, dI) vwCl [(h0, .inr (1, [.ref ha, .int (nI n)])), (ha, .inl (cA, 256, .inl f))] s.heap := hP
  have hl := lv_entry ([.ref h0, .int x]) (n := 2) (Nat.le_of_ble_eq_true rfl)
  rw [lg_entry_eq]
  generalize (lg_sl ([.ref h0, .int x]) ++ List.replicate (2 - (lg_sl ([.ref h0, .int x])).length) Slot.unset).toArray = ls at hl ⊢
  have hl : lv_has ls 2 [(0, .ref h0), (1, .int x)] := hl
  refine lv_aload_n hx hb dX1_trim_0 rfl (lv_at hl 0 rfl) ?_
  refine lv_aload_n hx hb dX1_trim_1 rfl (lv_at hl 0 rfl) ?_
  refine lv_iload_n hx hb dX1_trim_2 rfl (lv_at hl 1 rfl) ?_
  have hPc := hP.sub (ws' := [(h0, .inr (1, [.ref ha, .int (nI n)])), (ha, .inl (cA, 256, .inl f))]) [0, 1] rfl
  have hKc := hK.sub (tys' := [(cA, .byte)]) [0] rfl
  refine vp_callSi (W.runV (As := [.int x]) (rest := [.ref h0]) ⟨hx, hb, hml, hown, hts⟩ (c_place l dC dI h0 ha cA f n hn x) (cwV 1 hts (lw_V q116 q118 qs3 q13 q119) rfl rfl rfl (by decide +kernel) ⟨Nat.le_of_ble_eq_true rfl, Nat.le_of_ble_eq_true rfl⟩) ⟨fun a U g mk q => ⟨q.1, q.2.1, va_K.moved (u := U) (U := U.calling g mk a) (Vm.Alike.refl U.vm) q.2.2⟩, va_recv hK hP (ci := 1) (q0 := 0) rfl rfl, fun U hU hW => ⟨rfl, by rw [hU]; exact hPc, va_K.moved hW.alike hKc⟩⟩ rfl rfl hl.1 rfl (lv_room (Nat.le_of_ble_eq_true rfl)) dX1_trim_3 ⟨Nat.le_of_ble_eq_true rfl, Nat.le_of_ble_eq_true rfl⟩) (fun r1 hr1 => ?_)
  have hr1 : r1 = nI (mv_at n x) := hr1
  refine mv_top (y := (nI (mv_at n x))) (hr1) ?_
  refine va_put (D := (dC, dI)) (ci := 1) (v := .int (nI (mv_at n x))) (ty := .int) (C := RX1) (T := TX1) (N := 2) hx hb hts in_X1 tyX1 tyX1_ok nmX1 hown hK hP hD hS 0 rfl rfl 1 (by decide) (hts _ q101) (fun _ h9 => h9) rfl (by decide +kernel) rfl rfl (Nat.le_of_ble_eq_true rfl) dX1_trim_6 (fun H locs hP hD hS => ?_)
  have hP : va_P (dC, dI) vwCl [(h0, .inr (1, [.ref ha, .int (nI (mv_at n x))])), (ha, .inl (cA, 256, .inl f))] H := hP
  have hD : va_D A [(h0, .inr (1, [.ref ha, .int (nI (mv_at n x))])), (ha, .inl (cA, 256, .inl f))] := hD
  have hP9 := hP.sub (ws' := [(h0, .inr (1, [.ref ha, .int (nI (mv_at n x))])), (ha, .inl (cA, 256, .inl f))]) [0, 1] rfl
  have hD9 := hD.sub (ws' := [(h0, .inr (1, [.ref ha, .int (nI (mv_at n x))])), (ha, .inl (cA, 256, .inl f))]) [0, 1] (by decide) rfl
  have hK9 := hK.sub (tys' := [(cA, .byte)]) [0] rfl
  exact W.vret hx hb hr (fun t ht hW => ⟨⟨(), rfl, trivial, by rw [ht]; exact hP9, va_K.moved hW.alike hK9, hD9⟩, hS.F ht⟩) hS.2.2 dX1_trim_9
/-- i words put, one behind the other -/
def mv_pn (f : Nat → Int32) (n : Nat) (q : Nat → Int32) : Nat → (Nat → Int32)
  | 0 => f
  | i + 1 => mv_p4 (mv_pn f n q i) (n + 4 * i) (q i)
set_option maxHeartbeats 4000000 in
set_option maxRecDepth 100000 in
/-- MurmurDeskModel.put -/
theorem c_mput (l : Launch) (dC : Nat → ClassId) (dI : Nat → Nat → Nat) (h0 ha : Nat) (cA : ClassId) (f : Nat → Int32) (n : Nat) (sz : Nat) (hn : n ≤ 256) (a b d z : Int32) : Met l yX1_put (ws_ yX1_put cX1_put 11 (some .boolean)) ({ frames := 0, cells := 1, slots := 4, locals := 0 }) (va_Pc [.ref h0, .int a, .int b, .int d, .int z] (fun U => U.heap.size = sz ∧ va_P (dC, dI) vwCl [(h0, .inr (1, [.ref ha, .int (nI n)])), (ha, .inl (cA, 256, .inl f))] U.heap ∧ va_K (dC, dI) vwCl [(cA, .byte)] U ∧ va_D (fun _ => True) [(h0, .inr (1, [.ref ha, .int (nI n)])), (ha, .inl (cA, 256, .inl f))])) (va_Qi (fun (r : Int32) (u : Nat × (Nat → Int32)) => r = (if n ≤ 240 then 1 else 0) ∧ u.1 = (if n ≤ 240 then n + 16 else n) ∧ u.2 = (if n ≤ 240 then mv_p16 f n a b d z else f)) (fun u t => va_P (dC, dI) vwCl [(h0, .inr (1, [.ref ha, .int (nI (u.1))])), (ha, .inl (cA, 256, .inl u.2))] t.heap ∧ va_K (dC, dI) vwCl [(cA, .byte)] t ∧ va_D (va_A [(h0, .inr (1, [.ref ha, .int (nI n)])), (ha, .inl (cA, 256, .inl f))] sz) [(h0, .inr (1, [.ref ha, .int (nI (u.1))])), (ha, .inl (cA, 256, .inl u.2))]) (va_A [(h0, .inr (1, [.ref ha, .int (nI n)])), (ha, .inl (cA, 256, .inl f))] sz)) 1 4 (va_A [(h0, .inr (1, [.ref ha, .int (nI n)])), (ha, .inl (cA, 256, .inl f))] sz) := by
  refine Met.ofW (cc := cX1_put) (maxL := 11) (ret := (some .boolean)) (by decide) rfl ?_
  intro p e s m args below meth c s₁ B hml hv
  obtain ⟨rfl, hsz, hP, hK, hD0⟩ := hv
  have hx := B.exec
  have hb := B.bytes
  have hr := B.returns
  have hts := atoms_spec (ws := ws_ yX1_put cX1_put 11 (some .boolean)) B.pre
  have hts : ∀ w ∈ lw_all, w.before _ s = true := fun w h => hts w (List.mem_cons_of_mem _ h)
  have hown : s.vm.findClass RX1 = some m.cls := findClass_of_methodNamed B.named
  have hlocks := B.notSynchronized
  subst hsz
  have hD := hD0.self (sz := s.heap.size)
  generalize hAe : va_A [(h0, .inr (1, [.ref ha, .int (nI n)])), (ha, .inl (cA, 256, .inl f))] s.heap.size = A at hD ⊢
  have hA : ∀ q : Nat, s.heap.size ≤ q → A q := fun q h => by rw [← hAe]; exact Or.inr h
  have hS : va_S A s.heap s.heap [] := va_S.rf
  have hP : va_P (dC, dI) vwCl [(h0, .inr (1, [.ref ha, .int (nI n)])), (ha, .inl (cA, 256, .inl f))] s.heap := hP
  have hl := lv_entry ([.ref h0, .int a, .int b, .int d, .int z]) (n := 11) (Nat.le_of_ble_eq_true rfl)
  rw [lg_entry_eq]
  generalize (lg_sl ([.ref h0, .int a, .int b, .int d, .int z]) ++ List.replicate (11 - (lg_sl ([.ref h0, .int a, .int b, .int d, .int z])).length) Slot.unset).toArray = ls at hl ⊢
  have hl : lv_has ls 11 [(0, .ref h0), (1, .int a), (2, .int b), (3, .int d), (4, .int z)] := hl
  refine lv_aload_n hx hb dX1_put_0 rfl (lv_at hl 0 rfl) ?_
  refine va_get (D := (dC, dI)) (ci := 1) (v := .int (nI n)) (C := RX1) (T := TX1) (N := 2) hx hb hts in_X1 hown hK hP 0 rfl rfl 1 (by decide) (hts _ q101) (fun _ h9 => h9) rfl dX1_put_1 ?_
  refine lv_bipush (v := 16) hx hb dX1_put_4 (by decide) ?_
  refine lv_iadd hx hb dX1_put_6 ?_
  refine mv_top (y := (nI (n + 16))) (mv_add (a := n) (b := 16) (by omega)) ?_
  refine lv_sipush (v := 256) hx hb dX1_put_7 (by decide) ?_
  refine mv_top (y := (nI 256)) (rfl) ?_
  refine lv_icmp_le (tgt := 15) hx hb dX1_put_10 (by decide) (fun c0 => ?_) (fun c0 => ?_)
  · have h240 : n ≤ 240 := by rw [nI_leI (by omega) (by omega)] at c0; omega
    refine lv_iconst (v := 4) hx hb dX1_put_15 (by decide) ?_
    refine va_newa (atype := .int) (ty := .int) (N' := 4) (a0 := (4, .inl (fun _ => 0))) hx hb (hts _ q111) rfl hK hP hD hS hA (fun _ => rfl) (by decide +kernel) (by decide +kernel) (by decide) (Nat.le_of_ble_eq_true rfl) (Nat.le_of_ble_eq_true rfl) dX1_put_16 (fun qa cL H hK hP hD hS => ?_)
    have hP : va_P (dC, dI) vwCl [(h0, .inr (1, [.ref ha, .int (nI n)])), (ha, .inl (cA, 256, .inl f)), (qa, .inl (cL, 4, .inl (fun _ => 0)))] H := hP
    have hD : va_D A [(h0, .inr (1, [.ref ha, .int (nI n)])), (ha, .inl (cA, 256, .inl f)), (qa, .inl (cL, 4, .inl (fun _ => 0)))] := hD
    have hK : va_K (dC, dI) vwCl [(cA, .byte), (cL, .int)] s := hK
    refine W.widen (k := 1) (n := 4) (Nat.le_of_ble_eq_true rfl) (Nat.le_of_ble_eq_true rfl) ?_
    refine lv_dup hx hb dX1_put_18 rfl ?_
    refine lv_iconst (v := 0) hx hb dX1_put_19 (by decide) ?_
    refine mv_top (y := (nI 0)) (rfl) ?_
    refine lv_iload_n hx hb dX1_put_20 rfl (lv_at hl 1 rfl) ?_
    refine mv_iast hx hb hK hP hD hS 2 1 rfl rfl (0) (by omega) (by omega) dX1_put_21 (fun H locs hP hD hS => ?_)
    have hP : va_P (dC, dI) vwCl [(h0, .inr (1, [.ref ha, .int (nI n)])), (ha, .inl (cA, 256, .inl f)), (qa, .inl (cL, 4, .inl (upd (fun _ => 0) 0 a)))] H := hP
    have hD : va_D A [(h0, .inr (1, [.ref ha, .int (nI n)])), (ha, .inl (cA, 256, .inl f)), (qa, .inl (cL, 4, .inl (upd (fun _ => 0) 0 a)))] := hD
    refine lv_dup hx hb dX1_put_22 rfl ?_
    refine lv_iconst (v := 1) hx hb dX1_put_23 (by decide) ?_
    refine mv_top (y := (nI 1)) (rfl) ?_
    refine lv_iload_n hx hb dX1_put_24 rfl (lv_at hl 2 rfl) ?_
    refine mv_iast hx hb hK hP hD hS 2 1 rfl rfl (1) (by omega) (by omega) dX1_put_25 (fun H locs hP hD hS => ?_)
    have hP : va_P (dC, dI) vwCl [(h0, .inr (1, [.ref ha, .int (nI n)])), (ha, .inl (cA, 256, .inl f)), (qa, .inl (cL, 4, .inl (upd (upd (fun _ => 0) 0 a) 1 b)))] H := hP
    have hD : va_D A [(h0, .inr (1, [.ref ha, .int (nI n)])), (ha, .inl (cA, 256, .inl f)), (qa, .inl (cL, 4, .inl (upd (upd (fun _ => 0) 0 a) 1 b)))] := hD
    refine lv_dup hx hb dX1_put_26 rfl ?_
    refine lv_iconst (v := 2) hx hb dX1_put_27 (by decide) ?_
    refine mv_top (y := (nI 2)) (rfl) ?_
    refine lv_iload_n hx hb dX1_put_28 rfl (lv_at hl 3 rfl) ?_
    refine mv_iast hx hb hK hP hD hS 2 1 rfl rfl (2) (by omega) (by omega) dX1_put_29 (fun H locs hP hD hS => ?_)
    have hP : va_P (dC, dI) vwCl [(h0, .inr (1, [.ref ha, .int (nI n)])), (ha, .inl (cA, 256, .inl f)), (qa, .inl (cL, 4, .inl (upd (upd (upd (fun _ => 0) 0 a) 1 b) 2 d)))] H := hP
    have hD : va_D A [(h0, .inr (1, [.ref ha, .int (nI n)])), (ha, .inl (cA, 256, .inl f)), (qa, .inl (cL, 4, .inl (upd (upd (upd (fun _ => 0) 0 a) 1 b) 2 d)))] := hD
    refine lv_dup hx hb dX1_put_30 rfl ?_
    refine lv_iconst (v := 3) hx hb dX1_put_31 (by decide) ?_
    refine mv_top (y := (nI 3)) (rfl) ?_
    refine lv_iload hx hb dX1_put_32 (lv_at hl 4 rfl) ?_
    refine mv_iast hx hb hK hP hD hS 2 1 rfl rfl (3) (by omega) (by omega) dX1_put_34 (fun H locs hP hD hS => ?_)
    have hP : va_P (dC, dI) vwCl [(h0, .inr (1, [.ref ha, .int (nI n)])), (ha, .inl (cA, 256, .inl f)), (qa, .inl (cL, 4, .inl (upd (upd (upd (upd (fun _ => 0) 0 a) 1 b) 2 d) 3 z)))] H := hP
    have hD : va_D A [(h0, .inr (1, [.ref ha, .int (nI n)])), (ha, .inl (cA, 256, .inl f)), (qa, .inl (cL, 4, .inl (upd (upd (upd (upd (fun _ => 0) 0 a) 1 b) 2 d) 3 z)))] := hD
    generalize hq : (upd (upd (upd (upd (fun _ => 0) 0 a) 1 b) 2 d) 3 z) = q at hP hD
    have hq0 : q 0 = a := by rw [← hq]; rfl
    have hq1 : q 1 = b := by rw [← hq]; rfl
    have hq2 : q 2 = d := by rw [← hq]; rfl
    have hq3 : q 3 = z := by rw [← hq]; rfl
    refine lv_astore (lv' := [(5, .ref qa), (0, .ref h0), (1, .int a), (2, .int b), (3, .int d), (4, .int z)]) hx hb dX1_put_35 hl (by decide) rfl (fun ls hl => ?_)
    refine lv_aload hx hb dX1_put_37 (lv_at hl 0 rfl) ?_
    refine lv_astore (lv' := [(6, .ref qa), (5, .ref qa), (0, .ref h0), (1, .int a), (2, .int b), (3, .int d), (4, .int z)]) hx hb dX1_put_39 hl (by decide) rfl (fun ls hl => ?_)
    refine lv_aload hx hb dX1_put_41 (lv_at hl 0 rfl) ?_
    refine va_alen (v := (nI 4)) hx hb hK hP 2 1 rfl rfl rfl dX1_put_43 ?_
    refine lv_istore (lv' := [(7, .int (nI 4)), (6, .ref qa), (5, .ref qa), (0, .ref h0), (1, .int a), (2, .int b), (3, .int d), (4, .int z)]) hx hb dX1_put_44 hl (by decide) rfl (fun ls hl => ?_)
    refine lv_iconst (v := 0) hx hb dX1_put_46 (by decide) ?_
    refine mv_top (y := (nI 0)) (rfl) ?_
    refine lv_istore (lv' := [(8, .int (nI 0)), (7, .int (nI 4)), (6, .ref qa), (5, .ref qa), (0, .ref h0), (1, .int a), (2, .int b), (3, .int d), (4, .int z)]) hx hb dX1_put_47 hl (by decide) rfl (fun ls hl => ?_)
    have hl := lv_sub hl (l' := [(0, .ref h0), (6, .ref qa), (7, .int (nI 4)), (8, .int (nI 0))]) [4, 2, 1, 0] rfl
    refine mv_loopH (α := Nat × (Nat → Int32)) (fun y0 H locs ls => y0.1 ≤ 4 ∧ y0.2 = mv_pn f n q y0.1 ∧ va_P (dC, dI) vwCl [(h0, .inr (1, [.ref ha, .int (nI (n + 4 * y0.1))])), (ha, .inl (cA, 256, .inl y0.2)), (qa, .inl (cL, 4, .inl q))] H ∧ va_D A [(h0, .inr (1, [.ref ha, .int (nI (n + 4 * y0.1))])), (ha, .inl (cA, 256, .inl y0.2)), (qa, .inl (cL, 4, .inl q))] ∧ va_S A s.heap H locs ∧ lv_has ls 11 [(0, .ref h0), (6, .ref qa), (7, .int (nI 4)), (8, .int (nI y0.1))]) (fun _ ls => F0 m 49 ls []) (fun y0 => 4 - y0.1) ?_ (0, f) _ _ ls ⟨Nat.zero_le 4, rfl, hP, hD, hS, hl⟩
    clear hP hD hS hl
    rintro ⟨i, g⟩ H locs ls ⟨hi, hg, hP, hD, hS, hl⟩ ih
    have hi : i ≤ 4 := hi
    have hg : g = mv_pn f n q i := hg
    have hP : va_P (dC, dI) vwCl [(h0, .inr (1, [.ref ha, .int (nI (n + 4 * i))])), (ha, .inl (cA, 256, .inl g)), (qa, .inl (cL, 4, .inl q))] H := hP
    have hD : va_D A [(h0, .inr (1, [.ref ha, .int (nI (n + 4 * i))])), (ha, .inl (cA, 256, .inl g)), (qa, .inl (cL, 4, .inl q))] := hD
    have hl : lv_has ls 11 [(0, .ref h0), (6, .ref qa), (7, .int (nI 4)), (8, .int (nI i))] := hl
    have hS : va_S A s.heap H locs := hS
    refine lv_iload hx hb dX1_put_49 (lv_at hl 3 rfl) ?_
    refine lv_iload hx hb dX1_put_51 (lv_at hl 2 rfl) ?_
    refine lv_icmp_ge (tgt := 109) hx hb dX1_put_53 (by decide) (fun c0 => ?_) (fun c0 => ?_)
    · have hik : i = 4 := by rw [nI_leI (by omega) (by omega)] at c0; omega
      subst hik
      refine lv_iconst (v := 1) hx hb dX1_put_109 (by decide) ?_
      have hP9 := hP.sub (ws' := [(h0, .inr (1, [.ref ha, .int (nI (n + 16))])), (ha, .inl (cA, 256, .inl g))]) [0, 1] rfl
      have hD9 := hD.sub (ws' := [(h0, .inr (1, [.ref ha, .int (nI (n + 16))])), (ha, .inl (cA, 256, .inl g))]) [0, 1] (by decide) rfl
      have hK9 := hK.sub (tys' := [(cA, .byte)]) [0] rfl
      have eG : g = mv_p16 f n a b d z := by rw [hg]; show mv_p4 (mv_p4 (mv_p4 (mv_p4 f (n + 4 * 0) (q 0)) (n + 4 * 1) (q 1)) (n + 4 * 2) (q 2)) (n + 4 * 3) (q 3) = _; rw [hq0, hq1, hq2, hq3]; rfl
      exact W.zret (v := 1) hx hb hr rfl (fun t ht hW => ⟨⟨1, (n + 16, g), rfl, ⟨by rw [if_pos h240], by rw [if_pos h240], by rw [if_pos h240]; exact eG⟩, by rw [ht]; exact hP9, va_K.moved hW.alike hK9, hD9⟩, hS.F ht⟩) hS.2.2 dX1_put_110
    · have hik : i < 4 := by rw [nI_leI (by omega) (by omega)] at c0; omega
      refine lv_aload hx hb dX1_put_56 (lv_at hl 1 rfl) ?_
      refine lv_iload hx hb dX1_put_58 (lv_at hl 3 rfl) ?_
      refine mv_iald hx hb hK hP 2 1 rfl rfl (i) (by omega) (by omega) dX1_put_60 ?_
      refine lv_topi (fun f1 ef1 => ?_)
      refine lv_istore (lv' := [(9, .int f1), (0, .ref h0), (6, .ref qa), (7, .int (nI 4)), (8, .int (nI i))]) hx hb dX1_put_61 hl (by decide) rfl (fun ls hl => ?_)
      refine lv_bipush (v := 24) hx hb dX1_put_63 (by decide) ?_
      refine lv_istore (lv' := [(10, .int 24), (9, .int f1), (0, .ref h0), (6, .ref qa), (7, .int (nI 4)), (8, .int (nI i))]) hx hb dX1_put_65 hl (by decide) rfl (fun ls hl => ?_)
      refine lv_iload hx hb dX1_put_67 (lv_at hl 0 rfl) ?_
      refine lv_if_lt (tgt := 103) hx hb dX1_put_69 (by decide) (fun c1 => absurd c1 (by decide +kernel)) (fun c1 => ?_)
      refine lv_aload_n hx hb dX1_put_72 rfl (lv_at hl 2 rfl) ?_
      refine va_get (D := (dC, dI)) (ci := 1) (v := .ref ha) (C := RX1) (T := TX1) (N := 2) hx hb hts in_X1 hown hK hP 0 rfl rfl 0 (by decide) (hts _ q100) (fun _ h9 => h9) rfl dX1_put_73 ?_
      refine lv_aload_n hx hb dX1_put_76 rfl (lv_at hl 2 rfl) ?_
      refine va_get (D := (dC, dI)) (ci := 1) (v := .int (nI (n + 4 * i))) (C := RX1) (T := TX1) (N := 2) hx hb hts in_X1 hown hK hP 0 rfl rfl 1 (by decide) (hts _ q101) (fun _ h9 => h9) rfl dX1_put_77 ?_
      refine lv_iload hx hb dX1_put_80 (lv_at hl 1 rfl) ?_
      refine lv_iload hx hb dX1_put_82 (lv_at hl 0 rfl) ?_
      refine lv_ishr hx hb dX1_put_84 ?_
      refine lv_i2b (v := ((f1 >>> ((24 : Int32) &&& 31)).toInt8.toInt32)) hx hb dX1_put_85 rfl ?_
      refine mv_bast hx hb hK hP hD hS 1 0 rfl rfl (n + 4 * i) (by omega) (by omega) dX1_put_86 (fun H locs hP hD hS => ?_)
      have hP : va_P (dC, dI) vwCl [(h0, .inr (1, [.ref ha, .int (nI (n + 4 * i))])), (ha, .inl (cA, 256, .inl (upd g (n + 4 * i) (mv_bt f1 24)))), (qa, .inl (cL, 4, .inl q))] H := hP
      have hD : va_D A [(h0, .inr (1, [.ref ha, .int (nI (n + 4 * i))])), (ha, .inl (cA, 256, .inl (upd g (n + 4 * i) (mv_bt f1 24)))), (qa, .inl (cL, 4, .inl q))] := hD
      refine lv_aload_n hx hb dX1_put_87 rfl (lv_at hl 2 rfl) ?_
      refine lv_dup hx hb dX1_put_88 rfl ?_
      refine va_get (D := (dC, dI)) (ci := 1) (v := .int (nI (n + 4 * i))) (C := RX1) (T := TX1) (N := 2) hx hb hts in_X1 hown hK hP 0 rfl rfl 1 (by decide) (hts _ q101) (fun _ h9 => h9) rfl dX1_put_89 ?_
      refine lv_iconst (v := 1) hx hb dX1_put_92 (by decide) ?_
      refine lv_iadd hx hb dX1_put_93 ?_
      refine mv_top (y := (nI (n + 4 * i + 1))) (mv_add (a := n + 4 * i) (b := 1) (by omega)) ?_
      refine va_put (D := (dC, dI)) (ci := 1) (v := .int (nI (n + 4 * i + 1))) (ty := .int) (C := RX1) (T := TX1) (N := 2) hx hb hts in_X1 tyX1 tyX1_ok nmX1 hown hK hP hD hS 0 rfl rfl 1 (by decide) (hts _ q101) (fun _ h9 => h9) rfl (by decide +kernel) rfl rfl (Nat.le_of_ble_eq_true rfl) dX1_put_94 (fun H locs hP hD hS => ?_)
      have hP : va_P (dC, dI) vwCl [(h0, .inr (1, [.ref ha, .int (nI (n + 4 * i + 1))])), (ha, .inl (cA, 256, .inl (upd g (n + 4 * i) (mv_bt f1 24)))), (qa, .inl (cL, 4, .inl q))] H := hP
      have hD : va_D A [(h0, .inr (1, [.ref ha, .int (nI (n + 4 * i + 1))])), (ha, .inl (cA, 256, .inl (upd g (n + 4 * i) (mv_bt f1 24)))), (qa, .inl (cL, 4, .inl q))] := hD
      refine lv_iinc (v := 16) (lv' := [(10, .int 16), (9, .int f1), (0, .ref h0), (6, .ref qa), (7, .int (nI 4)), (8, .int (nI i))]) hx hb dX1_put_97 hl (k := 0) rfl (by decide +kernel) (by decide) rfl (fun ls hl => ?_)
      refine lv_goto (tgt := 67) hx hb dX1_put_100 (by decide) ?_
      refine lv_iload hx hb dX1_put_67 (lv_at hl 0 rfl) ?_
      refine lv_if_lt (tgt := 103) hx hb dX1_put_69 (by decide) (fun c1 => absurd c1 (by decide +kernel)) (fun c1 => ?_)
      refine lv_aload_n hx hb dX1_put_72 rfl (lv_at hl 2 rfl) ?_
      refine va_get (D := (dC, dI)) (ci := 1) (v := .ref ha) (C := RX1) (T := TX1) (N := 2) hx hb hts in_X1 hown hK hP 0 rfl rfl 0 (by decide) (hts _ q100) (fun _ h9 => h9) rfl dX1_put_73 ?_
      refine lv_aload_n hx hb dX1_put_76 rfl (lv_at hl 2 rfl) ?_
      refine va_get (D := (dC, dI)) (ci := 1) (v := .int (nI (n + 4 * i + 1))) (C := RX1) (T := TX1) (N := 2) hx hb hts in_X1 hown hK hP 0 rfl rfl 1 (by decide) (hts _ q101) (fun _ h9 => h9) rfl dX1_put_77 ?_
      refine lv_iload hx hb dX1_put_80 (lv_at hl 1 rfl) ?_
      refine lv_iload hx hb dX1_put_82 (lv_at hl 0 rfl) ?_
      refine lv_ishr hx hb dX1_put_84 ?_
      refine lv_i2b (v := ((f1 >>> ((16 : Int32) &&& 31)).toInt8.toInt32)) hx hb dX1_put_85 rfl ?_
      refine mv_bast hx hb hK hP hD hS 1 0 rfl rfl (n + 4 * i + 1) (by omega) (by omega) dX1_put_86 (fun H locs hP hD hS => ?_)
      have hP : va_P (dC, dI) vwCl [(h0, .inr (1, [.ref ha, .int (nI (n + 4 * i + 1))])), (ha, .inl (cA, 256, .inl (upd (upd g (n + 4 * i) (mv_bt f1 24)) (n + 4 * i + 1) (mv_bt f1 16)))), (qa, .inl (cL, 4, .inl q))] H := hP
      have hD : va_D A [(h0, .inr (1, [.ref ha, .int (nI (n + 4 * i + 1))])), (ha, .inl (cA, 256, .inl (upd (upd g (n + 4 * i) (mv_bt f1 24)) (n + 4 * i + 1) (mv_bt f1 16)))), (qa, .inl (cL, 4, .inl q))] := hD
      refine lv_aload_n hx hb dX1_put_87 rfl (lv_at hl 2 rfl) ?_
      refine lv_dup hx hb dX1_put_88 rfl ?_
      refine va_get (D := (dC, dI)) (ci := 1) (v := .int (nI (n + 4 * i + 1))) (C := RX1) (T := TX1) (N := 2) hx hb hts in_X1 hown hK hP 0 rfl rfl 1 (by decide) (hts _ q101) (fun _ h9 => h9) rfl dX1_put_89 ?_
      refine lv_iconst (v := 1) hx hb dX1_put_92 (by decide) ?_
      refine lv_iadd hx hb dX1_put_93 ?_
      refine mv_top (y := (nI (n + 4 * i + 2))) (mv_add (a := n + 4 * i + 1) (b := 1) (by omega)) ?_
      refine va_put (D := (dC, dI)) (ci := 1) (v := .int (nI (n + 4 * i + 2))) (ty := .int) (C := RX1) (T := TX1) (N := 2) hx hb hts in_X1 tyX1 tyX1_ok nmX1 hown hK hP hD hS 0 rfl rfl 1 (by decide) (hts _ q101) (fun _ h9 => h9) rfl (by decide +kernel) rfl rfl (Nat.le_of_ble_eq_true rfl) dX1_put_94 (fun H locs hP hD hS => ?_)
      have hP : va_P (dC, dI) vwCl [(h0, .inr (1, [.ref ha, .int (nI (n + 4 * i + 2))])), (ha, .inl (cA, 256, .inl (upd (upd g (n + 4 * i) (mv_bt f1 24)) (n + 4 * i + 1) (mv_bt f1 16)))), (qa, .inl (cL, 4, .inl q))] H := hP
      have hD : va_D A [(h0, .inr (1, [.ref ha, .int (nI (n + 4 * i + 2))])), (ha, .inl (cA, 256, .inl (upd (upd g (n + 4 * i) (mv_bt f1 24)) (n + 4 * i + 1) (mv_bt f1 16)))), (qa, .inl (cL, 4, .inl q))] := hD
      refine lv_iinc (v := 8) (lv' := [(10, .int 8), (9, .int f1), (0, .ref h0), (6, .ref qa), (7, .int (nI 4)), (8, .int (nI i))]) hx hb dX1_put_97 hl (k := 0) rfl (by decide +kernel) (by decide) rfl (fun ls hl => ?_)
      refine lv_goto (tgt := 67) hx hb dX1_put_100 (by decide) ?_
      refine lv_iload hx hb dX1_put_67 (lv_at hl 0 rfl) ?_
      refine lv_if_lt (tgt := 103) hx hb dX1_put_69 (by decide) (fun c1 => absurd c1 (by decide +kernel)) (fun c1 => ?_)
      refine lv_aload_n hx hb dX1_put_72 rfl (lv_at hl 2 rfl) ?_
      refine va_get (D := (dC, dI)) (ci := 1) (v := .ref ha) (C := RX1) (T := TX1) (N := 2) hx hb hts in_X1 hown hK hP 0 rfl rfl 0 (by decide) (hts _ q100) (fun _ h9 => h9) rfl dX1_put_73 ?_
      refine lv_aload_n hx hb dX1_put_76 rfl (lv_at hl 2 rfl) ?_
      refine va_get (D := (dC, dI)) (ci := 1) (v := .int (nI (n + 4 * i + 2))) (C := RX1) (T := TX1) (N := 2) hx hb hts in_X1 hown hK hP 0 rfl rfl 1 (by decide) (hts _ q101) (fun _ h9 => h9) rfl dX1_put_77 ?_
      refine lv_iload hx hb dX1_put_80 (lv_at hl 1 rfl) ?_
      refine lv_iload hx hb dX1_put_82 (lv_at hl 0 rfl) ?_
      refine lv_ishr hx hb dX1_put_84 ?_
      refine lv_i2b (v := ((f1 >>> ((8 : Int32) &&& 31)).toInt8.toInt32)) hx hb dX1_put_85 rfl ?_
      refine mv_bast hx hb hK hP hD hS 1 0 rfl rfl (n + 4 * i + 2) (by omega) (by omega) dX1_put_86 (fun H locs hP hD hS => ?_)
      have hP : va_P (dC, dI) vwCl [(h0, .inr (1, [.ref ha, .int (nI (n + 4 * i + 2))])), (ha, .inl (cA, 256, .inl (upd (upd (upd g (n + 4 * i) (mv_bt f1 24)) (n + 4 * i + 1) (mv_bt f1 16)) (n + 4 * i + 2) (mv_bt f1 8)))), (qa, .inl (cL, 4, .inl q))] H := hP
      have hD : va_D A [(h0, .inr (1, [.ref ha, .int (nI (n + 4 * i + 2))])), (ha, .inl (cA, 256, .inl (upd (upd (upd g (n + 4 * i) (mv_bt f1 24)) (n + 4 * i + 1) (mv_bt f1 16)) (n + 4 * i + 2) (mv_bt f1 8)))), (qa, .inl (cL, 4, .inl q))] := hD
      refine lv_aload_n hx hb dX1_put_87 rfl (lv_at hl 2 rfl) ?_
      refine lv_dup hx hb dX1_put_88 rfl ?_
      refine va_get (D := (dC, dI)) (ci := 1) (v := .int (nI (n + 4 * i + 2))) (C := RX1) (T := TX1) (N := 2) hx hb hts in_X1 hown hK hP 0 rfl rfl 1 (by decide) (hts _ q101) (fun _ h9 => h9) rfl dX1_put_89 ?_
      refine lv_iconst (v := 1) hx hb dX1_put_92 (by decide) ?_
      refine lv_iadd hx hb dX1_put_93 ?_
      refine mv_top (y := (nI (n + 4 * i + 3))) (mv_add (a := n + 4 * i + 2) (b := 1) (by omega)) ?_
      refine va_put (D := (dC, dI)) (ci := 1) (v := .int (nI (n + 4 * i + 3))) (ty := .int) (C := RX1) (T := TX1) (N := 2) hx hb hts in_X1 tyX1 tyX1_ok nmX1 hown hK hP hD hS 0 rfl rfl 1 (by decide) (hts _ q101) (fun _ h9 => h9) rfl (by decide +kernel) rfl rfl (Nat.le_of_ble_eq_true rfl) dX1_put_94 (fun H locs hP hD hS => ?_)
      have hP : va_P (dC, dI) vwCl [(h0, .inr (1, [.ref ha, .int (nI (n + 4 * i + 3))])), (ha, .inl (cA, 256, .inl (upd (upd (upd g (n + 4 * i) (mv_bt f1 24)) (n + 4 * i + 1) (mv_bt f1 16)) (n + 4 * i + 2) (mv_bt f1 8)))), (qa, .inl (cL, 4, .inl q))] H := hP
      have hD : va_D A [(h0, .inr (1, [.ref ha, .int (nI (n + 4 * i + 3))])), (ha, .inl (cA, 256, .inl (upd (upd (upd g (n + 4 * i) (mv_bt f1 24)) (n + 4 * i + 1) (mv_bt f1 16)) (n + 4 * i + 2) (mv_bt f1 8)))), (qa, .inl (cL, 4, .inl q))] := hD
      refine lv_iinc (v := 0) (lv' := [(10, .int 0), (9, .int f1), (0, .ref h0), (6, .ref qa), (7, .int (nI 4)), (8, .int (nI i))]) hx hb dX1_put_97 hl (k := 0) rfl (by decide +kernel) (by decide) rfl (fun ls hl => ?_)
      refine lv_goto (tgt := 67) hx hb dX1_put_100 (by decide) ?_
      refine lv_iload hx hb dX1_put_67 (lv_at hl 0 rfl) ?_
      refine lv_if_lt (tgt := 103) hx hb dX1_put_69 (by decide) (fun c1 => absurd c1 (by decide +kernel)) (fun c1 => ?_)
      refine lv_aload_n hx hb dX1_put_72 rfl (lv_at hl 2 rfl) ?_
      refine va_get (D := (dC, dI)) (ci := 1) (v := .ref ha) (C := RX1) (T := TX1) (N := 2) hx hb hts in_X1 hown hK hP 0 rfl rfl 0 (by decide) (hts _ q100) (fun _ h9 => h9) rfl dX1_put_73 ?_
      refine lv_aload_n hx hb dX1_put_76 rfl (lv_at hl 2 rfl) ?_
      refine va_get (D := (dC, dI)) (ci := 1) (v := .int (nI (n + 4 * i + 3))) (C := RX1) (T := TX1) (N := 2) hx hb hts in_X1 hown hK hP 0 rfl rfl 1 (by decide) (hts _ q101) (fun _ h9 => h9) rfl dX1_put_77 ?_
      refine lv_iload hx hb dX1_put_80 (lv_at hl 1 rfl) ?_
      refine lv_iload hx hb dX1_put_82 (lv_at hl 0 rfl) ?_
      refine lv_ishr hx hb dX1_put_84 ?_
      refine lv_i2b (v := ((f1 >>> ((0 : Int32) &&& 31)).toInt8.toInt32)) hx hb dX1_put_85 rfl ?_
      refine mv_bast hx hb hK hP hD hS 1 0 rfl rfl (n + 4 * i + 3) (by omega) (by omega) dX1_put_86 (fun H locs hP hD hS => ?_)
      have hP : va_P (dC, dI) vwCl [(h0, .inr (1, [.ref ha, .int (nI (n + 4 * i + 3))])), (ha, .inl (cA, 256, .inl (upd (upd (upd (upd g (n + 4 * i) (mv_bt f1 24)) (n + 4 * i + 1) (mv_bt f1 16)) (n + 4 * i + 2) (mv_bt f1 8)) (n + 4 * i + 3) (mv_bt f1 0)))), (qa, .inl (cL, 4, .inl q))] H := hP
      have hD : va_D A [(h0, .inr (1, [.ref ha, .int (nI (n + 4 * i + 3))])), (ha, .inl (cA, 256, .inl (upd (upd (upd (upd g (n + 4 * i) (mv_bt f1 24)) (n + 4 * i + 1) (mv_bt f1 16)) (n + 4 * i + 2) (mv_bt f1 8)) (n + 4 * i + 3) (mv_bt f1 0)))), (qa, .inl (cL, 4, .inl q))] := hD
      refine lv_aload_n hx hb dX1_put_87 rfl (lv_at hl 2 rfl) ?_
      refine lv_dup hx hb dX1_put_88 rfl ?_
      refine va_get (D := (dC, dI)) (ci := 1) (v := .int (nI (n + 4 * i + 3))) (C := RX1) (T := TX1) (N := 2) hx hb hts in_X1 hown hK hP 0 rfl rfl 1 (by decide) (hts _ q101) (fun _ h9 => h9) rfl dX1_put_89 ?_
      refine lv_iconst (v := 1) hx hb dX1_put_92 (by decide) ?_
      refine lv_iadd hx hb dX1_put_93 ?_
      refine mv_top (y := (nI (n + 4 * i + 4))) (mv_add (a := n + 4 * i + 3) (b := 1) (by omega)) ?_
      refine mv_top (y := (nI (n + 4 * (i + 1)))) (congrArg nI (by omega)) ?_
      refine va_put (D := (dC, dI)) (ci := 1) (v := .int (nI (n + 4 * (i + 1)))) (ty := .int) (C := RX1) (T := TX1) (N := 2) hx hb hts in_X1 tyX1 tyX1_ok nmX1 hown hK hP hD hS 0 rfl rfl 1 (by decide) (hts _ q101) (fun _ h9 => h9) rfl (by decide +kernel) rfl rfl (Nat.le_of_ble_eq_true rfl) dX1_put_94 (fun H locs hP hD hS => ?_)
      have hP : va_P (dC, dI) vwCl [(h0, .inr (1, [.ref ha, .int (nI (n + 4 * (i + 1)))])), (ha, .inl (cA, 256, .inl (upd (upd (upd (upd g (n + 4 * i) (mv_bt f1 24)) (n + 4 * i + 1) (mv_bt f1 16)) (n + 4 * i + 2) (mv_bt f1 8)) (n + 4 * i + 3) (mv_bt f1 0)))), (qa, .inl (cL, 4, .inl q))] H := hP
      have hD : va_D A [(h0, .inr (1, [.ref ha, .int (nI (n + 4 * (i + 1)))])), (ha, .inl (cA, 256, .inl (upd (upd (upd (upd g (n + 4 * i) (mv_bt f1 24)) (n + 4 * i + 1) (mv_bt f1 16)) (n + 4 * i + 2) (mv_bt f1 8)) (n + 4 * i + 3) (mv_bt f1 0)))), (qa, .inl (cL, 4, .inl q))] := hD
      refine lv_iinc (v := (-8)) (lv' := [(10, .int (-8)), (9, .int f1), (0, .ref h0), (6, .ref qa), (7, .int (nI 4)), (8, .int (nI i))]) hx hb dX1_put_97 hl (k := 0) rfl (by decide +kernel) (by decide) rfl (fun ls hl => ?_)
      refine lv_goto (tgt := 67) hx hb dX1_put_100 (by decide) ?_
      refine lv_iload hx hb dX1_put_67 (lv_at hl 0 rfl) ?_
      refine lv_if_lt (tgt := 103) hx hb dX1_put_69 (by decide) (fun c1 => ?_) (fun c1 => absurd (by decide +kernel) c1)
      refine lv_iinc (v := (nI (i + 1))) (lv' := [(8, .int (nI (i + 1))), (10, .int (-8)), (9, .int f1), (0, .ref h0), (6, .ref qa), (7, .int (nI 4))]) hx hb dX1_put_103 hl (k := 5) rfl (mv_inc i) (by decide) rfl (fun ls hl => ?_)
      refine lv_goto (tgt := 49) hx hb dX1_put_106 (by decide) ?_
      have hl := lv_sub hl (l' := [(0, .ref h0), (6, .ref qa), (7, .int (nI 4)), (8, .int (nI (i + 1)))]) [3, 4, 5, 0] rfl
      exact ih (i + 1, (upd (upd (upd (upd g (n + 4 * i) (mv_bt f1 24)) (n + 4 * i + 1) (mv_bt f1 16)) (n + 4 * i + 2) (mv_bt f1 8)) (n + 4 * i + 3) (mv_bt f1 0))) H locs ls ⟨hik, by show (upd (upd (upd (upd g (n + 4 * i) (mv_bt f1 24)) (n + 4 * i + 1) (mv_bt f1 16)) (n + 4 * i + 2) (mv_bt f1 8)) (n + 4 * i + 3) (mv_bt f1 0)) = mv_p4 (mv_pn f n q i) (n + 4 * i) (q i); rw [← ef1, ← hg]; rfl, hP, hD, hS, hl⟩ (by show 4 - (i + 1) < 4 - i; omega)
  · have h240 : ¬ n ≤ 240 := by rw [nI_leI (by omega) (by omega)] at c0; omega
    refine lv_iconst (v := 0) hx hb dX1_put_13 (by decide) ?_
    have hP9 := hP.sub (ws' := [(h0, .inr (1, [.ref ha, .int (nI n)])), (ha, .inl (cA, 256, .inl f))]) [0, 1] rfl
    have hD9 := hD.sub (ws' := [(h0, .inr (1, [.ref ha, .int (nI n)])), (ha, .inl (cA, 256, .inl f))]) [0, 1] (by decide) rfl
    have hK9 := hK.sub (tys' := [(cA, .byte)]) [0] rfl
    refine W.widen (k := 1) (n := 4) (Nat.zero_le _) (Nat.zero_le _) ?_
    exact W.zret (v := 0) hx hb hr rfl (fun t ht hW => ⟨⟨0, (n, f), rfl, ⟨by rw [if_neg h240], by rw [if_neg h240], by rw [if_neg h240]⟩, by rw [ht]; exact hP9, va_K.moved hW.alike hK9, hD9⟩, hS.F ht⟩) hS.2.2 dX1_put_14
set_option maxHeartbeats 4000000 in
set_option maxRecDepth 100000 in
/-- MurmurDeskModel.small -/
theorem c_msmall (l : Launch) (dC : Nat → ClassId) (dI : Nat → Nat → Nat) (h0 ha : Nat) (cA : ClassId) (f : Nat → Int32) (n : Nat) (hn : n ≤ 256) (x w y : Int32) : Met l yX1_small (ws_ yX1_small cX1_small 10 (some .int)) ({ frames := 1, cells := 0, slots := 0, locals := 25 }) (va_Pc [.ref h0, .int x, .int w, .int y] (fun U => va_P (dC, dI) vwCl [(h0, .inr (1, [.ref ha, .int (nI n)])), (ha, .inl (cA, 256, .inl f))] U.heap ∧ va_K (dC, dI) vwCl [(cA, .byte)] U)) (vp_Si (fun r => r = mv_small f n x w y)) 0 0 (fun _ => False) := by
  refine Met.ofW (cc := cX1_small) (maxL := 10) (ret := (some .int)) (by decide) rfl ?_
  intro p e s m args below meth c s₁ B hml hv
  obtain ⟨rfl, hP, hK⟩ := hv
  have hx := B.exec
  have hb := B.bytes
  have hr := B.returns
  have hts := atoms_spec (ws := ws_ yX1_small cX1_small 10 (some .int)) B.pre
  have hts : ∀ w ∈ lw_all, w.before _ s = true := fun w h => hts w (List.mem_cons_of_mem _ h)
  have hown : s.vm.findClass RX1 = some m.cls := findClass_of_methodNamed B.named
  have hlocks := B.notSynchronized
  have hP : va_P (dC, dI) vwCl [(h0, .inr (1, [.ref ha, .int (nI n)])), (ha, .inl (cA, 256, .inl f))] s.heap := hP
  have hl := lv_entry ([.ref h0, .int x, .int w, .int y]) (n := 10) (Nat.le_of_ble_eq_true rfl)
  rw [lg_entry_eq]
  generalize (lg_sl ([.ref h0, .int x, .int w, .int y]) ++ List.replicate (10 - (lg_sl ([.ref h0, .int x, .int w, .int y])).length) Slot.unset).toArray = ls at hl ⊢
  have hl : lv_has ls 10 [(0, .ref h0), (1, .int x), (2, .int w), (3, .int y)] := hl
  obtain ⟨o, ho⟩ : ∃ o, o = mv_at n x := ⟨_, rfl⟩
  obtain ⟨k, hk⟩ : ∃ k, k = mv_ct n o (nI n) := ⟨_, rfl⟩
  obtain ⟨v, hv⟩ : ∃ v, v = mv_wd k w := ⟨_, rfl⟩
  have hon : o ≤ n := by rw [ho]; exact mv_at_le n x
  have hkn : k ≤ n - o := by rw [hk]; exact mv_ct_le n o _
  have hv4 : 4 * v ≤ k := by rw [hv]; exact mv_wd_le k w
  refine lv_aload_n hx hb dX1_small_0 rfl (lv_at hl 0 rfl) ?_
  refine lv_iload_n hx hb dX1_small_1 rfl (lv_at hl 1 rfl) ?_
  have hPc := hP.sub (ws' := [(h0, .inr (1, [.ref ha, .int (nI n)])), (ha, .inl (cA, 256, .inl f))]) [0, 1] rfl
  have hKc := hK.sub (tys' := [(cA, .byte)]) [0] rfl
  refine vp_callSi (W.runV (As := [.int x]) (rest := []) ⟨hx, hb, hml, hown, hts⟩ (c_place l dC dI h0 ha cA f n hn x) (cwV 1 hts (lw_V q116 q118 qs3 q13 q119) rfl rfl rfl (by decide +kernel) ⟨Nat.le_of_ble_eq_true rfl, Nat.le_of_ble_eq_true rfl⟩) ⟨fun a U g mk q => ⟨q.1, q.2.1, va_K.moved (u := U) (U := U.calling g mk a) (Vm.Alike.refl U.vm) q.2.2⟩, va_recv hK hP (ci := 1) (q0 := 0) rfl rfl, fun U hU hW => ⟨rfl, by rw [hU]; exact hPc, va_K.moved hW.alike hKc⟩⟩ rfl rfl hl.1 rfl (lv_room (Nat.le_of_ble_eq_true rfl)) dX1_small_2 ⟨Nat.le_of_ble_eq_true rfl, Nat.le_of_ble_eq_true rfl⟩) (fun r1 hr1 => ?_)
  have hr1 : r1 = nI (mv_at n x) := hr1
  refine mv_top (y := (nI o)) (by rw [hr1, ho]) ?_
  refine lv_istore (lv' := [(4, .int (nI o)), (0, .ref h0), (1, .int x), (2, .int w), (3, .int y)]) hx hb dX1_small_5 hl (by decide) rfl (fun ls hl => ?_)
  refine lv_aload_n hx hb dX1_small_7 rfl (lv_at hl 1 rfl) ?_
  refine lv_iload hx hb dX1_small_8 (lv_at hl 0 rfl) ?_
  refine lv_aload_n hx hb dX1_small_10 rfl (lv_at hl 1 rfl) ?_
  refine va_get (D := (dC, dI)) (ci := 1) (v := .int (nI n)) (C := RX1) (T := TX1) (N := 2) hx hb hts in_X1 hown hK hP 0 rfl rfl 1 (by decide) (hts _ q101) (fun _ h9 => h9) rfl dX1_small_11 ?_
  have hPc := hP.sub (ws' := [(h0, .inr (1, [.ref ha, .int (nI n)])), (ha, .inl (cA, 256, .inl f))]) [0, 1] rfl
  have hKc := hK.sub (tys' := [(cA, .byte)]) [0] rfl
  refine vp_callSi (W.runV (As := [.int (nI o), .int (nI n)]) (rest := []) ⟨hx, hb, hml, hown, hts⟩ (c_many l dC dI h0 ha cA f n hn o hon (nI n)) (cwV 2 hts (lw_V q125 q127 qs4 q13 q128) rfl rfl rfl (by decide +kernel) ⟨Nat.le_of_ble_eq_true rfl, Nat.le_of_ble_eq_true rfl⟩) ⟨fun a U g mk q => ⟨q.1, q.2.1, va_K.moved (u := U) (U := U.calling g mk a) (Vm.Alike.refl U.vm) q.2.2⟩, va_recv hK hP (ci := 1) (q0 := 0) rfl rfl, fun U hU hW => ⟨rfl, by rw [hU]; exact hPc, va_K.moved hW.alike hKc⟩⟩ rfl rfl hl.1 rfl (lv_room (Nat.le_of_ble_eq_true rfl)) dX1_small_14 ⟨Nat.le_of_ble_eq_true rfl, Nat.le_of_ble_eq_true rfl⟩) (fun r2 hr2 => ?_)
  have hr2 : r2 = nI (mv_ct n o (nI n)) := hr2
  refine mv_top (y := (nI k)) (by rw [hr2, hk]) ?_
  refine lv_iconst (v := 4) hx hb dX1_small_17 (by decide) ?_
  refine lv_idiv hx hb dX1_small_18 (by decide +kernel) ?_
  refine mv_top (y := (nI (k / 4))) (mv_div (a := k) (d := 4) (by omega) (by omega) (by omega) rfl) ?_
  refine lv_istore (lv' := [(5, .int (nI (k / 4))), (4, .int (nI o)), (0, .ref h0), (1, .int x), (2, .int w), (3, .int y)]) hx hb dX1_small_19 hl (by decide) rfl (fun ls hl => ?_)
  have hl := lv_sub hl (l' := [(0, .ref h0), (2, .int w), (3, .int y), (4, .int (nI o)), (5, .int (nI (k / 4)))]) [2, 4, 5, 1, 0] rfl
  refine mv_cut (α := Unit) (fun _ ls => lv_has ls 10 [(0, .ref h0), (3, .int y), (4, .int (nI o))]) (fun _ ls => F0 m 39 ls [.int (nI v)]) (fun _ ls hl => ?_) (fun hJ => ?_)
  · have hl : lv_has ls 10 [(0, .ref h0), (3, .int y), (4, .int (nI o))] := hl
    refine lv_istore (lv' := [(6, .int (nI v)), (0, .ref h0), (3, .int y), (4, .int (nI o))]) hx hb dX1_small_39 hl (by decide) rfl (fun ls hl => ?_)
    refine lv_iload_n hx hb dX1_small_41 rfl (lv_at hl 2 rfl) ?_
    refine lv_istore (lv' := [(7, .int y), (6, .int (nI v)), (0, .ref h0), (3, .int y), (4, .int (nI o))]) hx hb dX1_small_42 hl (by decide) rfl (fun ls hl => ?_)
    refine lv_iconst (v := 0) hx hb dX1_small_44 (by decide) ?_
    refine mv_top (y := (nI 0)) (rfl) ?_
    refine lv_istore (lv' := [(8, .int (nI 0)), (7, .int y), (6, .int (nI v)), (0, .ref h0), (3, .int y), (4, .int (nI o))]) hx hb dX1_small_45 hl (by decide) rfl (fun ls hl => ?_)
    have hl := lv_sub hl (l' := [(0, .ref h0), (4, .int (nI o)), (6, .int (nI v)), (7, .int y), (8, .int (nI 0))]) [3, 5, 2, 1, 0] rfl
    refine mv_loop (α := Nat × Int32) (fun y0 ls => y0.1 ≤ v ∧ y0.2 = mv_b32 f o y y0.1 ∧ lv_has ls 10 [(0, .ref h0), (4, .int (nI o)), (6, .int (nI v)), (7, .int y0.2), (8, .int (nI y0.1))]) (fun _ ls => F0 m 47 ls []) (fun y0 => v - y0.1) ?_ (0, y) ls ⟨Nat.zero_le v, rfl, hl⟩
    rintro ⟨j, h⟩ ls ⟨hj, eh, hl⟩ ih
    have hj : j ≤ v := hj
    have eh : h = mv_b32 f o y j := eh
    have hl : lv_has ls 10 [(0, .ref h0), (4, .int (nI o)), (6, .int (nI v)), (7, .int h), (8, .int (nI j))] := hl
    refine lv_iload hx hb dX1_small_47 (lv_at hl 4 rfl) ?_
    refine lv_iload hx hb dX1_small_49 (lv_at hl 2 rfl) ?_
    refine lv_icmp_ge (tgt := 125) hx hb dX1_small_51 (by decide) (fun c0 => ?_) (fun c0 => ?_)
    · have hjk : j = v := by rw [nI_leI (by omega) (by omega)] at c0; omega
      refine lv_iload hx hb dX1_small_125 (lv_at hl 3 rfl) ?_
      refine lv_iconst (v := 4) hx hb dX1_small_127 (by decide) ?_
      refine lv_iload hx hb dX1_small_128 (lv_at hl 2 rfl) ?_
      refine lv_imul hx hb dX1_small_130 ?_
      refine mv_top (y := (nI (4 * v))) (mv_mul (a := 4) (b := v) rfl) ?_
      refine lv_ixor hx hb dX1_small_131 ?_
      refine lv_topi (fun f3 ef3 => ?_)
      refine lv_istore (lv' := [(7, .int f3), (0, .ref h0), (4, .int (nI o)), (6, .int (nI v)), (8, .int (nI j))]) hx hb dX1_small_132 hl (by decide) rfl (fun ls hl => ?_)
      refine lv_iload hx hb dX1_small_134 (lv_at hl 0 rfl) ?_
      refine lv_iload hx hb dX1_small_136 (lv_at hl 0 rfl) ?_
      refine lv_bipush (v := 16) hx hb dX1_small_138 (by decide) ?_
      refine lv_iushr (v := (mv_iu f3 16)) hx hb dX1_small_140 rfl ?_
      refine lv_ixor hx hb dX1_small_141 ?_
      refine lv_topi (fun f4 ef4 => ?_)
      refine lv_istore (lv' := [(7, .int f4), (0, .ref h0), (4, .int (nI o)), (6, .int (nI v)), (8, .int (nI j))]) hx hb dX1_small_142 hl (by decide) rfl (fun ls hl => ?_)
      refine lv_iload hx hb dX1_small_144 (lv_at hl 0 rfl) ?_
      refine lv_ldc (v := (-2048144789)) hx hb hown (hts _ q140) dX1_small_146 ?_
      refine lv_imul hx hb dX1_small_148 ?_
      refine lv_topi (fun f5 ef5 => ?_)
      refine lv_istore (lv' := [(7, .int f5), (0, .ref h0), (4, .int (nI o)), (6, .int (nI v)), (8, .int (nI j))]) hx hb dX1_small_149 hl (by decide) rfl (fun ls hl => ?_)
      refine lv_iload hx hb dX1_small_151 (lv_at hl 0 rfl) ?_
      refine lv_iload hx hb dX1_small_153 (lv_at hl 0 rfl) ?_
      refine lv_bipush (v := 13) hx hb dX1_small_155 (by decide) ?_
      refine lv_iushr (v := (mv_iu f5 13)) hx hb dX1_small_157 rfl ?_
      refine lv_ixor hx hb dX1_small_158 ?_
      refine lv_topi (fun f6 ef6 => ?_)
      refine lv_istore (lv' := [(7, .int f6), (0, .ref h0), (4, .int (nI o)), (6, .int (nI v)), (8, .int (nI j))]) hx hb dX1_small_159 hl (by decide) rfl (fun ls hl => ?_)
      refine lv_iload hx hb dX1_small_161 (lv_at hl 0 rfl) ?_
      refine lv_ldc (v := (-1028477387)) hx hb hown (hts _ q141) dX1_small_163 ?_
      refine lv_imul hx hb dX1_small_165 ?_
      refine lv_topi (fun f7 ef7 => ?_)
      refine lv_istore (lv' := [(7, .int f7), (0, .ref h0), (4, .int (nI o)), (6, .int (nI v)), (8, .int (nI j))]) hx hb dX1_small_166 hl (by decide) rfl (fun ls hl => ?_)
      refine lv_iload hx hb dX1_small_168 (lv_at hl 0 rfl) ?_
      refine lv_iload hx hb dX1_small_170 (lv_at hl 0 rfl) ?_
      refine lv_bipush (v := 16) hx hb dX1_small_172 (by decide) ?_
      refine lv_iushr (v := (mv_iu f7 16)) hx hb dX1_small_174 rfl ?_
      refine lv_ixor hx hb dX1_small_175 ?_
      refine lv_topi (fun f8 ef8 => ?_)
      refine lv_istore (lv' := [(7, .int f8), (0, .ref h0), (4, .int (nI o)), (6, .int (nI v)), (8, .int (nI j))]) hx hb dX1_small_176 hl (by decide) rfl (fun ls hl => ?_)
      refine lv_iload hx hb dX1_small_178 (lv_at hl 0 rfl) ?_
      have eR : f8 = mv_small f n x w y := by
        unfold mv_small
        rw [← ho, ← hk, ← hv]
        show _ = mv_f32 (mv_b32 f o y v ^^^ nI (4 * v))
        rw [← hjk, ← eh, hjk]
        subst ef8
        subst ef7
        subst ef6
        subst ef5
        subst ef4
        subst ef3
        rfl
      exact W.iret (v := f8) hx hb hr (fun t ht hW => ⟨f8, rfl, eR, ht⟩) (fun _ h => absurd h List.not_mem_nil) dX1_small_180
    · have hjk : j < v := by rw [nI_leI (by omega) (by omega)] at c0; omega
      refine lv_aload_n hx hb dX1_small_54 rfl (lv_at hl 0 rfl) ?_
      refine lv_iload hx hb dX1_small_55 (lv_at hl 1 rfl) ?_
      refine lv_iconst (v := 4) hx hb dX1_small_57 (by decide) ?_
      refine lv_iload hx hb dX1_small_58 (lv_at hl 4 rfl) ?_
      refine lv_imul hx hb dX1_small_60 ?_
      refine mv_top (y := (nI (4 * j))) (mv_mul (a := 4) (b := j) rfl) ?_
      refine lv_iadd hx hb dX1_small_61 ?_
      refine mv_top (y := (nI (o + 4 * j))) (mv_add (a := o) (b := 4 * j) (by omega)) ?_
      refine lv_iconst (v := 4) hx hb dX1_small_62 (by decide) ?_
      refine mv_top (y := (nI 4)) (rfl) ?_
      have hPc := hP.sub (ws' := [(h0, .inr (1, [.ref ha, .int (nI n)])), (ha, .inl (cA, 256, .inl f))]) [0, 1] rfl
      have hKc := hK.sub (tys' := [(cA, .byte)]) [0] rfl
      refine vp_callSl (W.runV (As := [.int (nI (o + 4 * j)), .int (nI 4)]) (rest := []) ⟨hx, hb, hml, hown, hts⟩ (c_num l dC dI h0 ha cA f n (o + 4 * j) 4 (by omega)) (cwV 2 hts (lw_V q129 q131 qs5 q13 q132) rfl rfl rfl (by decide +kernel) ⟨Nat.le_of_ble_eq_true rfl, Nat.le_of_ble_eq_true rfl⟩) ⟨fun a U g mk q => ⟨q.1, q.2.1, va_K.moved (u := U) (U := U.calling g mk a) (Vm.Alike.refl U.vm) q.2.2⟩, va_recv hK hP (ci := 1) (q0 := 0) rfl rfl, fun U hU hW => ⟨rfl, by rw [hU]; exact hPc, va_K.moved hW.alike hKc⟩⟩ rfl rfl hl.1 rfl (lv_room (Nat.le_of_ble_eq_true rfl)) dX1_small_63 ⟨Nat.le_of_ble_eq_true rfl, Nat.le_of_ble_eq_true rfl⟩) (fun r9 hr9 => ?_)
      have hr9 : r9 = mv_num f (o + 4 * j) 4 := hr9
      refine lv_l2i (v := (r9.toInt32)) hx hb dX1_small_66 rfl ?_
      refine lv_topi (fun f10 ef10 => ?_)
      refine lv_istore (lv' := [(9, .int f10), (0, .ref h0), (4, .int (nI o)), (6, .int (nI v)), (7, .int h), (8, .int (nI j))]) hx hb dX1_small_67 hl (by decide) rfl (fun ls hl => ?_)
      refine lv_iload hx hb dX1_small_69 (lv_at hl 0 rfl) ?_
      refine lv_ldc (v := (-862048943)) hx hb hown (hts _ q133) dX1_small_71 ?_
      refine lv_imul hx hb dX1_small_73 ?_
      refine lv_topi (fun f11 ef11 => ?_)
      refine lv_istore (lv' := [(9, .int f11), (0, .ref h0), (4, .int (nI o)), (6, .int (nI v)), (7, .int h), (8, .int (nI j))]) hx hb dX1_small_74 hl (by decide) rfl (fun ls hl => ?_)
      refine lv_aload_n hx hb dX1_small_76 rfl (lv_at hl 1 rfl) ?_
      refine lv_iload hx hb dX1_small_77 (lv_at hl 0 rfl) ?_
      refine lv_bipush (v := 15) hx hb dX1_small_79 (by decide) ?_
      refine vp_callSi (W.runV (As := [.int f11, .int 15]) (rest := []) ⟨hx, hb, hml, hown, hts⟩ (c_turnI l h0 f11 15) (cwV 2 hts (lw_V q134 q136 qs6 q13 q137) rfl rfl rfl (by decide +kernel) ⟨Nat.le_of_ble_eq_true rfl, Nat.le_of_ble_eq_true rfl⟩) ⟨fun a U g mk q => q, va_recv hK hP (ci := 1) (q0 := 0) rfl rfl, fun U hU hW => ⟨rfl, trivial⟩⟩ rfl rfl hl.1 rfl (lv_room (Nat.le_of_ble_eq_true rfl)) dX1_small_81 ⟨Nat.le_of_ble_eq_true rfl, Nat.le_of_ble_eq_true rfl⟩) (fun r12 hr12 => ?_)
      have hr12 : r12 = mv_tI f11 15 := hr12
      refine lv_istore (lv' := [(9, .int r12), (0, .ref h0), (4, .int (nI o)), (6, .int (nI v)), (7, .int h), (8, .int (nI j))]) hx hb dX1_small_84 hl (by decide) rfl (fun ls hl => ?_)
      refine lv_iload hx hb dX1_small_86 (lv_at hl 0 rfl) ?_
      refine lv_ldc (v := 461845907) hx hb hown (hts _ q138) dX1_small_88 ?_
      refine lv_imul hx hb dX1_small_90 ?_
      refine lv_topi (fun f13 ef13 => ?_)
      refine lv_istore (lv' := [(9, .int f13), (0, .ref h0), (4, .int (nI o)), (6, .int (nI v)), (7, .int h), (8, .int (nI j))]) hx hb dX1_small_91 hl (by decide) rfl (fun ls hl => ?_)
      refine lv_iload hx hb dX1_small_93 (lv_at hl 4 rfl) ?_
      refine lv_iload hx hb dX1_small_95 (lv_at hl 0 rfl) ?_
      refine lv_ixor hx hb dX1_small_97 ?_
      refine lv_topi (fun f14 ef14 => ?_)
      refine lv_istore (lv' := [(7, .int f14), (9, .int f13), (0, .ref h0), (4, .int (nI o)), (6, .int (nI v)), (8, .int (nI j))]) hx hb dX1_small_98 hl (by decide) rfl (fun ls hl => ?_)
      refine lv_aload_n hx hb dX1_small_100 rfl (lv_at hl 2 rfl) ?_
      refine lv_iload hx hb dX1_small_101 (lv_at hl 0 rfl) ?_
      refine lv_bipush (v := 13) hx hb dX1_small_103 (by decide) ?_
      refine vp_callSi (W.runV (As := [.int f14, .int 13]) (rest := []) ⟨hx, hb, hml, hown, hts⟩ (c_turnI l h0 f14 13) (cwV 2 hts (lw_V q134 q136 qs6 q13 q137) rfl rfl rfl (by decide +kernel) ⟨Nat.le_of_ble_eq_true rfl, Nat.le_of_ble_eq_true rfl⟩) ⟨fun a U g mk q => q, va_recv hK hP (ci := 1) (q0 := 0) rfl rfl, fun U hU hW => ⟨rfl, trivial⟩⟩ rfl rfl hl.1 rfl (lv_room (Nat.le_of_ble_eq_true rfl)) dX1_small_105 ⟨Nat.le_of_ble_eq_true rfl, Nat.le_of_ble_eq_true rfl⟩) (fun r15 hr15 => ?_)
      have hr15 : r15 = mv_tI f14 13 := hr15
      refine lv_istore (lv' := [(7, .int r15), (9, .int f13), (0, .ref h0), (4, .int (nI o)), (6, .int (nI v)), (8, .int (nI j))]) hx hb dX1_small_108 hl (by decide) rfl (fun ls hl => ?_)
      refine lv_iload hx hb dX1_small_110 (lv_at hl 0 rfl) ?_
      refine lv_iconst (v := 5) hx hb dX1_small_112 (by decide) ?_
      refine lv_imul hx hb dX1_small_113 ?_
      refine lv_ldc (v := (-430675100)) hx hb hown (hts _ q139) dX1_small_114 ?_
      refine lv_iadd hx hb dX1_small_116 ?_
      refine lv_topi (fun f16 ef16 => ?_)
      refine lv_istore (lv' := [(7, .int f16), (9, .int f13), (0, .ref h0), (4, .int (nI o)), (6, .int (nI v)), (8, .int (nI j))]) hx hb dX1_small_117 hl (by decide) rfl (fun ls hl => ?_)
      refine lv_iinc (v := (nI (j + 1))) (lv' := [(8, .int (nI (j + 1))), (7, .int f16), (9, .int f13), (0, .ref h0), (4, .int (nI o)), (6, .int (nI v))]) hx hb dX1_small_119 hl (k := 5) rfl (mv_inc j) (by decide) rfl (fun ls hl => ?_)
      refine lv_goto (tgt := 47) hx hb dX1_small_122 (by decide) ?_
      have hl := lv_sub hl (l' := [(0, .ref h0), (4, .int (nI o)), (6, .int (nI v)), (7, .int f16), (8, .int (nI (j + 1)))]) [3, 4, 5, 1, 0] rfl
      exact ih (j + 1, f16) ls ⟨hjk, by show f16 = mv_mix (mv_b32 f o y j) (mv_num f (o + 4 * j) 4).toInt32; rw [← eh, ef16, hr15, ef14, ef13, hr12, ef11, ef10, hr9]; rfl, hl⟩ (by show v - (j + 1) < v - j; omega)
  refine lv_iload hx hb dX1_small_21 (lv_at hl 4 rfl) ?_
  refine lv_if_ne (tgt := 30) hx hb dX1_small_23 (by decide) (fun c0 => ?_) (fun c0 => ?_)
  · have hk4 : ¬ k / 4 = 0 := fun h => c0 (by rw [h]; rfl)
    have hmk := mv_mk_lt w
    have ev : mv_mk w % (k / 4 + 1) = v := by rw [hv]; unfold mv_wd; rw [if_neg hk4]
    refine lv_iload_n hx hb dX1_small_30 rfl (lv_at hl 1 rfl) ?_
    refine lv_ldc (v := 2147483647) hx hb hown (hts _ q120) dX1_small_31 ?_
    refine lv_iand hx hb dX1_small_33 ?_
    refine mv_top (y := (nI (mv_mk w))) (mv_mk_and w) ?_
    refine lv_iload hx hb dX1_small_34 (lv_at hl 4 rfl) ?_
    refine lv_iconst (v := 1) hx hb dX1_small_36 (by decide) ?_
    refine lv_iadd hx hb dX1_small_37 ?_
    refine mv_top (y := (nI (k / 4 + 1))) (mv_add (a := k / 4) (b := 1) (by omega)) ?_
    refine lv_irem hx hb dX1_small_38 (nI_ne0 (by omega) (by omega)) ?_
    refine mv_top (y := (nI v)) (mv_rem (a := mv_mk w) (d := k / 4 + 1) (by omega) (by omega) (by omega) ev) ?_
    have hl := lv_sub hl (l' := [(0, .ref h0), (3, .int y), (4, .int (nI o))]) [0, 2, 3] rfl
    exact hJ () ls hl
  · have hk4 : k / 4 = 0 := by have c1 : nI (k / 4) = nI 0 := c0; exact (nI_eq (by omega) (by omega)).mp c1
    have ev : v = 0 := by rw [hv]; unfold mv_wd; rw [if_pos hk4]
    refine lv_iconst (v := 0) hx hb dX1_small_26 (by decide) ?_
    refine mv_top (y := (nI v)) (by rw [ev]; rfl) ?_
    refine lv_goto (tgt := 39) hx hb dX1_small_27 (by decide) ?_
    have hl := lv_sub hl (l' := [(0, .ref h0), (3, .int y), (4, .int (nI o))]) [0, 2, 3] rfl
    exact hJ () ls hl
set_option maxHeartbeats 4000000 in
set_option maxRecDepth 100000 in
/-- MurmurDeskModel.wide -/
theorem c_mwide (l : Launch) (dC : Nat → ClassId) (dI : Nat → Nat → Nat) (h0 ha : Nat) (cA : ClassId) (f : Nat → Int32) (n : Nat) (hn : n ≤ 256) (x y z w : Int32) : Met l yX1_wide (ws_ yX1_wide cX1_wide 13 (some .long)) ({ frames := 2, cells := 0, slots := 0, locals := 45 }) (va_Pc [.ref h0, .int x, .int y, .int z, .int w] (fun U => va_P (dC, dI) vwCl [(h0, .inr (1, [.ref ha, .int (nI n)])), (ha, .inl (cA, 256, .inl f))] U.heap ∧ va_K (dC, dI) vwCl [(cA, .byte)] U)) (vp_Sl (fun r => r = mv_wide f n x y z w)) 0 0 (fun _ => False) := by
  refine Met.ofW (cc := cX1_wide) (maxL := 13) (ret := (some .long)) (by decide) rfl ?_
  intro p e s m args below meth c s₁ B hml hv
  obtain ⟨rfl, hP, hK⟩ := hv
  have hx := B.exec
  have hb := B.bytes
  have hr := B.returns
  have hts := atoms_spec (ws := ws_ yX1_wide cX1_wide 13 (some .long)) B.pre
  have hts : ∀ w ∈ lw_all, w.before _ s = true := fun w h => hts w (List.mem_cons_of_mem _ h)
  have hown : s.vm.findClass RX1 = some m.cls := findClass_of_methodNamed B.named
  have hlocks := B.notSynchronized
  have hP : va_P (dC, dI) vwCl [(h0, .inr (1, [.ref ha, .int (nI n)])), (ha, .inl (cA, 256, .inl f))] s.heap := hP
  have hl := lv_entry ([.ref h0, .int x, .int y, .int z, .int w]) (n := 13) (Nat.le_of_ble_eq_true rfl)
  rw [lg_entry_eq]
  generalize (lg_sl ([.ref h0, .int x, .int y, .int z, .int w]) ++ List.replicate (13 - (lg_sl ([.ref h0, .int x, .int y, .int z, .int w])).length) Slot.unset).toArray = ls at hl ⊢
  have hl : lv_has ls 13 [(0, .ref h0), (1, .int x), (2, .int y), (3, .int z), (4, .int w)] := hl
  obtain ⟨o, ho⟩ : ∃ o, o = mv_at n x := ⟨_, rfl⟩
  obtain ⟨k, hk⟩ : ∃ k, k = mv_ct n o y := ⟨_, rfl⟩
  obtain ⟨s8, hs8⟩ : ∃ s8 : Int64, s8 = (z &&& 2147483647).toInt64 := ⟨_, rfl⟩
  have hon : o ≤ n := by rw [ho]; exact mv_at_le n x
  have hkn : k ≤ n - o := by rw [hk]; exact mv_ct_le n o y
  refine lv_aload_n hx hb dX1_wide_0 rfl (lv_at hl 0 rfl) ?_
  refine lv_iload_n hx hb dX1_wide_1 rfl (lv_at hl 1 rfl) ?_
  have hPc := hP.sub (ws' := [(h0, .inr (1, [.ref ha, .int (nI n)])), (ha, .inl (cA, 256, .inl f))]) [0, 1] rfl
  have hKc := hK.sub (tys' := [(cA, .byte)]) [0] rfl
  refine vp_callSi (W.runV (As := [.int x]) (rest := []) ⟨hx, hb, hml, hown, hts⟩ (c_place l dC dI h0 ha cA f n hn x) (cwV 1 hts (lw_V q116 q118 qs3 q13 q119) rfl rfl rfl (by decide +kernel) ⟨Nat.le_of_ble_eq_true rfl, Nat.le_of_ble_eq_true rfl⟩) ⟨fun a U g mk q => ⟨q.1, q.2.1, va_K.moved (u := U) (U := U.calling g mk a) (Vm.Alike.refl U.vm) q.2.2⟩, va_recv hK hP (ci := 1) (q0 := 0) rfl rfl, fun U hU hW => ⟨rfl, by rw [hU]; exact hPc, va_K.moved hW.alike hKc⟩⟩ rfl rfl hl.1 rfl (lv_room (Nat.le_of_ble_eq_true rfl)) dX1_wide_2 ⟨Nat.le_of_ble_eq_true rfl, Nat.le_of_ble_eq_true rfl⟩) (fun r1 hr1 => ?_)
  have hr1 : r1 = nI (mv_at n x) := hr1
  refine mv_top (y := (nI o)) (by rw [hr1, ho]) ?_
  refine lv_istore (lv' := [(5, .int (nI o)), (0, .ref h0), (1, .int x), (2, .int y), (3, .int z), (4, .int w)]) hx hb dX1_wide_5 hl (by decide) rfl (fun ls hl => ?_)
  refine lv_aload_n hx hb dX1_wide_7 rfl (lv_at hl 1 rfl) ?_
  refine lv_iload hx hb dX1_wide_8 (lv_at hl 0 rfl) ?_
  refine lv_iload_n hx hb dX1_wide_10 rfl (lv_at hl 3 rfl) ?_
  have hPc := hP.sub (ws' := [(h0, .inr (1, [.ref ha, .int (nI n)])), (ha, .inl (cA, 256, .inl f))]) [0, 1] rfl
  have hKc := hK.sub (tys' := [(cA, .byte)]) [0] rfl
  refine vp_callSi (W.runV (As := [.int (nI o), .int y]) (rest := []) ⟨hx, hb, hml, hown, hts⟩ (c_many l dC dI h0 ha cA f n hn o hon y) (cwV 2 hts (lw_V q125 q127 qs4 q13 q128) rfl rfl rfl (by decide +kernel) ⟨Nat.le_of_ble_eq_true rfl, Nat.le_of_ble_eq_true rfl⟩) ⟨fun a U g mk q => ⟨q.1, q.2.1, va_K.moved (u := U) (U := U.calling g mk a) (Vm.Alike.refl U.vm) q.2.2⟩, va_recv hK hP (ci := 1) (q0 := 0) rfl rfl, fun U hU hW => ⟨rfl, by rw [hU]; exact hPc, va_K.moved hW.alike hKc⟩⟩ rfl rfl hl.1 rfl (lv_room (Nat.le_of_ble_eq_true rfl)) dX1_wide_11 ⟨Nat.le_of_ble_eq_true rfl, Nat.le_of_ble_eq_true rfl⟩) (fun r2 hr2 => ?_)
  have hr2 : r2 = nI (mv_ct n o y) := hr2
  refine mv_top (y := (nI k)) (by rw [hr2, hk]) ?_
  refine lv_istore (lv' := [(6, .int (nI k)), (5, .int (nI o)), (0, .ref h0), (1, .int x), (2, .int y), (3, .int z), (4, .int w)]) hx hb dX1_wide_14 hl (by decide) rfl (fun ls hl => ?_)
  refine lv_iload_n hx hb dX1_wide_16 rfl (lv_at hl 5 rfl) ?_
  refine lv_ldc (v := 2147483647) hx hb hown (hts _ q120) dX1_wide_17 ?_
  refine lv_iand hx hb dX1_wide_19 ?_
  refine lv_i2l (v := s8) hx hb dX1_wide_20 hs8.symm ?_
  refine lv_lstore (lv' := [(7, .long s8), (6, .int (nI k)), (5, .int (nI o)), (0, .ref h0), (1, .int x), (2, .int y), (3, .int z), (4, .int w)]) hx hb dX1_wide_21 hl (by decide) rfl (fun ls hl => ?_)
  refine lv_lload hx hb dX1_wide_23 (lv_at hl 0 rfl) ?_
  refine lv_lstore (lv' := [(9, .long s8), (7, .long s8), (6, .int (nI k)), (5, .int (nI o)), (0, .ref h0), (1, .int x), (2, .int y), (3, .int z), (4, .int w)]) hx hb dX1_wide_25 hl (by decide) rfl (fun ls hl => ?_)
  refine lv_iconst (v := 0) hx hb dX1_wide_27 (by decide) ?_
  refine mv_top (y := (nI (16 * 0))) (rfl) ?_
  refine lv_istore (lv' := [(11, .int (nI (16 * 0))), (9, .long s8), (7, .long s8), (6, .int (nI k)), (5, .int (nI o)), (0, .ref h0), (1, .int x), (2, .int y), (3, .int z), (4, .int w)]) hx hb dX1_wide_28 hl (by decide) rfl (fun ls hl => ?_)
  have hl := lv_sub hl (l' := [(0, .ref h0), (4, .int w), (5, .int (nI o)), (6, .int (nI k)), (7, .long s8), (9, .long s8), (11, .int (nI (16 * 0)))]) [5, 9, 4, 3, 2, 1, 0] rfl
  refine mv_loop (α := Nat × Int64 × Int64) (fun y0 ls => 16 * y0.1 ≤ k ∧ y0.2.1 = (mv_b128 f o s8 y0.1).1 ∧ y0.2.2 = (mv_b128 f o s8 y0.1).2 ∧ lv_has ls 13 [(0, .ref h0), (4, .int w), (5, .int (nI o)), (6, .int (nI k)), (7, .long y0.2.1), (9, .long y0.2.2), (11, .int (nI (16 * y0.1)))]) (fun _ ls => F0 m 30 ls []) (fun y0 => k - 16 * y0.1) ?_ (0, s8, s8) ls ⟨Nat.zero_le _, rfl, rfl, hl⟩
  rintro ⟨j, a, b⟩ ls ⟨hj, ea, eb, hl⟩ ih
  have hj : 16 * j ≤ k := hj
  have ea : a = (mv_b128 f o s8 j).1 := ea
  have eb : b = (mv_b128 f o s8 j).2 := eb
  have hl : lv_has ls 13 [(0, .ref h0), (4, .int w), (5, .int (nI o)), (6, .int (nI k)), (7, .long a), (9, .long b), (11, .int (nI (16 * j)))] := hl
  refine lv_iload hx hb dX1_wide_30 (lv_at hl 3 rfl) ?_
  refine lv_iload hx hb dX1_wide_32 (lv_at hl 6 rfl) ?_
  refine lv_isub hx hb dX1_wide_34 ?_
  refine mv_top (y := (nI (k - 16 * j))) (mv_sub (a := k) (b := 16 * j) (by omega)) ?_
  refine lv_bipush (v := 16) hx hb dX1_wide_35 (by decide) ?_
  refine mv_top (y := (nI 16)) (rfl) ?_
  refine lv_icmp_lt (tgt := 131) hx hb dX1_wide_37 (by decide) (fun c0 => ?_) (fun c0 => ?_)
  · have hj2 : k - 16 * j < 16 := by rw [nI_ltI (by omega) (by omega)] at c0; exact c0
    have hjk : j = k / 16 := by omega
    obtain ⟨rr, hrr⟩ : ∃ rr, rr = k % 16 := ⟨_, rfl⟩
    have hkj : 16 * j + rr = k := by omega
    obtain ⟨mm, hmm⟩ : ∃ mm, mm = (if 8 < rr then 8 else rr) := ⟨_, rfl⟩
    have hmr : mm ≤ rr := by rw [hmm]; split <;> omega
    obtain ⟨E2, hE2⟩ : ∃ E2, E2 = mv_t2 f (o + 16 * j) rr b := ⟨_, rfl⟩
    obtain ⟨E1, hE1⟩ : ∃ E1, E1 = mv_t1 f (o + 16 * j) rr a := ⟨_, rfl⟩
    refine lv_iload hx hb dX1_wide_131 (lv_at hl 3 rfl) ?_
    refine lv_iload hx hb dX1_wide_133 (lv_at hl 6 rfl) ?_
    refine lv_isub hx hb dX1_wide_135 ?_
    refine mv_top (y := (nI rr)) (mv_sub (a := k) (b := 16 * j) (by omega)) ?_
    refine lv_istore (lv' := [(12, .int (nI rr)), (0, .ref h0), (4, .int w), (5, .int (nI o)), (6, .int (nI k)), (7, .long a), (9, .long b), (11, .int (nI (16 * j)))]) hx hb dX1_wide_136 hl (by decide) rfl (fun ls hl => ?_)
    have hl := lv_sub hl (l' := [(0, .ref h0), (4, .int w), (5, .int (nI o)), (6, .int (nI k)), (7, .long a), (9, .long b), (11, .int (nI (16 * j))), (12, .int (nI rr))]) [1, 2, 3, 4, 5, 6, 7, 0] rfl
    refine mv_cut (α := Unit) (fun _ ls => lv_has ls 13 [(0, .ref h0), (4, .int w), (6, .int (nI k)), (7, .long E1), (9, .long E2)]) (fun _ ls => F0 m 208 ls []) (fun _ ls hl => ?_) (fun hF => ?_)
    · have hl : lv_has ls 13 [(0, .ref h0), (4, .int w), (6, .int (nI k)), (7, .long E1), (9, .long E2)] := hl
      refine lv_lload hx hb dX1_wide_208 (lv_at hl 3 rfl) ?_
      refine lv_iload hx hb dX1_wide_210 (lv_at hl 2 rfl) ?_
      refine lv_i2l (v := (((nI k)).toInt64)) hx hb dX1_wide_212 rfl ?_
      refine lv_lxor hx hb dX1_wide_213 ?_
      refine lv_topl (fun f3 ef3 => ?_)
      refine lv_lstore (lv' := [(7, .long f3), (0, .ref h0), (4, .int w), (6, .int (nI k)), (9, .long E2)]) hx hb dX1_wide_214 hl (by decide) rfl (fun ls hl => ?_)
      refine lv_lload hx hb dX1_wide_216 (lv_at hl 4 rfl) ?_
      refine lv_iload hx hb dX1_wide_218 (lv_at hl 3 rfl) ?_
      refine lv_i2l (v := (((nI k)).toInt64)) hx hb dX1_wide_220 rfl ?_
      refine lv_lxor hx hb dX1_wide_221 ?_
      refine lv_topl (fun f4 ef4 => ?_)
      refine lv_lstore (lv' := [(9, .long f4), (7, .long f3), (0, .ref h0), (4, .int w), (6, .int (nI k))]) hx hb dX1_wide_222 hl (by decide) rfl (fun ls hl => ?_)
      refine lv_lload hx hb dX1_wide_224 (lv_at hl 1 rfl) ?_
      refine lv_lload hx hb dX1_wide_226 (lv_at hl 0 rfl) ?_
      refine lv_ladd hx hb dX1_wide_228 ?_
      refine lv_topl (fun f5 ef5 => ?_)
      refine lv_lstore (lv' := [(7, .long f5), (9, .long f4), (0, .ref h0), (4, .int w), (6, .int (nI k))]) hx hb dX1_wide_229 hl (by decide) rfl (fun ls hl => ?_)
      refine lv_lload hx hb dX1_wide_231 (lv_at hl 1 rfl) ?_
      refine lv_lload hx hb dX1_wide_233 (lv_at hl 0 rfl) ?_
      refine lv_ladd hx hb dX1_wide_235 ?_
      refine lv_topl (fun f6 ef6 => ?_)
      refine lv_lstore (lv' := [(9, .long f6), (7, .long f5), (0, .ref h0), (4, .int w), (6, .int (nI k))]) hx hb dX1_wide_236 hl (by decide) rfl (fun ls hl => ?_)
      refine lv_aload_n hx hb dX1_wide_238 rfl (lv_at hl 2 rfl) ?_
      refine lv_lload hx hb dX1_wide_239 (lv_at hl 1 rfl) ?_
      refine vp_callSl (W.runV (As := [.long f5]) (rest := []) ⟨hx, hb, hml, hown, hts⟩ (c_ended l h0 f5) (cwV 1 hts (lw_V q163 q165 qs10 q13 q166) rfl rfl rfl (by decide +kernel) ⟨Nat.le_of_ble_eq_true rfl, Nat.le_of_ble_eq_true rfl⟩) ⟨fun a U g mk q => q, va_recv hK hP (ci := 1) (q0 := 0) rfl rfl, fun U hU hW => ⟨rfl, trivial⟩⟩ rfl rfl hl.1 rfl (lv_room (Nat.le_of_ble_eq_true rfl)) dX1_wide_241 ⟨Nat.le_of_ble_eq_true rfl, Nat.le_of_ble_eq_true rfl⟩) (fun r7 hr7 => ?_)
      have hr7 : r7 = mv_end f5 := hr7
      refine lv_lstore (lv' := [(7, .long r7), (9, .long f6), (0, .ref h0), (4, .int w), (6, .int (nI k))]) hx hb dX1_wide_244 hl (by decide) rfl (fun ls hl => ?_)
      refine lv_aload_n hx hb dX1_wide_246 rfl (lv_at hl 2 rfl) ?_
      refine lv_lload hx hb dX1_wide_247 (lv_at hl 1 rfl) ?_
      refine vp_callSl (W.runV (As := [.long f6]) (rest := []) ⟨hx, hb, hml, hown, hts⟩ (c_ended l h0 f6) (cwV 1 hts (lw_V q163 q165 qs10 q13 q166) rfl rfl rfl (by decide +kernel) ⟨Nat.le_of_ble_eq_true rfl, Nat.le_of_ble_eq_true rfl⟩) ⟨fun a U g mk q => q, va_recv hK hP (ci := 1) (q0 := 0) rfl rfl, fun U hU hW => ⟨rfl, trivial⟩⟩ rfl rfl hl.1 rfl (lv_room (Nat.le_of_ble_eq_true rfl)) dX1_wide_249 ⟨Nat.le_of_ble_eq_true rfl, Nat.le_of_ble_eq_true rfl⟩) (fun r8 hr8 => ?_)
      have hr8 : r8 = mv_end f6 := hr8
      refine lv_lstore (lv' := [(9, .long r8), (7, .long r7), (0, .ref h0), (4, .int w), (6, .int (nI k))]) hx hb dX1_wide_252 hl (by decide) rfl (fun ls hl => ?_)
      refine lv_lload hx hb dX1_wide_254 (lv_at hl 1 rfl) ?_
      refine lv_lload hx hb dX1_wide_256 (lv_at hl 0 rfl) ?_
      refine lv_ladd hx hb dX1_wide_258 ?_
      refine lv_topl (fun f9 ef9 => ?_)
      refine lv_lstore (lv' := [(7, .long f9), (9, .long r8), (0, .ref h0), (4, .int w), (6, .int (nI k))]) hx hb dX1_wide_259 hl (by decide) rfl (fun ls hl => ?_)
      refine lv_lload hx hb dX1_wide_261 (lv_at hl 1 rfl) ?_
      refine lv_lload hx hb dX1_wide_263 (lv_at hl 0 rfl) ?_
      refine lv_ladd hx hb dX1_wide_265 ?_
      refine lv_topl (fun f10 ef10 => ?_)
      refine lv_lstore (lv' := [(9, .long f10), (7, .long f9), (0, .ref h0), (4, .int w), (6, .int (nI k))]) hx hb dX1_wide_266 hl (by decide) rfl (fun ls hl => ?_)
      refine lv_iload hx hb dX1_wide_268 (lv_at hl 3 rfl) ?_
      refine lv_iconst (v := 2) hx hb dX1_wide_270 (by decide) ?_
      have eF : (f9, f10) = mv_wide2 f n x y z := by
        unfold mv_wide2
        rw [← ho, ← hk, ← hs8]
        show _ = mv_fin (mv_t1 f (o + 16 * (k / 16)) (k % 16) (mv_b128 f o s8 (k / 16)).1) (mv_t2 f (o + 16 * (k / 16)) (k % 16) (mv_b128 f o s8 (k / 16)).2) (nI k).toInt64
        rw [← hjk, ← hrr, ← ea, ← eb, ← hE1, ← hE2]
        subst ef10
        subst ef9
        subst hr8
        subst hr7
        subst ef6
        subst ef5
        subst ef4
        subst ef3
        rfl
      refine lv_irem hx hb dX1_wide_271 (by decide +kernel) ?_
      refine lv_if_ne (tgt := 280) hx hb dX1_wide_272 (by decide) (fun c1 => ?_) (fun c1 => ?_)
      · rw [mv_even] at c1
        refine lv_lload hx hb dX1_wide_280 (lv_at hl 0 rfl) ?_
        exact W.lret (v := f10) hx hb hr (fun t ht hW => ⟨f10, rfl, by unfold mv_wide; rw [if_neg c1, ← eF], ht⟩) (fun _ h => absurd h List.not_mem_nil) dX1_wide_282
      · rw [mv_even] at c1
        refine lv_lload hx hb dX1_wide_275 (lv_at hl 1 rfl) ?_
        refine lv_goto (tgt := 282) hx hb dX1_wide_277 (by decide) ?_
        exact W.lret (v := f9) hx hb hr (fun t ht hW => ⟨f9, rfl, by unfold mv_wide; rw [if_pos c1, ← eF], ht⟩) (fun _ h => absurd h List.not_mem_nil) dX1_wide_282
    refine mv_cut (α := Unit) (fun _ ls => lv_has ls 13 [(0, .ref h0), (4, .int w), (5, .int (nI o)), (6, .int (nI k)), (7, .long a), (9, .long E2), (11, .int (nI (16 * j))), (12, .int (nI rr))]) (fun _ ls => F0 m 171 ls []) (fun _ ls hl => ?_) (fun hG => ?_)
    · have hl : lv_has ls 13 [(0, .ref h0), (4, .int w), (5, .int (nI o)), (6, .int (nI k)), (7, .long a), (9, .long E2), (11, .int (nI (16 * j))), (12, .int (nI rr))] := hl
      refine lv_iload hx hb dX1_wide_171 (lv_at hl 7 rfl) ?_
      refine lv_if_le (tgt := 208) hx hb dX1_wide_173 (by decide) (fun c1 => ?_) (fun c1 => ?_)
      · have hr0 : rr = 0 := by have c2 : nI rr ≤ nI 0 := c1; rw [nI_leI (by omega) (by omega)] at c2; omega
        have hl := lv_sub hl (l' := [(0, .ref h0), (4, .int w), (6, .int (nI k)), (7, .long a), (9, .long E2)]) [0, 1, 3, 4, 5] rfl
        exact hF () ls (by rw [show E1 = a from by rw [hE1]; unfold mv_t1; rw [if_neg (by omega)]]; exact hl)
      · have hr0 : 0 < rr := by rcases Nat.eq_zero_or_pos rr with h9 | h9; (exact absurd (by rw [h9]; decide +kernel) c1); exact h9
        refine lv_lload hx hb dX1_wide_176 (lv_at hl 4 rfl) ?_
        refine lv_aload_n hx hb dX1_wide_178 rfl (lv_at hl 0 rfl) ?_
        refine lv_aload_n hx hb dX1_wide_179 rfl (lv_at hl 0 rfl) ?_
        refine lv_iload hx hb dX1_wide_180 (lv_at hl 2 rfl) ?_
        refine lv_iload hx hb dX1_wide_182 (lv_at hl 6 rfl) ?_
        refine lv_iadd hx hb dX1_wide_184 ?_
        refine mv_top (y := (nI (o + 16 * j))) (mv_add (a := o) (b := 16 * j) (by omega)) ?_
        refine lv_iload hx hb dX1_wide_185 (lv_at hl 7 rfl) ?_
        refine lv_bipush (v := 8) hx hb dX1_wide_187 (by decide) ?_
        refine mv_top (y := (nI 8)) (rfl) ?_
        refine mv_cut (α := Unit) (fun _ ls => lv_has ls 13 [(0, .ref h0), (4, .int w), (5, .int (nI o)), (6, .int (nI k)), (7, .long a), (9, .long E2), (11, .int (nI (16 * j))), (12, .int (nI rr))]) (fun _ ls => F0 m 199 ls [.int (nI mm), .int (nI (o + 16 * j)), .ref h0, .ref h0, .long a]) (fun _ ls hl => ?_) (fun hM => ?_)
        · have hl : lv_has ls 13 [(0, .ref h0), (4, .int w), (5, .int (nI o)), (6, .int (nI k)), (7, .long a), (9, .long E2), (11, .int (nI (16 * j))), (12, .int (nI rr))] := hl
          have hPc := hP.sub (ws' := [(h0, .inr (1, [.ref ha, .int (nI n)])), (ha, .inl (cA, 256, .inl f))]) [0, 1] rfl
          have hKc := hK.sub (tys' := [(cA, .byte)]) [0] rfl
          refine vp_callSl (W.runV (As := [.int (nI (o + 16 * j)), .int (nI mm)]) (rest := [.ref h0, .long a]) ⟨hx, hb, hml, hown, hts⟩ (c_num l dC dI h0 ha cA f n (o + 16 * j) mm (by omega)) (cwV 2 hts (lw_V q129 q131 qs5 q13 q132) rfl rfl rfl (by decide +kernel) ⟨Nat.le_of_ble_eq_true rfl, Nat.le_of_ble_eq_true rfl⟩) ⟨fun a U g mk q => ⟨q.1, q.2.1, va_K.moved (u := U) (U := U.calling g mk a) (Vm.Alike.refl U.vm) q.2.2⟩, va_recv hK hP (ci := 1) (q0 := 0) rfl rfl, fun U hU hW => ⟨rfl, by rw [hU]; exact hPc, va_K.moved hW.alike hKc⟩⟩ rfl rfl hl.1 rfl (lv_room (Nat.le_of_ble_eq_true rfl)) dX1_wide_199 ⟨Nat.le_of_ble_eq_true rfl, Nat.le_of_ble_eq_true rfl⟩) (fun r11 hr11 => ?_)
          have hr11 : r11 = mv_num f (o + 16 * j) mm := hr11
          have hPc := hP.sub (ws' := [(h0, .inr (1, [.ref ha, .int (nI n)])), (ha, .inl (cA, 256, .inl f))]) [0, 1] rfl
          have hKc := hK.sub (tys' := [(cA, .byte)]) [0] rfl
          refine vp_callSl (W.runV (As := [.long r11]) (rest := [.long a]) ⟨hx, hb, hml, hown, hts⟩ (c_st1 l dC dI h0 ha cA f n r11) (cwV 1 hts (lw_V q146 q148 qs7 q13 q149) rfl rfl rfl (by decide +kernel) ⟨Nat.le_of_ble_eq_true rfl, Nat.le_of_ble_eq_true rfl⟩) ⟨fun a U g mk q => ⟨q.1, q.2.1, va_K.moved (u := U) (U := U.calling g mk a) (Vm.Alike.refl U.vm) q.2.2⟩, va_recv hK hP (ci := 1) (q0 := 0) rfl rfl, fun U hU hW => ⟨rfl, by rw [hU]; exact hPc, va_K.moved hW.alike hKc⟩⟩ rfl rfl hl.1 rfl (lv_room (Nat.le_of_ble_eq_true rfl)) dX1_wide_202 ⟨Nat.le_of_ble_eq_true rfl, Nat.le_of_ble_eq_true rfl⟩) (fun r12 hr12 => ?_)
          have hr12 : r12 = mv_s1 r11 := hr12
          refine lv_lxor hx hb dX1_wide_205 ?_
          refine lv_topl (fun f13 ef13 => ?_)
          refine lv_lstore (lv' := [(7, .long f13), (0, .ref h0), (4, .int w), (5, .int (nI o)), (6, .int (nI k)), (9, .long E2), (11, .int (nI (16 * j))), (12, .int (nI rr))]) hx hb dX1_wide_206 hl (by decide) rfl (fun ls hl => ?_)
          have hl := lv_sub hl (l' := [(0, .ref h0), (4, .int w), (6, .int (nI k)), (7, .long f13), (9, .long E2)]) [1, 2, 4, 0, 5] rfl
          exact hF () ls (by rw [show E1 = f13 from by rw [hE1]; unfold mv_t1; rw [if_pos hr0, ← hmm, ef13, hr12, hr11]]; exact hl)
        refine lv_icmp_le (tgt := 197) hx hb dX1_wide_189 (by decide) (fun c2 => ?_) (fun c2 => ?_)
        · have h8 : rr ≤ 8 := by rw [nI_leI (by omega) (by omega)] at c2; exact c2
          refine lv_iload hx hb dX1_wide_197 (lv_at hl 7 rfl) ?_
          refine mv_top (y := (nI mm)) (by rw [hmm, if_neg (by omega)]) ?_
          exact hM () ls hl
        · have h8 : ¬ rr ≤ 8 := by rw [nI_leI (by omega) (by omega)] at c2; exact c2
          refine lv_bipush (v := 8) hx hb dX1_wide_192 (by decide) ?_
          refine mv_top (y := (nI mm)) (by rw [hmm, if_pos (by omega)]; rfl) ?_
          refine lv_goto (tgt := 199) hx hb dX1_wide_194 (by decide) ?_
          exact hM () ls hl
    refine lv_iload hx hb dX1_wide_138 (lv_at hl 7 rfl) ?_
    refine lv_bipush (v := 8) hx hb dX1_wide_140 (by decide) ?_
    refine mv_top (y := (nI 8)) (rfl) ?_
    refine lv_icmp_le (tgt := 171) hx hb dX1_wide_142 (by decide) (fun c1 => ?_) (fun c1 => ?_)
    · have h8 : rr ≤ 8 := by rw [nI_leI (by omega) (by omega)] at c1; exact c1
      exact hG () ls (by rw [show E2 = b from by rw [hE2]; unfold mv_t2; rw [if_neg (by omega)]]; exact hl)
    · have h8 : ¬ rr ≤ 8 := by rw [nI_leI (by omega) (by omega)] at c1; exact c1
      refine lv_lload hx hb dX1_wide_145 (lv_at hl 5 rfl) ?_
      refine lv_aload_n hx hb dX1_wide_147 rfl (lv_at hl 0 rfl) ?_
      refine lv_aload_n hx hb dX1_wide_148 rfl (lv_at hl 0 rfl) ?_
      refine lv_iload hx hb dX1_wide_149 (lv_at hl 2 rfl) ?_
      refine lv_iload hx hb dX1_wide_151 (lv_at hl 6 rfl) ?_
      refine lv_iadd hx hb dX1_wide_153 ?_
      refine mv_top (y := (nI (o + 16 * j))) (mv_add (a := o) (b := 16 * j) (by omega)) ?_
      refine lv_bipush (v := 8) hx hb dX1_wide_154 (by decide) ?_
      refine lv_iadd hx hb dX1_wide_156 ?_
      refine mv_top (y := (nI (o + 16 * j + 8))) (mv_add (a := o + 16 * j) (b := 8) (by omega)) ?_
      refine lv_iload hx hb dX1_wide_157 (lv_at hl 7 rfl) ?_
      refine lv_bipush (v := 8) hx hb dX1_wide_159 (by decide) ?_
      refine lv_isub hx hb dX1_wide_161 ?_
      refine mv_top (y := (nI (rr - 8))) (mv_sub (a := rr) (b := 8) (by omega)) ?_
      have hPc := hP.sub (ws' := [(h0, .inr (1, [.ref ha, .int (nI n)])), (ha, .inl (cA, 256, .inl f))]) [0, 1] rfl
      have hKc := hK.sub (tys' := [(cA, .byte)]) [0] rfl
      refine vp_callSl (W.runV (As := [.int (nI (o + 16 * j + 8)), .int (nI (rr - 8))]) (rest := [.ref h0, .long b]) ⟨hx, hb, hml, hown, hts⟩ (c_num l dC dI h0 ha cA f n (o + 16 * j + 8) (rr - 8) (by omega)) (cwV 2 hts (lw_V q129 q131 qs5 q13 q132) rfl rfl rfl (by decide +kernel) ⟨Nat.le_of_ble_eq_true rfl, Nat.le_of_ble_eq_true rfl⟩) ⟨fun a U g mk q => ⟨q.1, q.2.1, va_K.moved (u := U) (U := U.calling g mk a) (Vm.Alike.refl U.vm) q.2.2⟩, va_recv hK hP (ci := 1) (q0 := 0) rfl rfl, fun U hU hW => ⟨rfl, by rw [hU]; exact hPc, va_K.moved hW.alike hKc⟩⟩ rfl rfl hl.1 rfl (lv_room (Nat.le_of_ble_eq_true rfl)) dX1_wide_162 ⟨Nat.le_of_ble_eq_true rfl, Nat.le_of_ble_eq_true rfl⟩) (fun r14 hr14 => ?_)
      have hr14 : r14 = mv_num f (o + 16 * j + 8) (rr - 8) := hr14
      have hPc := hP.sub (ws' := [(h0, .inr (1, [.ref ha, .int (nI n)])), (ha, .inl (cA, 256, .inl f))]) [0, 1] rfl
      have hKc := hK.sub (tys' := [(cA, .byte)]) [0] rfl
      refine vp_callSl (W.runV (As := [.long r14]) (rest := [.long b]) ⟨hx, hb, hml, hown, hts⟩ (c_st2 l dC dI h0 ha cA f n r14) (cwV 1 hts (lw_V q158 q160 qs9 q13 q161) rfl rfl rfl (by decide +kernel) ⟨Nat.le_of_ble_eq_true rfl, Nat.le_of_ble_eq_true rfl⟩) ⟨fun a U g mk q => ⟨q.1, q.2.1, va_K.moved (u := U) (U := U.calling g mk a) (Vm.Alike.refl U.vm) q.2.2⟩, va_recv hK hP (ci := 1) (q0 := 0) rfl rfl, fun U hU hW => ⟨rfl, by rw [hU]; exact hPc, va_K.moved hW.alike hKc⟩⟩ rfl rfl hl.1 rfl (lv_room (Nat.le_of_ble_eq_true rfl)) dX1_wide_165 ⟨Nat.le_of_ble_eq_true rfl, Nat.le_of_ble_eq_true rfl⟩) (fun r15 hr15 => ?_)
      have hr15 : r15 = mv_s2 r14 := hr15
      refine lv_lxor hx hb dX1_wide_168 ?_
      refine lv_topl (fun f16 ef16 => ?_)
      refine lv_lstore (lv' := [(9, .long f16), (0, .ref h0), (4, .int w), (5, .int (nI o)), (6, .int (nI k)), (7, .long a), (11, .int (nI (16 * j))), (12, .int (nI rr))]) hx hb dX1_wide_169 hl (by decide) rfl (fun ls hl => ?_)
      have hl := lv_sub hl (l' := [(0, .ref h0), (4, .int w), (5, .int (nI o)), (6, .int (nI k)), (7, .long a), (9, .long f16), (11, .int (nI (16 * j))), (12, .int (nI rr))]) [1, 2, 3, 4, 5, 0, 6, 7] rfl
      exact hG () ls (by rw [show E2 = f16 from by rw [hE2]; unfold mv_t2; rw [if_pos (by omega), ef16, hr15, hr14]]; exact hl)
  · have hjk : 16 * (j + 1) ≤ k := by rw [nI_ltI (by omega) (by omega)] at c0; omega
    refine lv_lload hx hb dX1_wide_40 (lv_at hl 4 rfl) ?_
    refine lv_aload_n hx hb dX1_wide_42 rfl (lv_at hl 0 rfl) ?_
    refine lv_aload_n hx hb dX1_wide_43 rfl (lv_at hl 0 rfl) ?_
    refine lv_iload hx hb dX1_wide_44 (lv_at hl 2 rfl) ?_
    refine lv_iload hx hb dX1_wide_46 (lv_at hl 6 rfl) ?_
    refine lv_iadd hx hb dX1_wide_48 ?_
    refine mv_top (y := (nI (o + 16 * j))) (mv_add (a := o) (b := 16 * j) (by omega)) ?_
    refine lv_bipush (v := 8) hx hb dX1_wide_49 (by decide) ?_
    refine mv_top (y := (nI 8)) (rfl) ?_
    have hPc := hP.sub (ws' := [(h0, .inr (1, [.ref ha, .int (nI n)])), (ha, .inl (cA, 256, .inl f))]) [0, 1] rfl
    have hKc := hK.sub (tys' := [(cA, .byte)]) [0] rfl
    refine vp_callSl (W.runV (As := [.int (nI (o + 16 * j)), .int (nI 8)]) (rest := [.ref h0, .long a]) ⟨hx, hb, hml, hown, hts⟩ (c_num l dC dI h0 ha cA f n (o + 16 * j) 8 (by omega)) (cwV 2 hts (lw_V q129 q131 qs5 q13 q132) rfl rfl rfl (by decide +kernel) ⟨Nat.le_of_ble_eq_true rfl, Nat.le_of_ble_eq_true rfl⟩) ⟨fun a U g mk q => ⟨q.1, q.2.1, va_K.moved (u := U) (U := U.calling g mk a) (Vm.Alike.refl U.vm) q.2.2⟩, va_recv hK hP (ci := 1) (q0 := 0) rfl rfl, fun U hU hW => ⟨rfl, by rw [hU]; exact hPc, va_K.moved hW.alike hKc⟩⟩ rfl rfl hl.1 rfl (lv_room (Nat.le_of_ble_eq_true rfl)) dX1_wide_51 ⟨Nat.le_of_ble_eq_true rfl, Nat.le_of_ble_eq_true rfl⟩) (fun r17 hr17 => ?_)
    have hr17 : r17 = mv_num f (o + 16 * j) 8 := hr17
    have hPc := hP.sub (ws' := [(h0, .inr (1, [.ref ha, .int (nI n)])), (ha, .inl (cA, 256, .inl f))]) [0, 1] rfl
    have hKc := hK.sub (tys' := [(cA, .byte)]) [0] rfl
    refine vp_callSl (W.runV (As := [.long r17]) (rest := [.long a]) ⟨hx, hb, hml, hown, hts⟩ (c_st1 l dC dI h0 ha cA f n r17) (cwV 1 hts (lw_V q146 q148 qs7 q13 q149) rfl rfl rfl (by decide +kernel) ⟨Nat.le_of_ble_eq_true rfl, Nat.le_of_ble_eq_true rfl⟩) ⟨fun a U g mk q => ⟨q.1, q.2.1, va_K.moved (u := U) (U := U.calling g mk a) (Vm.Alike.refl U.vm) q.2.2⟩, va_recv hK hP (ci := 1) (q0 := 0) rfl rfl, fun U hU hW => ⟨rfl, by rw [hU]; exact hPc, va_K.moved hW.alike hKc⟩⟩ rfl rfl hl.1 rfl (lv_room (Nat.le_of_ble_eq_true rfl)) dX1_wide_54 ⟨Nat.le_of_ble_eq_true rfl, Nat.le_of_ble_eq_true rfl⟩) (fun r18 hr18 => ?_)
    have hr18 : r18 = mv_s1 r17 := hr18
    refine lv_lxor hx hb dX1_wide_57 ?_
    refine lv_topl (fun f19 ef19 => ?_)
    refine lv_lstore (lv' := [(7, .long f19), (0, .ref h0), (4, .int w), (5, .int (nI o)), (6, .int (nI k)), (9, .long b), (11, .int (nI (16 * j)))]) hx hb dX1_wide_58 hl (by decide) rfl (fun ls hl => ?_)
    refine lv_aload_n hx hb dX1_wide_60 rfl (lv_at hl 1 rfl) ?_
    refine lv_lload hx hb dX1_wide_61 (lv_at hl 0 rfl) ?_
    refine lv_bipush (v := 27) hx hb dX1_wide_63 (by decide) ?_
    refine vp_callSl (W.runV (As := [.long f19, .int 27]) (rest := []) ⟨hx, hb, hml, hown, hts⟩ (c_turnL l h0 f19 27) (cwV 2 hts (lw_V q151 q153 qs8 q13 q154) rfl rfl rfl (by decide +kernel) ⟨Nat.le_of_ble_eq_true rfl, Nat.le_of_ble_eq_true rfl⟩) ⟨fun a U g mk q => q, va_recv hK hP (ci := 1) (q0 := 0) rfl rfl, fun U hU hW => ⟨rfl, trivial⟩⟩ rfl rfl hl.1 rfl (lv_room (Nat.le_of_ble_eq_true rfl)) dX1_wide_65 ⟨Nat.le_of_ble_eq_true rfl, Nat.le_of_ble_eq_true rfl⟩) (fun r20 hr20 => ?_)
    have hr20 : r20 = mv_tL f19 27 := hr20
    refine lv_lload hx hb dX1_wide_68 (lv_at hl 5 rfl) ?_
    refine lv_ladd hx hb dX1_wide_70 ?_
    refine lv_ldc2 (v := 5) hx hb hown (hts _ q156) dX1_wide_71 ?_
    refine lv_lmul hx hb dX1_wide_74 ?_
    refine lv_ldc2 (v := 1390208809) hx hb hown (hts _ q157) dX1_wide_75 ?_
    refine lv_ladd hx hb dX1_wide_78 ?_
    refine lv_topl (fun f21 ef21 => ?_)
    refine lv_lstore (lv' := [(7, .long f21), (0, .ref h0), (4, .int w), (5, .int (nI o)), (6, .int (nI k)), (9, .long b), (11, .int (nI (16 * j)))]) hx hb dX1_wide_79 hl (by decide) rfl (fun ls hl => ?_)
    refine lv_lload hx hb dX1_wide_81 (lv_at hl 5 rfl) ?_
    refine lv_aload_n hx hb dX1_wide_83 rfl (lv_at hl 1 rfl) ?_
    refine lv_aload_n hx hb dX1_wide_84 rfl (lv_at hl 1 rfl) ?_
    refine lv_iload hx hb dX1_wide_85 (lv_at hl 3 rfl) ?_
    refine lv_iload hx hb dX1_wide_87 (lv_at hl 6 rfl) ?_
    refine lv_iadd hx hb dX1_wide_89 ?_
    refine mv_top (y := (nI (o + 16 * j))) (mv_add (a := o) (b := 16 * j) (by omega)) ?_
    refine lv_bipush (v := 8) hx hb dX1_wide_90 (by decide) ?_
    refine lv_iadd hx hb dX1_wide_92 ?_
    refine mv_top (y := (nI (o + 16 * j + 8))) (mv_add (a := o + 16 * j) (b := 8) (by omega)) ?_
    refine lv_bipush (v := 8) hx hb dX1_wide_93 (by decide) ?_
    refine mv_top (y := (nI 8)) (rfl) ?_
    have hPc := hP.sub (ws' := [(h0, .inr (1, [.ref ha, .int (nI n)])), (ha, .inl (cA, 256, .inl f))]) [0, 1] rfl
    have hKc := hK.sub (tys' := [(cA, .byte)]) [0] rfl
    refine vp_callSl (W.runV (As := [.int (nI (o + 16 * j + 8)), .int (nI 8)]) (rest := [.ref h0, .long b]) ⟨hx, hb, hml, hown, hts⟩ (c_num l dC dI h0 ha cA f n (o + 16 * j + 8) 8 (by omega)) (cwV 2 hts (lw_V q129 q131 qs5 q13 q132) rfl rfl rfl (by decide +kernel) ⟨Nat.le_of_ble_eq_true rfl, Nat.le_of_ble_eq_true rfl⟩) ⟨fun a U g mk q => ⟨q.1, q.2.1, va_K.moved (u := U) (U := U.calling g mk a) (Vm.Alike.refl U.vm) q.2.2⟩, va_recv hK hP (ci := 1) (q0 := 0) rfl rfl, fun U hU hW => ⟨rfl, by rw [hU]; exact hPc, va_K.moved hW.alike hKc⟩⟩ rfl rfl hl.1 rfl (lv_room (Nat.le_of_ble_eq_true rfl)) dX1_wide_95 ⟨Nat.le_of_ble_eq_true rfl, Nat.le_of_ble_eq_true rfl⟩) (fun r22 hr22 => ?_)
    have hr22 : r22 = mv_num f (o + 16 * j + 8) 8 := hr22
    have hPc := hP.sub (ws' := [(h0, .inr (1, [.ref ha, .int (nI n)])), (ha, .inl (cA, 256, .inl f))]) [0, 1] rfl
    have hKc := hK.sub (tys' := [(cA, .byte)]) [0] rfl
    refine vp_callSl (W.runV (As := [.long r22]) (rest := [.long b]) ⟨hx, hb, hml, hown, hts⟩ (c_st2 l dC dI h0 ha cA f n r22) (cwV 1 hts (lw_V q158 q160 qs9 q13 q161) rfl rfl rfl (by decide +kernel) ⟨Nat.le_of_ble_eq_true rfl, Nat.le_of_ble_eq_true rfl⟩) ⟨fun a U g mk q => ⟨q.1, q.2.1, va_K.moved (u := U) (U := U.calling g mk a) (Vm.Alike.refl U.vm) q.2.2⟩, va_recv hK hP (ci := 1) (q0 := 0) rfl rfl, fun U hU hW => ⟨rfl, by rw [hU]; exact hPc, va_K.moved hW.alike hKc⟩⟩ rfl rfl hl.1 rfl (lv_room (Nat.le_of_ble_eq_true rfl)) dX1_wide_98 ⟨Nat.le_of_ble_eq_true rfl, Nat.le_of_ble_eq_true rfl⟩) (fun r23 hr23 => ?_)
    have hr23 : r23 = mv_s2 r22 := hr23
    refine lv_lxor hx hb dX1_wide_101 ?_
    refine lv_topl (fun f24 ef24 => ?_)
    refine lv_lstore (lv' := [(9, .long f24), (7, .long f21), (0, .ref h0), (4, .int w), (5, .int (nI o)), (6, .int (nI k)), (11, .int (nI (16 * j)))]) hx hb dX1_wide_102 hl (by decide) rfl (fun ls hl => ?_)
    refine lv_aload_n hx hb dX1_wide_104 rfl (lv_at hl 2 rfl) ?_
    refine lv_lload hx hb dX1_wide_105 (lv_at hl 0 rfl) ?_
    refine lv_bipush (v := 31) hx hb dX1_wide_107 (by decide) ?_
    refine vp_callSl (W.runV (As := [.long f24, .int 31]) (rest := []) ⟨hx, hb, hml, hown, hts⟩ (c_turnL l h0 f24 31) (cwV 2 hts (lw_V q151 q153 qs8 q13 q154) rfl rfl rfl (by decide +kernel) ⟨Nat.le_of_ble_eq_true rfl, Nat.le_of_ble_eq_true rfl⟩) ⟨fun a U g mk q => q, va_recv hK hP (ci := 1) (q0 := 0) rfl rfl, fun U hU hW => ⟨rfl, trivial⟩⟩ rfl rfl hl.1 rfl (lv_room (Nat.le_of_ble_eq_true rfl)) dX1_wide_109 ⟨Nat.le_of_ble_eq_true rfl, Nat.le_of_ble_eq_true rfl⟩) (fun r25 hr25 => ?_)
    have hr25 : r25 = mv_tL f24 31 := hr25
    refine lv_lload hx hb dX1_wide_112 (lv_at hl 1 rfl) ?_
    refine lv_ladd hx hb dX1_wide_114 ?_
    refine lv_ldc2 (v := 5) hx hb hown (hts _ q156) dX1_wide_115 ?_
    refine lv_lmul hx hb dX1_wide_118 ?_
    refine lv_ldc2 (v := 944331445) hx hb hown (hts _ q162) dX1_wide_119 ?_
    refine lv_ladd hx hb dX1_wide_122 ?_
    refine lv_topl (fun f26 ef26 => ?_)
    refine lv_lstore (lv' := [(9, .long f26), (7, .long f21), (0, .ref h0), (4, .int w), (5, .int (nI o)), (6, .int (nI k)), (11, .int (nI (16 * j)))]) hx hb dX1_wide_123 hl (by decide) rfl (fun ls hl => ?_)
    refine lv_iinc (v := (nI (16 * (j + 1)))) (lv' := [(11, .int (nI (16 * (j + 1)))), (9, .long f26), (7, .long f21), (0, .ref h0), (4, .int w), (5, .int (nI o)), (6, .int (nI k))]) hx hb dX1_wide_125 hl (k := 6) rfl (by rw [mv_inc16]; exact congrArg nI (by omega)) (by decide) rfl (fun ls hl => ?_)
    refine lv_goto (tgt := 30) hx hb dX1_wide_128 (by decide) ?_
    have hl := lv_sub hl (l' := [(0, .ref h0), (4, .int w), (5, .int (nI o)), (6, .int (nI k)), (7, .long f21), (9, .long f26), (11, .int (nI (16 * (j + 1))))]) [3, 4, 5, 6, 2, 1, 0] rfl
    have e9 : f21 = mv_r1 a b (mv_num f (o + 16 * j) 8) := by rw [ef21, hr20, ef19, hr18, hr17]; rfl
    have e10 : f26 = mv_r2 b f21 (mv_num f (o + 16 * j + 8) 8) := by rw [ef26, hr25, ef24, hr23, hr22]; rfl
    exact ih (j + 1, f21, f26) ls ⟨hjk, by rw [e9, ea, eb]; exact (mv_b128_1 f o s8 j).symm, by rw [e10, e9, ea, eb]; exact (mv_b128_2 f o s8 j).symm, hl⟩ (by show k - 16 * (j + 1) < k - 16 * j; omega)
end
section
/-! THE LAW -/
set_option maxRecDepth 100000
/-! THE CLAIM OUT OF ONE WALK OF THE LAW'S BODY. Your part is whole_start (and what it stands on); all else here is the same for every law, but numbers. -/
def R_law : String := "MurmurDeskLaw"
def lw_P (b : Addr) (xs : List Int32) (args : Array Value) (s : State) : Prop := args = #[.ref b] ∧ s.IntsAt b xs ∧ xs.length ≤ 288 ∧ (Jvm.Cond.and given_1 narrow_1).before args s = true
def lw_Q (_ : Array Value) (s : State) (o : Outcome) (t : State) : Prop := o = .returned (some (.int 1)) ∧ Framed s o t [] 1200000 5502250
def lw_Z (below : List Frame) (a : Array Value) (s : State) : State → Prop := fun t => ∃ o, t.status = .running ∧ Ended t below o ∧ lw_Q a s o t
/-- the law's own end, with 1 on the stack, nothing written that was there before, its room as the claim has it -/
theorem lw_ret {p : Program} {l : Launch} {e : Env} {s : State} {m : MethodId} {below : List Frame} {meth : Method} {c : Code} {b : Nat} (hx : p.tables.exec = Jvm.exec) (hb : c.code = code) (hr : meth.sig.returnType = ret) (hlocks : meth.locks = false) {pc : Nat} {H : Heap} {ls : Array Slot} (hdg : decode code pc = .ok (.ireturn, 1)) : W p l e room_1 s m #[Value.ref b] below meth c H [] 1200000 5502250 (lw_Z below #[Value.ref b] s) (F0 m pc ls [.int 1]) := by
  intro T hT X
  obtain ⟨fs, hret, hrun, hended, hW, hframe⟩ := X.leave (v := some (.int 1)) (hlocks := hlocks) (fun h => by rw [hr] at h; cases h)
  have hmeth' : T.vm.method? m = some meth := X.method'
  refine ⟨T.setFrames fs, ?_, .returned (some (.int 1)), hrun, hended, rfl, ⟨_, rfl⟩, hW, hframe⟩
  jvm_step X.here [X.here.top, hx, hb, hdg, hmeth', hr, ret, narrow_b1]
  (try refine ⟨rfl, ?_⟩); (try refine ⟨rfl, ?_⟩)
  first | (intro acts; rw [hret _ acts rfl rfl rfl]) | rw [hret _ _ rfl rfl rfl]
  exact Steps.refl _
/-- what holds at the law's entry: the machine, the code, the tables' words (any of lw_tbl by 'hts w (by decide +kernel)'), the script of L ints xs at the cell b, what the Statement gives of the start (any of its parts by flat_of_before) -/
def lw_At (p : Program) (s : State) (m : MethodId) (meth : Method) (c : Code) (b L : Nat) (xs : Nat → Int32) : Prop :=
  p.tables.exec = Jvm.exec ∧ c.code = code ∧ meth.sig.returnType = ret ∧ c.maxLocals = 4 ∧ s.vm.findClass R_law = some m.cls ∧ (∀ w ∈ lw_tbl, w.before #[Value.ref b] s = true) ∧ va_X b L xs s s.heap ∧ b < s.heap.size ∧ meth.locks = false ∧ (Jvm.Cond.and given_1 narrow_1).before #[Value.ref b] s = true
theorem mv_guard {L k : Nat} (hL : L ≤ 288) (hk : 6 * k ≤ L) (h : ¬ (nI L - 6 < nI (6 * k))) : 6 * k + 6 ≤ L := by
  rw [Int32.lt_iff_toInt_lt, show (6 : Int32) = nI 6 from rfl, pk_sub_toInt (by omega) (by omega), nI_toInt (by omega)] at h
  omega
set_option maxHeartbeats 4000000 in
set_option maxRecDepth 100000 in
/-- the law's loop at its head, k turns done: both sides hold the same size and the same text -/
theorem law_loop {p : Program} {l : Launch} {e : Env} {s : State} {m : MethodId} {below : List Frame} {meth : Method} {c : Code} {dC : Nat → ClassId} {dI : Nat → Nat → Nat} {b L : Nat} {xs : Nat → Int32} (hL : L ≤ 288) (C0 : lw_At p s m meth c b L xs) (q0 qa q1 qb : Nat) (cA cB : ClassId) :
    ∀ (t k n : Nat) (f : Nat → Int32), 6 * k ≤ L → L + 1 ≤ 6 * k + t → n ≤ 256 → ∀ (H : Heap) (locs : List Loc), va_K (dC, dI) vwCl [(cA, .byte), (cB, .byte)] s → va_P (dC, dI) vwCl [(q0, .inr (0, [.ref qa, .int (nI n)])), (qa, .inl (cA, 256, .inl f)), (q1, .inr (1, [.ref qb, .int (nI n)])), (qb, .inl (cB, 256, .inl f))] H → va_D (fun q : Nat => s.heap.size ≤ q) [(q0, .inr (0, [.ref qa, .int (nI n)])), (qa, .inl (cA, 256, .inl f)), (q1, .inr (1, [.ref qb, .int (nI n)])), (qb, .inl (cB, 256, .inl f))] → va_S (fun q : Nat => s.heap.size ≤ q) s.heap H locs → ∀ (ls : Array Slot), lv_has ls 4 [(0, .ref b), (1, .ref q0), (2, .ref q1), (3, .int (nI (6 * k)))] → W p l e room_1 s m #[Value.ref b] below meth c H locs (4 + 2 * k) (516 + 258 * k) (lw_Z below #[Value.ref b] s) (F0 m 18 ls []) := by
  obtain ⟨hx, hb, hr, hml, hown, hts0, hX, hbl, hlocks, hgv⟩ := C0
  have hts : ∀ w ∈ lw_all, w.before #[Value.ref b] s = true := fun w h => hts0 w (lw_all_tbl h)
  have hA : ∀ q : Nat, s.heap.size ≤ q → (fun q : Nat => s.heap.size ≤ q) q := fun _ h => h
  have hbA : ¬ (fun q : Nat => s.heap.size ≤ q) b := Nat.not_le.mpr hbl
  intro t
  induction t with
  | zero =>
    intro k n f h1 h2
    exact absurd h2 (by omega)
  | succ t ih =>
    intro k n f hk hkt hn H locs hK hP hD hS ls hl
    refine lv_iload_n hx hb dL_law_18 rfl (lv_at hl 3 rfl) ?_
    refine lv_aload_n hx hb dL_law_19 rfl (lv_at hl 0 rfl) ?_
    refine va_slen hx hb hX hbl hbA hS dL_law_20 ?_
    refine mv_top (y := (nI L)) (rfl) ?_
    refine lv_bipush (v := 6) hx hb dL_law_21 (by decide) ?_
    refine lv_isub hx hb dL_law_23 ?_
    refine lv_icmp_gt (tgt := 241) hx hb dL_law_24 (by decide) (fun c0 => ?_) (fun c0 => ?_)
    · refine lv_iconst (v := 1) hx hb dL_law_241 (by decide) ?_
      refine va_forget (fun q hq => hS.2.2 q hq) ?_
      refine W.widen (k := 1200000) (n := 5502250) (by omega) (by omega) ?_
      exact lw_ret hx hb hr hlocks dL_law_242
    · have h6 : 6 * k + 6 ≤ L := mv_guard hL hk c0
      refine lv_aload_n hx hb dL_law_27 rfl (lv_at hl 0 rfl) ?_
      refine lv_iload_n hx hb dL_law_28 rfl (lv_at hl 3 rfl) ?_
      refine mv_sld hx hb hX hbl hbA hS (6 * k) (by omega) (by omega) dL_law_29 ?_
      refine lv_iconst (v := 3) hx hb dL_law_30 (by decide) ?_
      obtain ⟨j, hj⟩ : ∃ j, j = (xs (6 * k)).toBitVec.toNat % 2 ^ 2 := ⟨_, rfl⟩
      have hj4 : j < 4 := by rw [hj]; exact Nat.mod_lt _ (by decide)
      refine lv_iand hx hb dL_law_31 ?_
      refine mv_top (y := (nI j)) (by rw [pk_and _ 2 (by decide +kernel), hj]) ?_
      rcases (show j = 0 ∨ j = 1 ∨ j = 2 ∨ j = 3 by omega) with hc | hc | hc | hc
      · refine lv_tableIn (off := 32) (tgt := 64) hx hb dL_law_32 (by rw [hc]; decide +kernel) (by rw [hc]; decide +kernel) (by rw [hc]; decide +kernel) (by decide) ?_
        refine lv_aload_n hx hb dL_law_64 rfl (lv_at hl 1 rfl) ?_
        refine lv_aload_n hx hb dL_law_65 rfl (lv_at hl 0 rfl) ?_
        refine lv_iload_n hx hb dL_law_66 rfl (lv_at hl 3 rfl) ?_
        refine lv_iconst (v := 1) hx hb dL_law_67 (by decide) ?_
        refine lv_iadd hx hb dL_law_68 ?_
        refine mv_top (y := (nI (6 * k + 1))) (mv_add (a := 6 * k) (b := 1) (by omega)) ?_
        refine mv_sld hx hb hX hbl hbA hS (6 * k + 1) (by omega) (by omega) dL_law_69 ?_
        refine lv_aload_n hx hb dL_law_70 rfl (lv_at hl 0 rfl) ?_
        refine lv_iload_n hx hb dL_law_71 rfl (lv_at hl 3 rfl) ?_
        refine lv_iconst (v := 2) hx hb dL_law_72 (by decide) ?_
        refine lv_iadd hx hb dL_law_73 ?_
        refine mv_top (y := (nI (6 * k + 2))) (mv_add (a := 6 * k) (b := 2) (by omega)) ?_
        refine mv_sld hx hb hX hbl hbA hS (6 * k + 2) (by omega) (by omega) dL_law_74 ?_
        refine lv_aload_n hx hb dL_law_75 rfl (lv_at hl 0 rfl) ?_
        refine lv_iload_n hx hb dL_law_76 rfl (lv_at hl 3 rfl) ?_
        refine lv_iconst (v := 3) hx hb dL_law_77 (by decide) ?_
        refine lv_iadd hx hb dL_law_78 ?_
        refine mv_top (y := (nI (6 * k + 3))) (mv_add (a := 6 * k) (b := 3) (by omega)) ?_
        refine mv_sld hx hb hX hbl hbA hS (6 * k + 3) (by omega) (by omega) dL_law_79 ?_
        refine lv_aload_n hx hb dL_law_80 rfl (lv_at hl 0 rfl) ?_
        refine lv_iload_n hx hb dL_law_81 rfl (lv_at hl 3 rfl) ?_
        refine lv_iconst (v := 4) hx hb dL_law_82 (by decide) ?_
        refine lv_iadd hx hb dL_law_83 ?_
        refine mv_top (y := (nI (6 * k + 4))) (mv_add (a := 6 * k) (b := 4) (by omega)) ?_
        refine mv_sld hx hb hX hbl hbA hS (6 * k + 4) (by omega) (by omega) dL_law_84 ?_
        have hPc := hP.sub (ws' := [(q0, .inr (0, [.ref qa, .int (nI n)])), (qa, .inl (cA, 256, .inl f))]) [0, 1] rfl
        have hDc := hD.sub (ws' := [(q0, .inr (0, [.ref qa, .int (nI n)])), (qa, .inl (cA, 256, .inl f))]) [0, 1] (by decide) rfl
        have hKc := hK.sub (tys' := [(cA, .byte)]) [0] rfl
        have hFc := va_free (wc := [(q0, .inr (0, [.ref qa, .int (nI n)])), (qa, .inl (cA, 256, .inl f))]) hD hS hA [0, 1] rfl
        refine va_calli (va_runV (As := [.int (xs (6 * k + 1)), .int (xs (6 * k + 2)), .int (xs (6 * k + 3)), .int (xs (6 * k + 4))]) (rest := []) ⟨hx, hb, hml, hown, hts⟩ (c_dput l dC dI q0 qa cA f n H.size hn (xs (6 * k + 1)) (xs (6 * k + 2)) (xs (6 * k + 3)) (xs (6 * k + 4))) (cwV 4 hts (lw_V q33 q34 q35 q12 q36) rfl rfl rfl (by decide +kernel) ⟨Nat.le_of_ble_eq_true rfl, Nat.le_of_ble_eq_true rfl⟩) ⟨fun a U g mk q => by obtain ⟨q0, q1, qP, qK, qD⟩ := q; exact ⟨q0, q1, qP, va_K.moved (u := U) (U := U.calling g mk a) (Vm.Alike.refl U.vm) qK, qD⟩, va_recv hKc hPc (ci := 0) (q0 := 0) rfl rfl, fun U hU hW => ⟨rfl, by rw [hU], by rw [hU]; exact hPc, va_K.moved hW.alike hKc, hDc.weaken (fun _ _ _ _ => trivial)⟩⟩ rfl rfl hl.1 rfl (lv_room (Nat.le_of_ble_eq_true rfl)) dL_law_85 ⟨by show 4 + 2 * k + 0 ≤ 1200000; omega, by show 516 + 258 * k + 0 ≤ 5502250; omega⟩) hS (fun q _ h => hFc q h) hFc (fun r1 u t H1 locs ht hvm hwr1 hB hz1 hk1 hS => ?_)
        obtain ⟨n2, f2⟩ := u
        have hwr1 : r1 = (if n ≤ 240 then 1 else 0) ∧ n2 = (if n ≤ 240 then n + 16 else n) ∧ f2 = (if n ≤ 240 then mv_p16 f n (xs (6 * k + 1)) (xs (6 * k + 2)) (xs (6 * k + 3)) (xs (6 * k + 4)) else f) := hwr1
        obtain ⟨hP1, hK1, hD1⟩ := hB
        rw [ht] at hP1
        have hK1 := va_K.moved hvm.symm hK1
        obtain ⟨hP, hD⟩ := va_join (wr := [(q1, .inr (1, [.ref qb, .int (nI n)])), (qb, .inl (cB, 256, .inl f))]) (w1 := [(q0, .inr (0, [.ref qa, .int (nI n2)])), (qa, .inl (cA, 256, .inl f2))]) hP hD [0, 1] [2, 3] rfl rfl (by decide) (by decide) hk1 hFc hP1 hD1
        have hK := (hK.sub (tys' := [(cB, .byte)]) [1] rfl).app hK1
        generalize H1 = H at hP hS ⊢
        have hP : va_P (dC, dI) vwCl [(q1, .inr (1, [.ref qb, .int (nI n)])), (qb, .inl (cB, 256, .inl f)), (q0, .inr (0, [.ref qa, .int (nI n2)])), (qa, .inl (cA, 256, .inl f2))] H := hP
        have hD : va_D (fun q : Nat => s.heap.size ≤ q) [(q1, .inr (1, [.ref qb, .int (nI n)])), (qb, .inl (cB, 256, .inl f)), (q0, .inr (0, [.ref qa, .int (nI n2)])), (qa, .inl (cA, 256, .inl f2))] := hD
        have hK : va_K (dC, dI) vwCl [(cB, .byte), (cA, .byte)] s := hK
        refine lv_aload_n hx hb dL_law_88 rfl (lv_at hl 2 rfl) ?_
        refine lv_aload_n hx hb dL_law_89 rfl (lv_at hl 0 rfl) ?_
        refine lv_iload_n hx hb dL_law_90 rfl (lv_at hl 3 rfl) ?_
        refine lv_iconst (v := 1) hx hb dL_law_91 (by decide) ?_
        refine lv_iadd hx hb dL_law_92 ?_
        refine mv_top (y := (nI (6 * k + 1))) (mv_add (a := 6 * k) (b := 1) (by omega)) ?_
        refine mv_sld hx hb hX hbl hbA hS (6 * k + 1) (by omega) (by omega) dL_law_93 ?_
        refine lv_aload_n hx hb dL_law_94 rfl (lv_at hl 0 rfl) ?_
        refine lv_iload_n hx hb dL_law_95 rfl (lv_at hl 3 rfl) ?_
        refine lv_iconst (v := 2) hx hb dL_law_96 (by decide) ?_
        refine lv_iadd hx hb dL_law_97 ?_
        refine mv_top (y := (nI (6 * k + 2))) (mv_add (a := 6 * k) (b := 2) (by omega)) ?_
        refine mv_sld hx hb hX hbl hbA hS (6 * k + 2) (by omega) (by omega) dL_law_98 ?_
        refine lv_aload_n hx hb dL_law_99 rfl (lv_at hl 0 rfl) ?_
        refine lv_iload_n hx hb dL_law_100 rfl (lv_at hl 3 rfl) ?_
        refine lv_iconst (v := 3) hx hb dL_law_101 (by decide) ?_
        refine lv_iadd hx hb dL_law_102 ?_
        refine mv_top (y := (nI (6 * k + 3))) (mv_add (a := 6 * k) (b := 3) (by omega)) ?_
        refine mv_sld hx hb hX hbl hbA hS (6 * k + 3) (by omega) (by omega) dL_law_103 ?_
        refine lv_aload_n hx hb dL_law_104 rfl (lv_at hl 0 rfl) ?_
        refine lv_iload_n hx hb dL_law_105 rfl (lv_at hl 3 rfl) ?_
        refine lv_iconst (v := 4) hx hb dL_law_106 (by decide) ?_
        refine lv_iadd hx hb dL_law_107 ?_
        refine mv_top (y := (nI (6 * k + 4))) (mv_add (a := 6 * k) (b := 4) (by omega)) ?_
        refine mv_sld hx hb hX hbl hbA hS (6 * k + 4) (by omega) (by omega) dL_law_108 ?_
        have hPc := hP.sub (ws' := [(q1, .inr (1, [.ref qb, .int (nI n)])), (qb, .inl (cB, 256, .inl f))]) [0, 1] rfl
        have hDc := hD.sub (ws' := [(q1, .inr (1, [.ref qb, .int (nI n)])), (qb, .inl (cB, 256, .inl f))]) [0, 1] (by decide) rfl
        have hKc := hK.sub (tys' := [(cB, .byte)]) [0] rfl
        have hFc := va_free (wc := [(q1, .inr (1, [.ref qb, .int (nI n)])), (qb, .inl (cB, 256, .inl f))]) hD hS hA [0, 1] rfl
        refine va_calli (va_runV (As := [.int (xs (6 * k + 1)), .int (xs (6 * k + 2)), .int (xs (6 * k + 3)), .int (xs (6 * k + 4))]) (rest := [.int r1]) ⟨hx, hb, hml, hown, hts⟩ (c_mput l dC dI q1 qb cB f n H.size hn (xs (6 * k + 1)) (xs (6 * k + 2)) (xs (6 * k + 3)) (xs (6 * k + 4))) (cwV 4 hts (lw_V q107 q108 q109 q13 q110) rfl rfl rfl (by decide +kernel) ⟨Nat.le_of_ble_eq_true rfl, Nat.le_of_ble_eq_true rfl⟩) ⟨fun a U g mk q => by obtain ⟨q0, q1, qP, qK, qD⟩ := q; exact ⟨q0, q1, qP, va_K.moved (u := U) (U := U.calling g mk a) (Vm.Alike.refl U.vm) qK, qD⟩, va_recv hKc hPc (ci := 1) (q0 := 0) rfl rfl, fun U hU hW => ⟨rfl, by rw [hU], by rw [hU]; exact hPc, va_K.moved hW.alike hKc, hDc.weaken (fun _ _ _ _ => trivial)⟩⟩ rfl rfl hl.1 rfl (lv_room (Nat.le_of_ble_eq_true rfl)) dL_law_109 ⟨by show 4 + 2 * k + 0 + 1 ≤ 1200000; omega, by show 516 + 258 * k + 0 + 4 ≤ 5502250; omega⟩) hS (fun q _ h => hFc q h) hFc (fun r2 u t H1 locs ht hvm hwr2 hB hz1 hk1 hS => ?_)
        obtain ⟨n3, f3⟩ := u
        have hwr2 : r2 = (if n ≤ 240 then 1 else 0) ∧ n3 = (if n ≤ 240 then n + 16 else n) ∧ f3 = (if n ≤ 240 then mv_p16 f n (xs (6 * k + 1)) (xs (6 * k + 2)) (xs (6 * k + 3)) (xs (6 * k + 4)) else f) := hwr2
        obtain ⟨hP1, hK1, hD1⟩ := hB
        rw [ht] at hP1
        have hK1 := va_K.moved hvm.symm hK1
        obtain ⟨hP, hD⟩ := va_join (wr := [(q0, .inr (0, [.ref qa, .int (nI n2)])), (qa, .inl (cA, 256, .inl f2))]) (w1 := [(q1, .inr (1, [.ref qb, .int (nI n3)])), (qb, .inl (cB, 256, .inl f3))]) hP hD [0, 1] [2, 3] rfl rfl (by decide) (by decide) hk1 hFc hP1 hD1
        have hK := (hK.sub (tys' := [(cA, .byte)]) [1] rfl).app hK1
        generalize H1 = H at hP hS ⊢
        have hP : va_P (dC, dI) vwCl [(q0, .inr (0, [.ref qa, .int (nI n2)])), (qa, .inl (cA, 256, .inl f2)), (q1, .inr (1, [.ref qb, .int (nI n3)])), (qb, .inl (cB, 256, .inl f3))] H := hP
        have hD : va_D (fun q : Nat => s.heap.size ≤ q) [(q0, .inr (0, [.ref qa, .int (nI n2)])), (qa, .inl (cA, 256, .inl f2)), (q1, .inr (1, [.ref qb, .int (nI n3)])), (qb, .inl (cB, 256, .inl f3))] := hD
        have hK : va_K (dC, dI) vwCl [(cA, .byte), (cB, .byte)] s := hK
        have hn3 : n3 = n2 := by rw [hwr2.2.1, hwr1.2.1]
        have hf3 : f3 = f2 := by rw [hwr2.2.2, hwr1.2.2]
        subst hn3
        subst hf3
        refine lv_icmp_eq (tgt := 235) hx hb dL_law_112 (by decide) (fun c1 => ?_) (fun c1 => absurd (by rw [hwr1.1, hwr2.1]) c1)
        refine W.widen (k := 4 + 2 * (k + 1)) (n := 516 + 258 * (k + 1)) (by omega) (by omega) ?_
        refine lv_iinc (v := (nI (6 * (k + 1)))) (lv' := [(3, .int (nI (6 * (k + 1)))), (0, .ref b), (1, .ref q0), (2, .ref q1)]) hx hb dL_law_235 hl (k := 3) rfl (by rw [mv_inc6]; exact congrArg nI (by omega)) (by decide) rfl (fun ls hl => ?_)
        refine lv_goto (tgt := 18) hx hb dL_law_238 (by decide) ?_
        have hl := lv_sub hl (l' := [(0, .ref b), (1, .ref q0), (2, .ref q1), (3, .int (nI (6 * (k + 1))))]) [1, 2, 3, 0] rfl
        have hP := hP.sub (ws' := [(q0, .inr (0, [.ref qa, .int (nI n3)])), (qa, .inl (cA, 256, .inl f3)), (q1, .inr (1, [.ref qb, .int (nI n3)])), (qb, .inl (cB, 256, .inl f3))]) [0, 1, 2, 3] rfl
        have hD := hD.sub (ws' := [(q0, .inr (0, [.ref qa, .int (nI n3)])), (qa, .inl (cA, 256, .inl f3)), (q1, .inr (1, [.ref qb, .int (nI n3)])), (qb, .inl (cB, 256, .inl f3))]) [0, 1, 2, 3] (by decide) rfl
        have hK := hK.sub (tys' := [(cA, .byte), (cB, .byte)]) [0, 1] rfl
        exact ih (k + 1) _ _ (by omega) (by omega) (by rw [hwr1.2.1]; split <;> omega) _ _ hK hP hD hS ls hl
      · refine lv_tableIn (off := 85) (tgt := 117) hx hb dL_law_32 (by rw [hc]; decide +kernel) (by rw [hc]; decide +kernel) (by rw [hc]; decide +kernel) (by decide) ?_
        refine lv_aload_n hx hb dL_law_117 rfl (lv_at hl 1 rfl) ?_
        refine lv_aload_n hx hb dL_law_118 rfl (lv_at hl 0 rfl) ?_
        refine lv_iload_n hx hb dL_law_119 rfl (lv_at hl 3 rfl) ?_
        refine lv_iconst (v := 1) hx hb dL_law_120 (by decide) ?_
        refine lv_iadd hx hb dL_law_121 ?_
        refine mv_top (y := (nI (6 * k + 1))) (mv_add (a := 6 * k) (b := 1) (by omega)) ?_
        refine mv_sld hx hb hX hbl hbA hS (6 * k + 1) (by omega) (by omega) dL_law_122 ?_
        have hPc := hP.sub (ws' := [(q0, .inr (0, [.ref qa, .int (nI n)])), (qa, .inl (cA, 256, .inl f))]) [0, 1] rfl
        have hDc := hD.sub (ws' := [(q0, .inr (0, [.ref qa, .int (nI n)])), (qa, .inl (cA, 256, .inl f))]) [0, 1] (by decide) rfl
        have hKc := hK.sub (tys' := [(cA, .byte)]) [0] rfl
        have hFc := va_free (wc := [(q0, .inr (0, [.ref qa, .int (nI n)])), (qa, .inl (cA, 256, .inl f))]) hD hS hA [0, 1] rfl
        refine va_callv (va_runV (As := [.int (xs (6 * k + 1))]) (rest := []) ⟨hx, hb, hml, hown, hts⟩ (c_dtrim l dC dI q0 qa cA f n H.size hn (xs (6 * k + 1))) (cwV 1 hts (lw_V q40 q41 q42 q12 q43) rfl rfl rfl (by decide +kernel) ⟨Nat.le_of_ble_eq_true rfl, Nat.le_of_ble_eq_true rfl⟩) ⟨fun a U g mk q => by obtain ⟨q0, q1, qP, qK, qD⟩ := q; exact ⟨q0, q1, qP, va_K.moved (u := U) (U := U.calling g mk a) (Vm.Alike.refl U.vm) qK, qD⟩, va_recv hKc hPc (ci := 0) (q0 := 0) rfl rfl, fun U hU hW => ⟨rfl, by rw [hU], by rw [hU]; exact hPc, va_K.moved hW.alike hKc, hDc.weaken (fun _ _ _ _ => trivial)⟩⟩ rfl rfl hl.1 rfl (lv_room (Nat.le_of_ble_eq_true rfl)) dL_law_123 ⟨by show 4 + 2 * k + 0 ≤ 1200000; omega, by show 516 + 258 * k + 0 ≤ 5502250; omega⟩) hS (fun q _ h => hFc q h) hFc (fun u t H1 locs ht hvm hwr1 hB hz1 hk1 hS => ?_)
        obtain ⟨hP1, hK1, hD1⟩ := hB
        rw [ht] at hP1
        have hK1 := va_K.moved hvm.symm hK1
        obtain ⟨hP, hD⟩ := va_join (wr := [(q1, .inr (1, [.ref qb, .int (nI n)])), (qb, .inl (cB, 256, .inl f))]) (w1 := [(q0, .inr (0, [.ref qa, .int (nI (mv_at n (xs (6 * k + 1))))])), (qa, .inl (cA, 256, .inl f))]) hP hD [0, 1] [2, 3] rfl rfl (by decide) (by decide) hk1 hFc hP1 hD1
        have hK := (hK.sub (tys' := [(cB, .byte)]) [1] rfl).app hK1
        generalize H1 = H at hP hS ⊢
        have hP : va_P (dC, dI) vwCl [(q1, .inr (1, [.ref qb, .int (nI n)])), (qb, .inl (cB, 256, .inl f)), (q0, .inr (0, [.ref qa, .int (nI (mv_at n (xs (6 * k + 1))))])), (qa, .inl (cA, 256, .inl f))] H := hP
        have hD : va_D (fun q : Nat => s.heap.size ≤ q) [(q1, .inr (1, [.ref qb, .int (nI n)])), (qb, .inl (cB, 256, .inl f)), (q0, .inr (0, [.ref qa, .int (nI (mv_at n (xs (6 * k + 1))))])), (qa, .inl (cA, 256, .inl f))] := hD
        have hK : va_K (dC, dI) vwCl [(cB, .byte), (cA, .byte)] s := hK
        refine lv_aload_n hx hb dL_law_126 rfl (lv_at hl 2 rfl) ?_
        refine lv_aload_n hx hb dL_law_127 rfl (lv_at hl 0 rfl) ?_
        refine lv_iload_n hx hb dL_law_128 rfl (lv_at hl 3 rfl) ?_
        refine lv_iconst (v := 1) hx hb dL_law_129 (by decide) ?_
        refine lv_iadd hx hb dL_law_130 ?_
        refine mv_top (y := (nI (6 * k + 1))) (mv_add (a := 6 * k) (b := 1) (by omega)) ?_
        refine mv_sld hx hb hX hbl hbA hS (6 * k + 1) (by omega) (by omega) dL_law_131 ?_
        have hPc := hP.sub (ws' := [(q1, .inr (1, [.ref qb, .int (nI n)])), (qb, .inl (cB, 256, .inl f))]) [0, 1] rfl
        have hDc := hD.sub (ws' := [(q1, .inr (1, [.ref qb, .int (nI n)])), (qb, .inl (cB, 256, .inl f))]) [0, 1] (by decide) rfl
        have hKc := hK.sub (tys' := [(cB, .byte)]) [0] rfl
        have hFc := va_free (wc := [(q1, .inr (1, [.ref qb, .int (nI n)])), (qb, .inl (cB, 256, .inl f))]) hD hS hA [0, 1] rfl
        refine va_callv (va_runV (As := [.int (xs (6 * k + 1))]) (rest := []) ⟨hx, hb, hml, hown, hts⟩ (c_mtrim l dC dI q1 qb cB f n H.size hn (xs (6 * k + 1))) (cwV 1 hts (lw_V q112 q113 q114 q13 q115) rfl rfl rfl (by decide +kernel) ⟨Nat.le_of_ble_eq_true rfl, Nat.le_of_ble_eq_true rfl⟩) ⟨fun a U g mk q => by obtain ⟨q0, q1, qP, qK, qD⟩ := q; exact ⟨q0, q1, qP, va_K.moved (u := U) (U := U.calling g mk a) (Vm.Alike.refl U.vm) qK, qD⟩, va_recv hKc hPc (ci := 1) (q0 := 0) rfl rfl, fun U hU hW => ⟨rfl, by rw [hU], by rw [hU]; exact hPc, va_K.moved hW.alike hKc, hDc.weaken (fun _ _ _ _ => trivial)⟩⟩ rfl rfl hl.1 rfl (lv_room (Nat.le_of_ble_eq_true rfl)) dL_law_132 ⟨by show 4 + 2 * k + 0 + 0 ≤ 1200000; omega, by show 516 + 258 * k + 0 + 0 ≤ 5502250; omega⟩) hS (fun q _ h => hFc q h) hFc (fun u t H1 locs ht hvm hwr2 hB hz1 hk1 hS => ?_)
        obtain ⟨hP1, hK1, hD1⟩ := hB
        rw [ht] at hP1
        have hK1 := va_K.moved hvm.symm hK1
        obtain ⟨hP, hD⟩ := va_join (wr := [(q0, .inr (0, [.ref qa, .int (nI (mv_at n (xs (6 * k + 1))))])), (qa, .inl (cA, 256, .inl f))]) (w1 := [(q1, .inr (1, [.ref qb, .int (nI (mv_at n (xs (6 * k + 1))))])), (qb, .inl (cB, 256, .inl f))]) hP hD [0, 1] [2, 3] rfl rfl (by decide) (by decide) hk1 hFc hP1 hD1
        have hK := (hK.sub (tys' := [(cA, .byte)]) [1] rfl).app hK1
        generalize H1 = H at hP hS ⊢
        have hP : va_P (dC, dI) vwCl [(q0, .inr (0, [.ref qa, .int (nI (mv_at n (xs (6 * k + 1))))])), (qa, .inl (cA, 256, .inl f)), (q1, .inr (1, [.ref qb, .int (nI (mv_at n (xs (6 * k + 1))))])), (qb, .inl (cB, 256, .inl f))] H := hP
        have hD : va_D (fun q : Nat => s.heap.size ≤ q) [(q0, .inr (0, [.ref qa, .int (nI (mv_at n (xs (6 * k + 1))))])), (qa, .inl (cA, 256, .inl f)), (q1, .inr (1, [.ref qb, .int (nI (mv_at n (xs (6 * k + 1))))])), (qb, .inl (cB, 256, .inl f))] := hD
        have hK : va_K (dC, dI) vwCl [(cA, .byte), (cB, .byte)] s := hK
        refine lv_goto (tgt := 235) hx hb dL_law_135 (by decide) ?_
        refine W.widen (k := 4 + 2 * (k + 1)) (n := 516 + 258 * (k + 1)) (by omega) (by omega) ?_
        refine lv_iinc (v := (nI (6 * (k + 1)))) (lv' := [(3, .int (nI (6 * (k + 1)))), (0, .ref b), (1, .ref q0), (2, .ref q1)]) hx hb dL_law_235 hl (k := 3) rfl (by rw [mv_inc6]; exact congrArg nI (by omega)) (by decide) rfl (fun ls hl => ?_)
        refine lv_goto (tgt := 18) hx hb dL_law_238 (by decide) ?_
        have hl := lv_sub hl (l' := [(0, .ref b), (1, .ref q0), (2, .ref q1), (3, .int (nI (6 * (k + 1))))]) [1, 2, 3, 0] rfl
        have hP := hP.sub (ws' := [(q0, .inr (0, [.ref qa, .int (nI (mv_at n (xs (6 * k + 1))))])), (qa, .inl (cA, 256, .inl f)), (q1, .inr (1, [.ref qb, .int (nI (mv_at n (xs (6 * k + 1))))])), (qb, .inl (cB, 256, .inl f))]) [0, 1, 2, 3] rfl
        have hD := hD.sub (ws' := [(q0, .inr (0, [.ref qa, .int (nI (mv_at n (xs (6 * k + 1))))])), (qa, .inl (cA, 256, .inl f)), (q1, .inr (1, [.ref qb, .int (nI (mv_at n (xs (6 * k + 1))))])), (qb, .inl (cB, 256, .inl f))]) [0, 1, 2, 3] (by decide) rfl
        have hK := hK.sub (tys' := [(cA, .byte), (cB, .byte)]) [0, 1] rfl
        exact ih (k + 1) _ _ (by omega) (by omega) (Nat.le_trans (mv_at_le n (xs (6 * k + 1))) hn) _ _ hK hP hD hS ls hl
      · refine lv_tableIn (off := 106) (tgt := 138) hx hb dL_law_32 (by rw [hc]; decide +kernel) (by rw [hc]; decide +kernel) (by rw [hc]; decide +kernel) (by decide) ?_
        refine lv_aload_n hx hb dL_law_138 rfl (lv_at hl 1 rfl) ?_
        refine lv_aload_n hx hb dL_law_139 rfl (lv_at hl 0 rfl) ?_
        refine lv_iload_n hx hb dL_law_140 rfl (lv_at hl 3 rfl) ?_
        refine lv_iconst (v := 1) hx hb dL_law_141 (by decide) ?_
        refine lv_iadd hx hb dL_law_142 ?_
        refine mv_top (y := (nI (6 * k + 1))) (mv_add (a := 6 * k) (b := 1) (by omega)) ?_
        refine mv_sld hx hb hX hbl hbA hS (6 * k + 1) (by omega) (by omega) dL_law_143 ?_
        refine lv_aload_n hx hb dL_law_144 rfl (lv_at hl 0 rfl) ?_
        refine lv_iload_n hx hb dL_law_145 rfl (lv_at hl 3 rfl) ?_
        refine lv_iconst (v := 2) hx hb dL_law_146 (by decide) ?_
        refine lv_iadd hx hb dL_law_147 ?_
        refine mv_top (y := (nI (6 * k + 2))) (mv_add (a := 6 * k) (b := 2) (by omega)) ?_
        refine mv_sld hx hb hX hbl hbA hS (6 * k + 2) (by omega) (by omega) dL_law_148 ?_
        refine lv_aload_n hx hb dL_law_149 rfl (lv_at hl 0 rfl) ?_
        refine lv_iload_n hx hb dL_law_150 rfl (lv_at hl 3 rfl) ?_
        refine lv_iconst (v := 3) hx hb dL_law_151 (by decide) ?_
        refine lv_iadd hx hb dL_law_152 ?_
        refine mv_top (y := (nI (6 * k + 3))) (mv_add (a := 6 * k) (b := 3) (by omega)) ?_
        refine mv_sld hx hb hX hbl hbA hS (6 * k + 3) (by omega) (by omega) dL_law_153 ?_
        have hPc := hP.sub (ws' := [(q0, .inr (0, [.ref qa, .int (nI n)])), (qa, .inl (cA, 256, .inl f))]) [0, 1] rfl
        have hDc := hD.sub (ws' := [(q0, .inr (0, [.ref qa, .int (nI n)])), (qa, .inl (cA, 256, .inl f))]) [0, 1] (by decide) rfl
        have hKc := hK.sub (tys' := [(cA, .byte)]) [0] rfl
        have hFc := va_free (wc := [(q0, .inr (0, [.ref qa, .int (nI n)])), (qa, .inl (cA, 256, .inl f))]) hD hS hA [0, 1] rfl
        refine va_calli (va_runV (As := [.int (xs (6 * k + 1)), .int (xs (6 * k + 2)), .int (xs (6 * k + 3))]) (rest := []) ⟨hx, hb, hml, hown, hts⟩ (c_dsmall l dC dI q0 qa cA f n H.size hn (xs (6 * k + 1)) (xs (6 * k + 2)) (xs (6 * k + 3))) (cwV 3 hts (lw_V q49 q50 q51 q12 q52) rfl rfl rfl (by decide +kernel) ⟨Nat.le_of_ble_eq_true rfl, Nat.le_of_ble_eq_true rfl⟩) ⟨fun a U g mk q => by obtain ⟨q0, q1, qP, qK, qD⟩ := q; exact ⟨q0, q1, qP, va_K.moved (u := U) (U := U.calling g mk a) (Vm.Alike.refl U.vm) qK, qD⟩, va_recv hKc hPc (ci := 0) (q0 := 0) rfl rfl, fun U hU hW => ⟨rfl, by rw [hU], by rw [hU]; exact hPc, va_K.moved hW.alike hKc, hDc.weaken (fun _ _ _ _ => trivial)⟩⟩ rfl rfl hl.1 rfl (lv_room (Nat.le_of_ble_eq_true rfl)) dL_law_154 ⟨by show 4 + 2 * k + 1 ≤ 1200000; omega, by show 516 + 258 * k + 256 ≤ 5502250; omega⟩) hS (fun q _ h => hFc q h) hFc (fun r1 u t H1 locs ht hvm hwr1 hB hz1 hk1 hS => ?_)
        have hwr1 : r1 = mv_small f n (xs (6 * k + 1)) (xs (6 * k + 2)) (xs (6 * k + 3)) := hwr1
        obtain ⟨hP1, hK1, hD1⟩ := hB
        rw [ht] at hP1
        have hK1 := va_K.moved hvm.symm hK1
        obtain ⟨hP, hD⟩ := va_join (wr := [(q1, .inr (1, [.ref qb, .int (nI n)])), (qb, .inl (cB, 256, .inl f))]) (w1 := [(q0, .inr (0, [.ref qa, .int (nI n)])), (qa, .inl (cA, 256, .inl f))]) hP hD [0, 1] [2, 3] rfl rfl (by decide) (by decide) hk1 hFc hP1 hD1
        have hK := (hK.sub (tys' := [(cB, .byte)]) [1] rfl).app hK1
        generalize H1 = H at hP hS ⊢
        have hP : va_P (dC, dI) vwCl [(q1, .inr (1, [.ref qb, .int (nI n)])), (qb, .inl (cB, 256, .inl f)), (q0, .inr (0, [.ref qa, .int (nI n)])), (qa, .inl (cA, 256, .inl f))] H := hP
        have hD : va_D (fun q : Nat => s.heap.size ≤ q) [(q1, .inr (1, [.ref qb, .int (nI n)])), (qb, .inl (cB, 256, .inl f)), (q0, .inr (0, [.ref qa, .int (nI n)])), (qa, .inl (cA, 256, .inl f))] := hD
        have hK : va_K (dC, dI) vwCl [(cB, .byte), (cA, .byte)] s := hK
        refine lv_aload_n hx hb dL_law_157 rfl (lv_at hl 2 rfl) ?_
        refine lv_aload_n hx hb dL_law_158 rfl (lv_at hl 0 rfl) ?_
        refine lv_iload_n hx hb dL_law_159 rfl (lv_at hl 3 rfl) ?_
        refine lv_iconst (v := 1) hx hb dL_law_160 (by decide) ?_
        refine lv_iadd hx hb dL_law_161 ?_
        refine mv_top (y := (nI (6 * k + 1))) (mv_add (a := 6 * k) (b := 1) (by omega)) ?_
        refine mv_sld hx hb hX hbl hbA hS (6 * k + 1) (by omega) (by omega) dL_law_162 ?_
        refine lv_aload_n hx hb dL_law_163 rfl (lv_at hl 0 rfl) ?_
        refine lv_iload_n hx hb dL_law_164 rfl (lv_at hl 3 rfl) ?_
        refine lv_iconst (v := 2) hx hb dL_law_165 (by decide) ?_
        refine lv_iadd hx hb dL_law_166 ?_
        refine mv_top (y := (nI (6 * k + 2))) (mv_add (a := 6 * k) (b := 2) (by omega)) ?_
        refine mv_sld hx hb hX hbl hbA hS (6 * k + 2) (by omega) (by omega) dL_law_167 ?_
        refine lv_aload_n hx hb dL_law_168 rfl (lv_at hl 0 rfl) ?_
        refine lv_iload_n hx hb dL_law_169 rfl (lv_at hl 3 rfl) ?_
        refine lv_iconst (v := 3) hx hb dL_law_170 (by decide) ?_
        refine lv_iadd hx hb dL_law_171 ?_
        refine mv_top (y := (nI (6 * k + 3))) (mv_add (a := 6 * k) (b := 3) (by omega)) ?_
        refine mv_sld hx hb hX hbl hbA hS (6 * k + 3) (by omega) (by omega) dL_law_172 ?_
        have hPc := hP.sub (ws' := [(q1, .inr (1, [.ref qb, .int (nI n)])), (qb, .inl (cB, 256, .inl f))]) [0, 1] rfl
        have hKc := hK.sub (tys' := [(cB, .byte)]) [0] rfl
        refine vp_callSi (W.runV (As := [.int (xs (6 * k + 1)), .int (xs (6 * k + 2)), .int (xs (6 * k + 3))]) (rest := [.int r1]) ⟨hx, hb, hml, hown, hts⟩ (c_msmall l dC dI q1 qb cB f n hn (xs (6 * k + 1)) (xs (6 * k + 2)) (xs (6 * k + 3))) (cwV 3 hts (lw_V q121 q122 q123 q13 q124) rfl rfl rfl (by decide +kernel) ⟨Nat.le_of_ble_eq_true rfl, Nat.le_of_ble_eq_true rfl⟩) ⟨fun a U g mk q => ⟨q.1, q.2.1, va_K.moved (u := U) (U := U.calling g mk a) (Vm.Alike.refl U.vm) q.2.2⟩, va_recv hK hP (ci := 1) (q0 := 0) rfl rfl, fun U hU hW => ⟨rfl, by rw [hU]; exact hPc, va_K.moved hW.alike hKc⟩⟩ rfl rfl hl.1 rfl (lv_room (Nat.le_of_ble_eq_true rfl)) dL_law_173 ⟨by show 4 + 2 * k + 1 + 0 ≤ 1200000; omega, by show 516 + 258 * k + 256 + 0 ≤ 5502250; omega⟩) (fun r3 hr3 => ?_)
        have hr3 : r3 = mv_small f n (xs (6 * k + 1)) (xs (6 * k + 2)) (xs (6 * k + 3)) := hr3
        refine lv_icmp_eq (tgt := 235) hx hb dL_law_176 (by decide) (fun c1 => ?_) (fun c1 => absurd (by rw [hwr1, hr3]) c1)
        refine W.widen (k := 4 + 2 * (k + 1)) (n := 516 + 258 * (k + 1)) (by omega) (by omega) ?_
        refine lv_iinc (v := (nI (6 * (k + 1)))) (lv' := [(3, .int (nI (6 * (k + 1)))), (0, .ref b), (1, .ref q0), (2, .ref q1)]) hx hb dL_law_235 hl (k := 3) rfl (by rw [mv_inc6]; exact congrArg nI (by omega)) (by decide) rfl (fun ls hl => ?_)
        refine lv_goto (tgt := 18) hx hb dL_law_238 (by decide) ?_
        have hl := lv_sub hl (l' := [(0, .ref b), (1, .ref q0), (2, .ref q1), (3, .int (nI (6 * (k + 1))))]) [1, 2, 3, 0] rfl
        have hP := hP.sub (ws' := [(q0, .inr (0, [.ref qa, .int (nI n)])), (qa, .inl (cA, 256, .inl f)), (q1, .inr (1, [.ref qb, .int (nI n)])), (qb, .inl (cB, 256, .inl f))]) [2, 3, 0, 1] rfl
        have hD := hD.sub (ws' := [(q0, .inr (0, [.ref qa, .int (nI n)])), (qa, .inl (cA, 256, .inl f)), (q1, .inr (1, [.ref qb, .int (nI n)])), (qb, .inl (cB, 256, .inl f))]) [2, 3, 0, 1] (by decide) rfl
        have hK := hK.sub (tys' := [(cA, .byte), (cB, .byte)]) [1, 0] rfl
        exact ih (k + 1) _ _ (by omega) (by omega) hn _ _ hK hP hD hS ls hl
      · refine lv_tableIn (off := 149) (tgt := 181) hx hb dL_law_32 (by rw [hc]; decide +kernel) (by rw [hc]; decide +kernel) (by rw [hc]; decide +kernel) (by decide) ?_
        refine lv_aload_n hx hb dL_law_181 rfl (lv_at hl 1 rfl) ?_
        refine lv_aload_n hx hb dL_law_182 rfl (lv_at hl 0 rfl) ?_
        refine lv_iload_n hx hb dL_law_183 rfl (lv_at hl 3 rfl) ?_
        refine lv_iconst (v := 1) hx hb dL_law_184 (by decide) ?_
        refine lv_iadd hx hb dL_law_185 ?_
        refine mv_top (y := (nI (6 * k + 1))) (mv_add (a := 6 * k) (b := 1) (by omega)) ?_
        refine mv_sld hx hb hX hbl hbA hS (6 * k + 1) (by omega) (by omega) dL_law_186 ?_
        refine lv_aload_n hx hb dL_law_187 rfl (lv_at hl 0 rfl) ?_
        refine lv_iload_n hx hb dL_law_188 rfl (lv_at hl 3 rfl) ?_
        refine lv_iconst (v := 2) hx hb dL_law_189 (by decide) ?_
        refine lv_iadd hx hb dL_law_190 ?_
        refine mv_top (y := (nI (6 * k + 2))) (mv_add (a := 6 * k) (b := 2) (by omega)) ?_
        refine mv_sld hx hb hX hbl hbA hS (6 * k + 2) (by omega) (by omega) dL_law_191 ?_
        refine lv_aload_n hx hb dL_law_192 rfl (lv_at hl 0 rfl) ?_
        refine lv_iload_n hx hb dL_law_193 rfl (lv_at hl 3 rfl) ?_
        refine lv_iconst (v := 3) hx hb dL_law_194 (by decide) ?_
        refine lv_iadd hx hb dL_law_195 ?_
        refine mv_top (y := (nI (6 * k + 3))) (mv_add (a := 6 * k) (b := 3) (by omega)) ?_
        refine mv_sld hx hb hX hbl hbA hS (6 * k + 3) (by omega) (by omega) dL_law_196 ?_
        refine lv_aload_n hx hb dL_law_197 rfl (lv_at hl 0 rfl) ?_
        refine lv_iload_n hx hb dL_law_198 rfl (lv_at hl 3 rfl) ?_
        refine lv_iconst (v := 4) hx hb dL_law_199 (by decide) ?_
        refine lv_iadd hx hb dL_law_200 ?_
        refine mv_top (y := (nI (6 * k + 4))) (mv_add (a := 6 * k) (b := 4) (by omega)) ?_
        refine mv_sld hx hb hX hbl hbA hS (6 * k + 4) (by omega) (by omega) dL_law_201 ?_
        have hPc := hP.sub (ws' := [(q0, .inr (0, [.ref qa, .int (nI n)])), (qa, .inl (cA, 256, .inl f))]) [0, 1] rfl
        have hDc := hD.sub (ws' := [(q0, .inr (0, [.ref qa, .int (nI n)])), (qa, .inl (cA, 256, .inl f))]) [0, 1] (by decide) rfl
        have hKc := hK.sub (tys' := [(cA, .byte)]) [0] rfl
        have hFc := va_free (wc := [(q0, .inr (0, [.ref qa, .int (nI n)])), (qa, .inl (cA, 256, .inl f))]) hD hS hA [0, 1] rfl
        refine va_calll (va_runV (As := [.int (xs (6 * k + 1)), .int (xs (6 * k + 2)), .int (xs (6 * k + 3)), .int (xs (6 * k + 4))]) (rest := []) ⟨hx, hb, hml, hown, hts⟩ (c_dwide l dC dI q0 qa cA f n H.size hn (xs (6 * k + 1)) (xs (6 * k + 2)) (xs (6 * k + 3)) (xs (6 * k + 4))) (cwV 4 hts (lw_V q72 q73 q74 q12 q75) rfl rfl rfl (by decide +kernel) ⟨Nat.le_of_ble_eq_true rfl, Nat.le_of_ble_eq_true rfl⟩) ⟨fun a U g mk q => by obtain ⟨q0, q1, qP, qK, qD⟩ := q; exact ⟨q0, q1, qP, va_K.moved (u := U) (U := U.calling g mk a) (Vm.Alike.refl U.vm) qK, qD⟩, va_recv hKc hPc (ci := 0) (q0 := 0) rfl rfl, fun U hU hW => ⟨rfl, by rw [hU], by rw [hU]; exact hPc, va_K.moved hW.alike hKc, hDc.weaken (fun _ _ _ _ => trivial)⟩⟩ rfl rfl hl.1 rfl (lv_room (Nat.le_of_ble_eq_true rfl)) dL_law_202 ⟨by show 4 + 2 * k + 2 ≤ 1200000; omega, by show 516 + 258 * k + 258 ≤ 5502250; omega⟩) hS (fun q _ h => hFc q h) hFc (fun r1 u t H1 locs ht hvm hwr1 hB hz1 hk1 hS => ?_)
        have hwr1 : r1 = mv_wide f n (xs (6 * k + 1)) (xs (6 * k + 2)) (xs (6 * k + 3)) (xs (6 * k + 4)) := hwr1
        obtain ⟨hP1, hK1, hD1⟩ := hB
        rw [ht] at hP1
        have hK1 := va_K.moved hvm.symm hK1
        obtain ⟨hP, hD⟩ := va_join (wr := [(q1, .inr (1, [.ref qb, .int (nI n)])), (qb, .inl (cB, 256, .inl f))]) (w1 := [(q0, .inr (0, [.ref qa, .int (nI n)])), (qa, .inl (cA, 256, .inl f))]) hP hD [0, 1] [2, 3] rfl rfl (by decide) (by decide) hk1 hFc hP1 hD1
        have hK := (hK.sub (tys' := [(cB, .byte)]) [1] rfl).app hK1
        generalize H1 = H at hP hS ⊢
        have hP : va_P (dC, dI) vwCl [(q1, .inr (1, [.ref qb, .int (nI n)])), (qb, .inl (cB, 256, .inl f)), (q0, .inr (0, [.ref qa, .int (nI n)])), (qa, .inl (cA, 256, .inl f))] H := hP
        have hD : va_D (fun q : Nat => s.heap.size ≤ q) [(q1, .inr (1, [.ref qb, .int (nI n)])), (qb, .inl (cB, 256, .inl f)), (q0, .inr (0, [.ref qa, .int (nI n)])), (qa, .inl (cA, 256, .inl f))] := hD
        have hK : va_K (dC, dI) vwCl [(cB, .byte), (cA, .byte)] s := hK
        refine lv_aload_n hx hb dL_law_205 rfl (lv_at hl 2 rfl) ?_
        refine lv_aload_n hx hb dL_law_206 rfl (lv_at hl 0 rfl) ?_
        refine lv_iload_n hx hb dL_law_207 rfl (lv_at hl 3 rfl) ?_
        refine lv_iconst (v := 1) hx hb dL_law_208 (by decide) ?_
        refine lv_iadd hx hb dL_law_209 ?_
        refine mv_top (y := (nI (6 * k + 1))) (mv_add (a := 6 * k) (b := 1) (by omega)) ?_
        refine mv_sld hx hb hX hbl hbA hS (6 * k + 1) (by omega) (by omega) dL_law_210 ?_
        refine lv_aload_n hx hb dL_law_211 rfl (lv_at hl 0 rfl) ?_
        refine lv_iload_n hx hb dL_law_212 rfl (lv_at hl 3 rfl) ?_
        refine lv_iconst (v := 2) hx hb dL_law_213 (by decide) ?_
        refine lv_iadd hx hb dL_law_214 ?_
        refine mv_top (y := (nI (6 * k + 2))) (mv_add (a := 6 * k) (b := 2) (by omega)) ?_
        refine mv_sld hx hb hX hbl hbA hS (6 * k + 2) (by omega) (by omega) dL_law_215 ?_
        refine lv_aload_n hx hb dL_law_216 rfl (lv_at hl 0 rfl) ?_
        refine lv_iload_n hx hb dL_law_217 rfl (lv_at hl 3 rfl) ?_
        refine lv_iconst (v := 3) hx hb dL_law_218 (by decide) ?_
        refine lv_iadd hx hb dL_law_219 ?_
        refine mv_top (y := (nI (6 * k + 3))) (mv_add (a := 6 * k) (b := 3) (by omega)) ?_
        refine mv_sld hx hb hX hbl hbA hS (6 * k + 3) (by omega) (by omega) dL_law_220 ?_
        refine lv_aload_n hx hb dL_law_221 rfl (lv_at hl 0 rfl) ?_
        refine lv_iload_n hx hb dL_law_222 rfl (lv_at hl 3 rfl) ?_
        refine lv_iconst (v := 4) hx hb dL_law_223 (by decide) ?_
        refine lv_iadd hx hb dL_law_224 ?_
        refine mv_top (y := (nI (6 * k + 4))) (mv_add (a := 6 * k) (b := 4) (by omega)) ?_
        refine mv_sld hx hb hX hbl hbA hS (6 * k + 4) (by omega) (by omega) dL_law_225 ?_
        have hPc := hP.sub (ws' := [(q1, .inr (1, [.ref qb, .int (nI n)])), (qb, .inl (cB, 256, .inl f))]) [0, 1] rfl
        have hKc := hK.sub (tys' := [(cB, .byte)]) [0] rfl
        refine vp_callSl (W.runV (As := [.int (xs (6 * k + 1)), .int (xs (6 * k + 2)), .int (xs (6 * k + 3)), .int (xs (6 * k + 4))]) (rest := [.long r1]) ⟨hx, hb, hml, hown, hts⟩ (c_mwide l dC dI q1 qb cB f n hn (xs (6 * k + 1)) (xs (6 * k + 2)) (xs (6 * k + 3)) (xs (6 * k + 4))) (cwV 4 hts (lw_V q142 q143 q144 q13 q145) rfl rfl rfl (by decide +kernel) ⟨Nat.le_of_ble_eq_true rfl, Nat.le_of_ble_eq_true rfl⟩) ⟨fun a U g mk q => ⟨q.1, q.2.1, va_K.moved (u := U) (U := U.calling g mk a) (Vm.Alike.refl U.vm) q.2.2⟩, va_recv hK hP (ci := 1) (q0 := 0) rfl rfl, fun U hU hW => ⟨rfl, by rw [hU]; exact hPc, va_K.moved hW.alike hKc⟩⟩ rfl rfl hl.1 rfl (lv_room (Nat.le_of_ble_eq_true rfl)) dL_law_226 ⟨by show 4 + 2 * k + 2 + 0 ≤ 1200000; omega, by show 516 + 258 * k + 258 + 0 ≤ 5502250; omega⟩) (fun r4 hr4 => ?_)
        have hr4 : r4 = mv_wide f n (xs (6 * k + 1)) (xs (6 * k + 2)) (xs (6 * k + 3)) (xs (6 * k + 4)) := hr4
        refine W.lcmp hx hb dL_law_229 ?_
        refine lv_if_eq (tgt := 235) hx hb dL_law_230 (by decide) (fun c1 => ?_) (fun c1 => absurd ((lg_cmp_eq _ _).mpr (by rw [hwr1, hr4])) c1)
        refine W.widen (k := 4 + 2 * (k + 1)) (n := 516 + 258 * (k + 1)) (by omega) (by omega) ?_
        refine lv_iinc (v := (nI (6 * (k + 1)))) (lv' := [(3, .int (nI (6 * (k + 1)))), (0, .ref b), (1, .ref q0), (2, .ref q1)]) hx hb dL_law_235 hl (k := 3) rfl (by rw [mv_inc6]; exact congrArg nI (by omega)) (by decide) rfl (fun ls hl => ?_)
        refine lv_goto (tgt := 18) hx hb dL_law_238 (by decide) ?_
        have hl := lv_sub hl (l' := [(0, .ref b), (1, .ref q0), (2, .ref q1), (3, .int (nI (6 * (k + 1))))]) [1, 2, 3, 0] rfl
        have hP := hP.sub (ws' := [(q0, .inr (0, [.ref qa, .int (nI n)])), (qa, .inl (cA, 256, .inl f)), (q1, .inr (1, [.ref qb, .int (nI n)])), (qb, .inl (cB, 256, .inl f))]) [2, 3, 0, 1] rfl
        have hD := hD.sub (ws' := [(q0, .inr (0, [.ref qa, .int (nI n)])), (qa, .inl (cA, 256, .inl f)), (q1, .inr (1, [.ref qb, .int (nI n)])), (qb, .inl (cB, 256, .inl f))]) [2, 3, 0, 1] (by decide) rfl
        have hK := hK.sub (tys' := [(cA, .byte), (cB, .byte)]) [1, 0] rfl
        exact ih (k + 1) _ _ (by omega) (by omega) hn _ _ hK hP hD hS ls hl
set_option maxHeartbeats 4000000 in
set_option maxRecDepth 100000 in
/-- THE LAW, from its entry -/
theorem whole_start {p : Program} {e : Env} {s : State} {m : MethodId} {below : List Frame} {meth : Method} {c : Code} (l : Launch) (hflags : l.flags = flags0) {b L : Nat} {xs : Nat → Int32} (hL : L ≤ 288) (C0 : lw_At p s m meth c b L xs) : W p l e room_1 s m #[Value.ref b] below meth c s.heap [] 0 0 (lw_Z below #[Value.ref b] s) (entryFrame m ([Value.ref b] : List Value).toArray 4) := by
  obtain ⟨hx, hb, hr, hml, hown, hts0, hX, hbl, hlocks, hgv⟩ := id C0
  have hts : ∀ w ∈ lw_all, w.before #[Value.ref b] s = true := fun w h => hts0 w (lw_all_tbl h)
  have hA : ∀ q : Nat, s.heap.size ≤ q → (fun q : Nat => s.heap.size ≤ q) q := fun _ h => h
  have hbA : ¬ (fun q : Nat => s.heap.size ≤ q) b := Nat.not_le.mpr hbl
  obtain ⟨c0, iS0, hKn0⟩ := u_known (C := RX0) (T := TX0) (N := 2) (n := 2) hts0 (fun w h => lw_all_tbl (in_X0 w h)) (hts _ q18)
  obtain ⟨c1, iS1, hKn1⟩ := u_known (C := RX1) (T := TX1) (N := 2) (n := 2) hts0 (fun w h => lw_all_tbl (in_X1 w h)) (hts _ q95)
  obtain ⟨dC, dI, hKc⟩ : ∃ (dC : Nat → ClassId) (dI : Nat → Nat → Nat), ∀ (k : Nat) (q : vw_C), vwCl[k]? = some q → u_Kn s q.1 q.2.1 q.2.2 (dC k) (dI k) := by
    refine ⟨fun k => if k = 0 then c0 else c1, fun k => if k = 0 then iS0 else iS1, ?_⟩
    intro k q hq
    match k, hq with
    | 0, hq => cases hq; exact hKn0
    | 1, hq => cases hq; exact hKn1
    | k + 2, hq => simp [vwCl] at hq
  have hS : va_S (fun q : Nat => s.heap.size ≤ q) s.heap s.heap [] := va_S.rf
  have hK : va_K (dC, dI) vwCl [] s := ⟨hKc, fun k q h => by simp at h⟩
  have hP : va_P (dC, dI) vwCl [] s.heap := fun k q h => by simp at h
  have hD : va_D (fun q : Nat => s.heap.size ≤ q) [] := ⟨fun i j p q h => by simp at h, fun k q h => by simp at h⟩
  have hl := lv_entry ([.ref b]) (n := 4) (Nat.le_of_ble_eq_true rfl)
  rw [lg_entry_eq]
  generalize (lg_sl ([.ref b]) ++ List.replicate (4 - (lg_sl ([.ref b])).length) Slot.unset).toArray = ls at hl ⊢
  have hl : lv_has ls 4 [(0, .ref b)] := hl
  refine va_new (ci := 0) (fs := [.null, .int 0]) (C := RX0) (T := TX0) (N := 2) hx hb hts in_X0 tyX0 tyX0_ok hown (hts _ q17) (hts _ q18) (hts _ q12) hK hP hD hS hA rfl (fun j hj => by rcases (show j = 0 ∨ j = 1 by omega) with rfl | rfl <;> rfl) (Nat.le_of_ble_eq_true rfl) (Nat.le_of_ble_eq_true rfl) dL_law_0 (fun q0 H hP hD hS => ?_)
  have hP : va_P (dC, dI) vwCl [(q0, .inr (0, [.null, .int 0]))] H := hP
  have hD : va_D (fun q : Nat => s.heap.size ≤ q) [(q0, .inr (0, [.null, .int 0]))] := hD
  refine W.widen (k := 1) (n := 2) (by omega) (by omega) ?_
  refine lv_dup hx hb dL_law_3 rfl ?_
  have hPc := hP.sub (ws' := [(q0, .inr (0, [.null, .int 0]))]) [0] rfl
  have hDc := hD.sub (ws' := [(q0, .inr (0, [.null, .int 0]))]) [0] (by decide) rfl
  have hKc := hK.sub (tys' := []) [] rfl
  have hFc := va_free (wc := [(q0, .inr (0, [.null, .int 0]))]) hD hS hA [0] rfl
  refine va_callv (va_runI (As := []) (rest := [.ref q0]) ⟨hx, hb, hml, hown, hts⟩ (c_dinit l dC dI q0 H.size) (cwI 0 hts (lw_meth q21) rfl rfl rfl (hts _ q12) (hts _ q19) (hts _ q20) rfl (by decide +kernel) ⟨Nat.le_of_ble_eq_true rfl, Nat.le_of_ble_eq_true rfl⟩) ⟨fun a U g mk q => by obtain ⟨q0, q1, qP, qK, qD⟩ := q; exact ⟨q0, q1, qP, va_K.moved (u := U) (U := U.calling g mk a) (Vm.Alike.refl U.vm) qK, qD⟩, fun U hU hW => ⟨rfl, by rw [hU], by rw [hU]; exact hPc, va_K.moved hW.alike hKc, hDc.weaken (fun _ _ _ _ => trivial)⟩⟩ rfl rfl hl.1 rfl (lv_room (Nat.le_of_ble_eq_true rfl)) dL_law_4 ⟨Nat.le_of_ble_eq_true rfl, Nat.le_of_ble_eq_true rfl⟩) hS (fun q _ h => hFc q h) hFc (fun u t H1 locs ht hvm hwr1 hB hz1 hk1 hS => ?_)
  obtain ⟨cA, qa⟩ := u
  obtain ⟨hP1, hK1, hD1⟩ := hB
  rw [ht] at hP1
  have hK1 := va_K.moved hvm.symm hK1
  obtain ⟨hP, hD⟩ := va_join (wr := []) (w1 := [(q0, .inr (0, [.ref qa, .int (nI 0)])), (qa, .inl (cA, 256, .inl (fun _ => 0)))]) hP hD [0] [] rfl rfl (by decide) (by decide) hk1 hFc hP1 hD1
  have hK := (hK.sub (tys' := []) [] rfl).app hK1
  generalize H1 = H at hP hS ⊢
  have hP : va_P (dC, dI) vwCl [(q0, .inr (0, [.ref qa, .int (nI 0)])), (qa, .inl (cA, 256, .inl (fun _ => 0)))] H := hP
  have hD : va_D (fun q : Nat => s.heap.size ≤ q) [(q0, .inr (0, [.ref qa, .int (nI 0)])), (qa, .inl (cA, 256, .inl (fun _ => 0)))] := hD
  have hK : va_K (dC, dI) vwCl [(cA, .byte)] s := hK
  refine W.widen (k := 2) (n := 258) (by omega) (by omega) ?_
  refine lv_astore_n (lv' := [(1, .ref q0), (0, .ref b)]) hx hb dL_law_7 rfl hl (by decide) rfl (fun ls hl => ?_)
  refine va_new (ci := 1) (fs := [.null, .int 0]) (C := RX1) (T := TX1) (N := 2) hx hb hts in_X1 tyX1 tyX1_ok hown (hts _ q94) (hts _ q95) (hts _ q13) hK hP hD hS hA rfl (fun j hj => by rcases (show j = 0 ∨ j = 1 by omega) with rfl | rfl <;> rfl) (Nat.le_of_ble_eq_true rfl) (Nat.le_of_ble_eq_true rfl) dL_law_8 (fun q1 H hP hD hS => ?_)
  have hP : va_P (dC, dI) vwCl [(q0, .inr (0, [.ref qa, .int (nI 0)])), (qa, .inl (cA, 256, .inl (fun _ => 0))), (q1, .inr (1, [.null, .int 0]))] H := hP
  have hD : va_D (fun q : Nat => s.heap.size ≤ q) [(q0, .inr (0, [.ref qa, .int (nI 0)])), (qa, .inl (cA, 256, .inl (fun _ => 0))), (q1, .inr (1, [.null, .int 0]))] := hD
  refine W.widen (k := 3) (n := 260) (by omega) (by omega) ?_
  refine lv_dup hx hb dL_law_11 rfl ?_
  have hPc := hP.sub (ws' := [(q1, .inr (1, [.null, .int 0]))]) [2] rfl
  have hDc := hD.sub (ws' := [(q1, .inr (1, [.null, .int 0]))]) [2] (by decide) rfl
  have hKc := hK.sub (tys' := []) [] rfl
  have hFc := va_free (wc := [(q1, .inr (1, [.null, .int 0]))]) hD hS hA [2] rfl
  refine va_callv (va_runI (As := []) (rest := [.ref q1]) ⟨hx, hb, hml, hown, hts⟩ (c_minit l dC dI q1 H.size) (cwI 0 hts (lw_meth q98) rfl rfl rfl (hts _ q13) (hts _ q96) (hts _ q97) rfl (by decide +kernel) ⟨Nat.le_of_ble_eq_true rfl, Nat.le_of_ble_eq_true rfl⟩) ⟨fun a U g mk q => by obtain ⟨q0, q1, qP, qK, qD⟩ := q; exact ⟨q0, q1, qP, va_K.moved (u := U) (U := U.calling g mk a) (Vm.Alike.refl U.vm) qK, qD⟩, fun U hU hW => ⟨rfl, by rw [hU], by rw [hU]; exact hPc, va_K.moved hW.alike hKc, hDc.weaken (fun _ _ _ _ => trivial)⟩⟩ rfl rfl hl.1 rfl (lv_room (Nat.le_of_ble_eq_true rfl)) dL_law_12 ⟨Nat.le_of_ble_eq_true rfl, Nat.le_of_ble_eq_true rfl⟩) hS (fun q _ h => hFc q h) hFc (fun u t H1 locs ht hvm hwr2 hB hz1 hk1 hS => ?_)
  obtain ⟨cB, qb⟩ := u
  obtain ⟨hP1, hK1, hD1⟩ := hB
  rw [ht] at hP1
  have hK1 := va_K.moved hvm.symm hK1
  obtain ⟨hP, hD⟩ := va_join (wr := [(q0, .inr (0, [.ref qa, .int (nI 0)])), (qa, .inl (cA, 256, .inl (fun _ => 0)))]) (w1 := [(q1, .inr (1, [.ref qb, .int (nI 0)])), (qb, .inl (cB, 256, .inl (fun _ => 0)))]) hP hD [2] [0, 1] rfl rfl (by decide) (by decide) hk1 hFc hP1 hD1
  have hK := (hK.sub (tys' := [(cA, .byte)]) [0] rfl).app hK1
  generalize H1 = H at hP hS ⊢
  have hP : va_P (dC, dI) vwCl [(q0, .inr (0, [.ref qa, .int (nI 0)])), (qa, .inl (cA, 256, .inl (fun _ => 0))), (q1, .inr (1, [.ref qb, .int (nI 0)])), (qb, .inl (cB, 256, .inl (fun _ => 0)))] H := hP
  have hD : va_D (fun q : Nat => s.heap.size ≤ q) [(q0, .inr (0, [.ref qa, .int (nI 0)])), (qa, .inl (cA, 256, .inl (fun _ => 0))), (q1, .inr (1, [.ref qb, .int (nI 0)])), (qb, .inl (cB, 256, .inl (fun _ => 0)))] := hD
  have hK : va_K (dC, dI) vwCl [(cA, .byte), (cB, .byte)] s := hK
  refine W.widen (k := 4 + 2 * 0) (n := 516 + 258 * 0) (by omega) (by omega) ?_
  refine lv_astore_n (lv' := [(2, .ref q1), (1, .ref q0), (0, .ref b)]) hx hb dL_law_15 rfl hl (by decide) rfl (fun ls hl => ?_)
  refine lv_iconst (v := 0) hx hb dL_law_16 (by decide) ?_
  refine mv_top (y := (nI (6 * 0))) (rfl) ?_
  refine lv_istore_n (lv' := [(3, .int (nI (6 * 0))), (2, .ref q1), (1, .ref q0), (0, .ref b)]) hx hb dL_law_17 rfl hl (by decide) rfl (fun ls hl => ?_)
  have hl := lv_sub hl (l' := [(0, .ref b), (1, .ref q0), (2, .ref q1), (3, .int (nI (6 * 0)))]) [3, 2, 1, 0] rfl
  have hP := hP.sub (ws' := [(q0, .inr (0, [.ref qa, .int (nI 0)])), (qa, .inl (cA, 256, .inl (fun _ => 0))), (q1, .inr (1, [.ref qb, .int (nI 0)])), (qb, .inl (cB, 256, .inl (fun _ => 0)))]) [0, 1, 2, 3] rfl
  have hD := hD.sub (ws' := [(q0, .inr (0, [.ref qa, .int (nI 0)])), (qa, .inl (cA, 256, .inl (fun _ => 0))), (q1, .inr (1, [.ref qb, .int (nI 0)])), (qb, .inl (cB, 256, .inl (fun _ => 0)))]) [0, 1, 2, 3] (by decide) rfl
  have hK := hK.sub (tys' := [(cA, .byte), (cB, .byte)]) [0, 1] rfl
  exact law_loop hL C0 q0 qa q1 qb cA cB (L + 1) 0 0 (fun _ => 0) (by omega) (by omega) (by omega) _ _ hK hP hD hS ls hl
end
section
/-! THE CLAIM, out of the walk (the skeleton's end) -/
set_option maxHeartbeats 4000000 in
theorem lw_walk (l : Launch) (hflags : l.flags = flags0) (b : Addr) (xs : List Int32) : MetFree l x (headSpec (Jvm.Cond.code x code maxLocals ret :: tables_1) room_1) (lw_P b xs) (fun _ _ _ _ _ => True) lw_Q := by
  refine MetFree.of_bodyS (code := code) (maxLocals := maxLocals) (ret := ret) (by decide) ?_ ?_
  · intro args s m h hn
    obtain ⟨meth, c, h1, h2, h3, h4, h5, h6, -, -⟩ := Cond.code_spec hn (atoms_spec (ws := Jvm.Cond.code x code maxLocals ret :: tables_1) h _ List.mem_cons_self)
    exact ⟨meth, c, h1, h2, h3, h4, h5, h6⟩
  · intro p e s m args below meth c s₁ B hml0 hP _
    obtain ⟨rfl, hx, hbd, hgv⟩ := hP
    obtain ⟨scr, harrAt, hlist, hof, hsmall⟩ := hx
    obtain ⟨hcb, hkn, -, -⟩ := State.arrayAt?_spec harrAt
    have hown : s.vm.findClass R_law = some m.cls := findClass_of_methodNamed B.named
    have hts0 : ∀ c ∈ (Jvm.Cond.code x code maxLocals ret :: tables_1), c.before #[Value.ref b] s = true := atoms_spec (ws := Jvm.Cond.code x code maxLocals ret :: tables_1) B.pre
    have hts : ∀ w ∈ lw_tbl, w.before #[Value.ref b] s = true := k2_hts_sels lw_privs (fun w hw => hts0 w (List.mem_cons_of_mem _ hw)) lw_privs_ok
    have hml : c.maxLocals = 4 := B.maxLocals_eq (hts0 _ List.mem_cons_self)
    have X₀ : Stand p l e room_1 s m #[Value.ref b] below meth c s₁ [] 0 0 := Stand.of_body B
    have hh0 : s₁.heap = s.heap := by rw [B.state]; rfl
    have hsz : scr.slots.size = xs.length := by rw [← Array.length_toList, hlist, List.length_map]
    have hval : ∀ j : Nat, j < xs.length → scr.slots[j]? = some (.int (xs.getD j 0)) := fun j hj => by
      rw [← Array.getElem?_toList, hlist]
      simp [hj]
    have hbl : b < s.heap.size := (Array.getElem?_eq_some_iff.mp hcb).1
    have hX : va_X b xs.length (fun j => xs.getD j 0) s s.heap := ⟨scr, hcb, hof, hkn, hsz, hval⟩
    have K : W p l e room_1 s m #[Value.ref b] below meth c s₁.heap [] 0 0 (lw_Z below #[Value.ref b] s) (entryFrame m ([Value.ref b] : List Value).toArray 4) := by
      rw [hh0]
      exact whole_start l hflags hbd ⟨B.exec, B.bytes, B.returns, hml, hown, hts, hX, hbl, B.notSynchronized, hgv⟩
    obtain ⟨t, a1, o, b1, b2, b3⟩ := K s₁ rfl X₀
    exact ⟨t, o, a1, b1, b2, b3⟩
theorem lw_pre_spec {args : Array Value} {s : State} (h : (Jvm.Cond.and given_1 narrow_1).before args s = true) (hr : rest_1_c.before args s = true) : ∃ (b : Addr) (xs : List Int32), lw_P b xs args s := by
  have hs := flat_of_before _ h
  have hq := flat_of_before _ hr
  have hc : (Cond.count 1).before args s = true := hs _ (by decide +kernel)
  have harr : (Cond.arrayOf (.arg 0) .int).before args s = true := hs _ (by decide +kernel)
  have hle : (Cond.le (.length (.arg 0)) (.int 288)).before args s = true := hs _ (by decide +kernel)
  have hlen : (Cond.isInt (.length (.arg 0))).before args s = true := hq _ (by decide +kernel)
  have hall : (Cond.all (.arg 0) (.isInt (.elem (.arg 0) (.index 0)))).before args s = true := hq _ (by decide +kernel)
  obtain ⟨b, xs, hb, hx⟩ := State.ints_of_pre rfl harr hlen hall
  have hsm : xs.length < 2 ^ 31 := hx.choose_spec.2.2.2
  have hev : (Term.length (.arg 0)).eval args s none [] s = some (.int xs.length.toInt32) := hx.length_eval hb
  have hv := Cond.le_ints hev (show (Term.int 288).eval args s none [] s = some (.int 288) from rfl)
  have hd : xs.length.toInt32 ≤ 288 := by
    simpa [Cond.before, Cond.holds, hv] using hle
  have hN : xs.length ≤ 288 := (Int32.ofNat_le_ofNat hsm (by decide)).mp (show Int32.ofNat xs.length ≤ Int32.ofNat 288 from hd)
  exact ⟨b, xs, Cond.one_arg hc (show args[0]? = some (.ref b) from hb), hx, hN, h⟩
theorem lw_comes (l : Launch) (hflags : l.flags = flags0) : Comes l x (Jvm.Cond.code x code maxLocals ret :: tables_1) room_1 (fun tb e args s => Calls_1 tb e args s ∧ rest_1 tb e args s ∧ Pre_1 tb e args s)
    (fun _ _ args s o t => lw_Q args s o t) := by
  intro p e ha hc hk s m args below hf hfit hheap happ hpre
  obtain ⟨b, xs, hP⟩ := lw_pre_spec hpre.2.2 hpre.2.1
  obtain ⟨k, o, h1, h2, h3, hQ⟩ := lw_walk l hflags b xs p e ha hc hk s m args below hf ((Spec.applies_iff_loose hf).mp happ).1 hP trivial
  exact ⟨k, o, h1, h2, h3, hQ⟩
theorem lw_frame {s t : State} {o : Outcome} {args : Array Value} (h : Framed s o t [] 1200000 5502250) :
    Framed s o t (fieldLocs frame_1_writes args s ++ arrayLocs frame_1_arrays args s ++ staticLocs frame_1_statics s) 1200000 5502250 := h
theorem lw_limb (L : Cond) (hL : ∀ (args : Array Value) (s t : State), L.after args s (.returned (some (.int 1))) t = true) :
    ArmFor flags0 classFile x code maxLocals ret World_1 tables_1 room_1 Calls_1 rest_1 Pre_1
      (fun tb e a s o t => postC L tb e a s o t ∧ Framed s o t (fieldLocs frame_1_writes a s ++ arrayLocs frame_1_arrays a s ++ staticLocs frame_1_statics s) 1200000 5502250) := by
  intro l hflags _ _ p e ha hc hk s m args below hf hfit hheap happ hpre
  obtain ⟨k, o, h1, h2, h3, rfl, hF⟩ := lw_comes l hflags p e ha hc hk s m args below hf hfit hheap happ hpre
  exact ⟨k, _, h1, h2, h3, hL args s _, lw_frame hF⟩
theorem i_vc : Claimed_1_1 ∧ Claimed_1_2 := ⟨lw_limb limb_1_1 (fun args s t => by simp [limb_1_1, Cond.after, Cond.holds, Cond.value]), lw_limb limb_1_2 (fun args s t => Cond.after_iff.mpr (by
  first | (rw [show limb_1_2 = Cond.eq .result (.int 1) from rfl, Cond.eq_ints (x := 1) (y := 1) rfl rfl]; simp; done) | (simp [limb_1_2, Cond.value, Term.eval]; done)))⟩
end
