section
-- ===== PART A: goes FIRST, ahead of the names: the tables' words, and 'selects' of the private methods out of them =====
/-- a private method of a class that the tables say can be made, by its rows of tables_1 -/
def lw_okq (q : MethodName × Nat) : Prop := (q.1.cls ≠ "java/lang/invoke/MethodHandle" ∧ q.1.cls ≠ "java/lang/invoke/VarHandle") ∧ Cond.instantiable q.1.cls q.2 ∈ tables_1 ∧ Cond.privateMethod q.1 ∈ tables_1 ∧ Cond.instanceMethod q.1 ∈ tables_1
set_option maxRecDepth 100000
theorem lw_p0 : lw_okq (⟨"PairSortDesk", "from", "(I)I"⟩, 3) := ⟨⟨by decide +kernel, by decide +kernel⟩, List.mem_of_getElem? (i := 9) rfl, List.mem_of_getElem? (i := 58) rfl, List.mem_of_getElem? (i := 59) rfl⟩
theorem lw_p1 : lw_okq (⟨"PairSortDesk", "to", "(II)I"⟩, 3) := ⟨⟨by decide +kernel, by decide +kernel⟩, List.mem_of_getElem? (i := 9) rfl, List.mem_of_getElem? (i := 62) rfl, List.mem_of_getElem? (i := 63) rfl⟩
theorem lw_p2 : lw_okq (⟨"PairSortDeskModel", "sort", "(II)V"⟩, 3) := ⟨⟨by decide +kernel, by decide +kernel⟩, List.mem_of_getElem? (i := 111) rfl, List.mem_of_getElem? (i := 161) rfl, List.mem_of_getElem? (i := 162) rfl⟩
theorem lw_p3 : lw_okq (⟨"PairSortDeskModel", "less", "(II)Z"⟩, 3) := ⟨⟨by decide +kernel, by decide +kernel⟩, List.mem_of_getElem? (i := 111) rfl, List.mem_of_getElem? (i := 171) rfl, List.mem_of_getElem? (i := 172) rfl⟩
def lw_privs_1 : List (MethodName × Nat) := [(⟨"PairSortDesk", "from", "(I)I"⟩, 3), (⟨"PairSortDesk", "to", "(II)I"⟩, 3), (⟨"PairSortDeskModel", "sort", "(II)V"⟩, 3), (⟨"PairSortDeskModel", "less", "(II)Z"⟩, 3)]
theorem lw_r1 : ∀ q ∈ lw_privs_1, lw_okq q := List.forall_mem_cons.mpr ⟨lw_p0, List.forall_mem_cons.mpr ⟨lw_p1, List.forall_mem_cons.mpr ⟨lw_p2, List.forall_mem_cons.mpr ⟨lw_p3, fun _ h => absurd h List.not_mem_nil⟩⟩⟩⟩
def lw_privs : List (MethodName × Nat) := lw_privs_1
def lw_tbl : List Cond := k2_sels lw_privs ++ tables_1
theorem lw_privs_ok : ∀ q ∈ lw_privs, lw_okq q := lw_r1
-- ===== ONE list of words for every method: the tables' words that hold all through a run =====
def lw_all : List Cond := lw_tbl.filter goodWord
/-- a word of the tables by its place: claim/WORDS.tsv -/
theorem lw_w {w : Cond} (i : Nat) (h : lw_tbl[i]? = some w) (g : goodWord w = true) : w ∈ lw_all := List.mem_filter.mpr ⟨List.mem_of_getElem? h, g⟩
theorem lw_all_tbl {w : Cond} (h : w ∈ lw_all) : w ∈ lw_tbl := (List.mem_filter.mp h).1
theorem lw_self : GoodIn lw_all lw_all := fun w h => ⟨h, good_of_word (List.mem_filter.mp h).2⟩
/-- a class's field words, by their places -/
theorem lw_in (ws : List Cond) (ps : List Nat) (hp : ws = ps.filterMap (fun i => lw_tbl[i]?)) (hg : ws.all goodWord = true) : ∀ w ∈ ws, w ∈ lw_all := by
  intro w h
  have h1 := List.all_eq_true.mp hg w h
  rw [hp] at h
  obtain ⟨i, -, hi⟩ := List.mem_filterMap.mp h
  exact lw_w i hi h1
/-- the words of a contract for the method y with code b, L locals, answer r -/
abbrev ws_ (y : MethodName) (b : ByteArray) (L : Nat) (r : Option FieldType) : List Cond := Cond.code y b L r :: lw_all
theorem lw_meth {y : MethodName} {b : ByteArray} {L : Nat} {r : Option FieldType} (h : Cond.code y b L r ∈ lw_all) : GoodIn lw_all (ws_ y b L r) := by
  intro w hw
  rcases List.mem_cons.mp hw with e | e
  · rw [e]
    exact lw_self _ h
  · exact lw_self _ e
theorem lw_app {a c : List Cond} (ha : ∀ w ∈ a, w ∈ lw_all) (hc : GoodIn lw_all c) : GoodIn lw_all (a ++ c) := by
  intro w hw
  rcases List.mem_append.mp hw with e | e
  · exact lw_self w (ha w e)
  · exact hc w e
/-- what a call through an object asks: cwV n hts (lw_V ..) -/
theorem lw_V {own : String} {idx : Nat} {C : String} {y : MethodName} {b : ByteArray} {L : Nat} {r : Option FieldType} (h1 : Cond.methodLink own idx y ∈ lw_all) (h2 : Cond.instanceMethod y ∈ lw_all) (h3 : Cond.selects C y y ∈ lw_all) (h4 : Cond.initialized C ∈ lw_all) (h5 : Cond.code y b L r ∈ lw_all) : GoodIn lw_all (wsV own idx C y (ws_ y b L r)) := by
  refine lw_app ?_ (lw_meth h5)
  intro w hw
  simp only [List.mem_cons, List.not_mem_nil, or_false] at hw
  rcases hw with e | e | e | e
  · rw [e]; exact h1
  · rw [e]; exact h2
  · rw [e]; exact h3
  · rw [e]; exact h4
/-- what a static call asks: va_cwS n hts (lw_S ..) -/
theorem lw_S {own : String} {idx : Nat} {y : MethodName} {b : ByteArray} {L : Nat} {r : Option FieldType} (h1 : Cond.methodLink own idx y ∈ lw_all) (h2 : Cond.static y ∈ lw_all) (h3 : Cond.initialized y.cls ∈ lw_all) (h4 : Cond.code y b L r ∈ lw_all) : GoodIn lw_all (va_wsS own idx y (ws_ y b L r)) := by
  refine lw_app ?_ (lw_meth h4)
  intro w hw
  simp only [List.mem_cons, List.not_mem_nil, or_false] at hw
  rcases hw with e | e | e
  · rw [e]; exact h1
  · rw [e]; exact h2
  · rw [e]; exact h3
/-- the words of a contract for a method WITH HANDLERS (hh: its table) -/
abbrev wsW_ (y : MethodName) (b : ByteArray) (L : Nat) (r : Option FieldType) (hh : List (Nat × Nat × Nat × Nat)) : List Cond := Cond.codeWith y b L r hh :: lw_all
theorem lw_methW {y : MethodName} {b : ByteArray} {L : Nat} {r : Option FieldType} {hh : List (Nat × Nat × Nat × Nat)} (h : Cond.codeWith y b L r hh ∈ lw_all) : GoodIn lw_all (wsW_ y b L r hh) := by
  intro w hw
  rcases List.mem_cons.mp hw with e | e
  · rw [e]
    exact lw_self _ h
  · exact lw_self _ e
/-- any list of words by their places (lw_in), good -/
theorem lw_good {ws : List Cond} (h : ∀ w ∈ ws, w ∈ lw_all) : GoodIn lw_all ws := fun w hw => lw_self w (h w hw)
/-- what a call of a method with handlers asks: vx_cwVW n hts (lw_VW ..), vx_cwSW n hts (lw_SW ..) -/
theorem lw_VW {own : String} {idx : Nat} {C : String} {y : MethodName} {b : ByteArray} {L : Nat} {r : Option FieldType} {hh : List (Nat × Nat × Nat × Nat)} (h1 : Cond.methodLink own idx y ∈ lw_all) (h2 : Cond.instanceMethod y ∈ lw_all) (h3 : Cond.selects C y y ∈ lw_all) (h4 : Cond.initialized C ∈ lw_all) (h5 : Cond.codeWith y b L r hh ∈ lw_all) : GoodIn lw_all (wsV own idx C y (wsW_ y b L r hh)) := by
  refine lw_app ?_ (lw_methW h5)
  intro w hw
  simp only [List.mem_cons, List.not_mem_nil, or_false] at hw
  rcases hw with e | e | e | e
  · rw [e]; exact h1
  · rw [e]; exact h2
  · rw [e]; exact h3
  · rw [e]; exact h4
theorem lw_SW {own : String} {idx : Nat} {y : MethodName} {b : ByteArray} {L : Nat} {r : Option FieldType} {hh : List (Nat × Nat × Nat × Nat)} (h1 : Cond.methodLink own idx y ∈ lw_all) (h2 : Cond.static y ∈ lw_all) (h3 : Cond.initialized y.cls ∈ lw_all) (h4 : Cond.codeWith y b L r hh ∈ lw_all) : GoodIn lw_all (va_wsS own idx y (wsW_ y b L r hh)) := by
  refine lw_app ?_ (lw_methW h4)
  intro w hw
  simp only [List.mem_cons, List.not_mem_nil, or_false] at hw
  rcases hw with e | e | e
  · rw [e]; exact h1
  · rw [e]; exact h2
  · rw [e]; exact h3
/-- a word by its place in its run of the tables -/
theorem lw_at {r : List Cond} (hr : ∀ w ∈ r, w ∈ lw_tbl) {w : Cond} (i : Nat) (h : r[i]? = some w) : w ∈ lw_tbl := hr w (List.mem_of_getElem? h)
theorem lw_g {w : Cond} (h : w ∈ lw_tbl) (g : goodWord w = true) : w ∈ lw_all := List.mem_filter.mpr ⟨h, g⟩
theorem lw_ms : ∀ w ∈ k2_sels lw_privs, w ∈ lw_tbl := fun w h => show w ∈ k2_sels lw_privs ++ tables_1 from List.mem_append_left _ h
theorem lw_m0 : ∀ w ∈ tables_1, w ∈ lw_tbl := fun w h => show w ∈ k2_sels lw_privs ++ tables_1 from List.mem_append_right (k2_sels lw_privs) h
theorem qs0 : (Cond.selects "PairSortDesk" ⟨"PairSortDesk", "from", "(I)I"⟩ ⟨"PairSortDesk", "from", "(I)I"⟩) ∈ lw_all := lw_g (lw_at lw_ms 0 rfl) rfl
theorem qs1 : (Cond.selects "PairSortDesk" ⟨"PairSortDesk", "to", "(II)I"⟩ ⟨"PairSortDesk", "to", "(II)I"⟩) ∈ lw_all := lw_g (lw_at lw_ms 1 rfl) rfl
theorem qs2 : (Cond.selects "PairSortDeskModel" ⟨"PairSortDeskModel", "sort", "(II)V"⟩ ⟨"PairSortDeskModel", "sort", "(II)V"⟩) ∈ lw_all := lw_g (lw_at lw_ms 2 rfl) rfl
theorem qs3 : (Cond.selects "PairSortDeskModel" ⟨"PairSortDeskModel", "less", "(II)Z"⟩ ⟨"PairSortDeskModel", "less", "(II)Z"⟩) ∈ lw_all := lw_g (lw_at lw_ms 3 rfl) rfl

/-! DECODE ROWS BY BYTES: one lemma an opcode; a method's code is cut into short pieces once, and a row reads its own piece alone. -/
set_option maxRecDepth 100000
/-- the code has just these bytes from pc on -/
def DkAt (code : ByteArray) (pc : Nat) (bs : List UInt8) : Prop := ∀ (j : Nat) (b : UInt8), bs[j]? = some b → code.data.toList[pc + j]? = some b
/-- the piece W has the bytes bs from its place j on -/
def dkIn (W : List UInt8) (j : Nat) (bs : List UInt8) : Bool := decide ((W.drop j).take bs.length = bs)
theorem dk_seg {l W T : List UInt8} {o o2 : Nat} (h : l.drop o = W ++ T) (n : Nat) (hn : W.length = n) (ho : o + n = o2) : l.drop o2 = T := by
  subst ho
  rw [← List.drop_drop, h, List.drop_left' hn]
theorem dk_at {code : ByteArray} {W T bs : List UInt8} {o pc : Nat} (h : code.data.toList.drop o = W ++ T) (j : Nat) (hp : o + j = pc) (hw : dkIn W j bs = true) : DkAt code pc bs := by
  subst hp
  intro i b e
  have h1 := of_decide_eq_true hw
  have h2 : i < bs.length := (List.getElem?_eq_some_iff.mp e).1
  have h3 : W[j + i]? = some b := by
    rw [← h1, List.getElem?_take, if_pos h2, List.getElem?_drop] at e
    exact e
  have h4 : j + i < W.length := (List.getElem?_eq_some_iff.mp h3).1
  have h5 : (code.data.toList.drop o)[j + i]? = some b := by
    rw [h, List.getElem?_append_left h4]
    exact h3
  rw [List.getElem?_drop, ← Nat.add_assoc] at h5
  exact h5
theorem dk_u1 {A : ByteArray} {p : Nat} {b : UInt8} (h : A.data.toList[p]? = some b) : (Reader.u1 : Reader DecodeError Nat) A p = .ok (b.toNat, p + 1) := by
  obtain ⟨h1, h2⟩ := List.getElem?_eq_some_iff.mp h
  have h3 : p < A.size := by simpa using h1
  have h4 : A[p]'h3 = b := h2
  have e : (Reader.u1 : Reader DecodeError Nat) A p = (if h : p < A.size then .ok (A[p].toNat, p + 1) else .error (HasTruncated.truncated p)) := by
    show (do if h : p < A.size then do set (p + 1); Pure.pure A[p].toNat else MonadExcept.throw (HasTruncated.truncated p) : Reader DecodeError Nat) A p = _
    by_cases hi : p < A.size
    · rw [dif_pos hi, dif_pos hi]; rfl
    · rw [dif_neg hi, dif_neg hi]; rfl
  rw [e, dif_pos h3, h4]
theorem dk_bind {α β : Type} {r : Reader DecodeError α} {f : α → Reader DecodeError β} {A : ByteArray} {p s : Nat} {a : α} (h : r A p = .ok (a, s)) : (r >>= f) A p = f a A s := by
  show (do let (a, s) ← r A p; f a A s : Except DecodeError (β × Nat)) = _
  rw [h]
  rfl
theorem dk_map {α β : Type} {r : Reader DecodeError α} {g : α → β} {A : ByteArray} {p s : Nat} {a : α} (h : r A p = .ok (a, s)) : (g <$> r) A p = .ok (g a, s) := by
  show (do let (a, s) ← r A p; .ok (g a, s) : Except DecodeError (β × Nat)) = _
  rw [h]
  rfl
theorem dk_u2 {A : ByteArray} {p : Nat} {a b : UInt8} (h : A.data.toList[p]? = some a) (h2 : A.data.toList[p + 1]? = some b) : (Reader.u2 : Reader DecodeError Nat) A p = .ok (a.toNat * 256 + b.toNat, p + 2) := by
  show (Reader.u1 >>= fun hi => Reader.u1 >>= fun lo => Pure.pure (hi * 256 + lo) : Reader DecodeError Nat) A p = _
  rw [dk_bind (dk_u1 h), dk_bind (dk_u1 h2)]
  rfl
theorem dk_of {code : ByteArray} {pc n : Nat} {i : Instr} (h : Decoder.instr pc code pc = .ok (i, pc + n)) : decode code pc = .ok (i, n) := by
  have e : decode code pc = (match Decoder.instr pc code pc with | .error x => .error x | .ok (j, s) => .ok (j, s - pc)) := by
    show (do let (j, s) ← Decoder.instr pc code pc; Pure.pure (j, s - pc) : Except DecodeError (Instr × Nat)) = _
    cases Decoder.instr pc code pc <;> rfl
  rw [e, h]
  show Except.ok (i, pc + n - pc) = _
  rw [Nat.add_sub_cancel_left]
theorem dk_1 {code : ByteArray} {pc : Nat} (h : DkAt code pc [1]) : decode code pc = .ok (.aconst_null, 1) := dk_of ((dk_bind (dk_u1 (h 0 _ rfl))).trans rfl)
theorem dk_2 {code : ByteArray} {pc : Nat} (h : DkAt code pc [2]) : decode code pc = .ok (.iconst (-1), 1) := dk_of ((dk_bind (dk_u1 (h 0 _ rfl))).trans rfl)
theorem dk_3 {code : ByteArray} {pc : Nat} (h : DkAt code pc [3]) : decode code pc = .ok (.iconst 0, 1) := dk_of ((dk_bind (dk_u1 (h 0 _ rfl))).trans rfl)
theorem dk_4 {code : ByteArray} {pc : Nat} (h : DkAt code pc [4]) : decode code pc = .ok (.iconst 1, 1) := dk_of ((dk_bind (dk_u1 (h 0 _ rfl))).trans rfl)
theorem dk_5 {code : ByteArray} {pc : Nat} (h : DkAt code pc [5]) : decode code pc = .ok (.iconst 2, 1) := dk_of ((dk_bind (dk_u1 (h 0 _ rfl))).trans rfl)
theorem dk_6 {code : ByteArray} {pc : Nat} (h : DkAt code pc [6]) : decode code pc = .ok (.iconst 3, 1) := dk_of ((dk_bind (dk_u1 (h 0 _ rfl))).trans rfl)
theorem dk_7 {code : ByteArray} {pc : Nat} (h : DkAt code pc [7]) : decode code pc = .ok (.iconst 4, 1) := dk_of ((dk_bind (dk_u1 (h 0 _ rfl))).trans rfl)
theorem dk_16 {code : ByteArray} {pc : Nat} (a : UInt8) (h : DkAt code pc [16, a]) : decode code pc = .ok (.bipush (Reader.signed 8 a.toNat), 2) := dk_of ((dk_bind (dk_u1 (h 0 _ rfl))).trans ((dk_bind (dk_map (dk_u1 (h 1 _ rfl)))).trans rfl))
theorem dk_17 {code : ByteArray} {pc : Nat} (a b : UInt8) (h : DkAt code pc [17, a, b]) : decode code pc = .ok (.sipush (Reader.signed 16 (a.toNat * 256 + b.toNat)), 3) := dk_of ((dk_bind (dk_u1 (h 0 _ rfl))).trans ((dk_bind (dk_map (dk_u2 (h 1 _ rfl) (h 2 _ rfl)))).trans rfl))
theorem dk_18 {code : ByteArray} {pc : Nat} (a : UInt8) (h : DkAt code pc [18, a]) : decode code pc = .ok (.ldc a.toNat, 2) := dk_of ((dk_bind (dk_u1 (h 0 _ rfl))).trans ((dk_bind (dk_u1 (h 1 _ rfl))).trans rfl))
theorem dk_21 {code : ByteArray} {pc : Nat} (a : UInt8) (h : DkAt code pc [21, a]) : decode code pc = .ok (.iload a.toNat, 2) := dk_of ((dk_bind (dk_u1 (h 0 _ rfl))).trans ((dk_bind (dk_u1 (h 1 _ rfl))).trans rfl))
theorem dk_25 {code : ByteArray} {pc : Nat} (a : UInt8) (h : DkAt code pc [25, a]) : decode code pc = .ok (.aload a.toNat, 2) := dk_of ((dk_bind (dk_u1 (h 0 _ rfl))).trans ((dk_bind (dk_u1 (h 1 _ rfl))).trans rfl))
theorem dk_26 {code : ByteArray} {pc : Nat} (h : DkAt code pc [26]) : decode code pc = .ok (.iload_n 0, 1) := dk_of ((dk_bind (dk_u1 (h 0 _ rfl))).trans rfl)
theorem dk_27 {code : ByteArray} {pc : Nat} (h : DkAt code pc [27]) : decode code pc = .ok (.iload_n 1, 1) := dk_of ((dk_bind (dk_u1 (h 0 _ rfl))).trans rfl)
theorem dk_28 {code : ByteArray} {pc : Nat} (h : DkAt code pc [28]) : decode code pc = .ok (.iload_n 2, 1) := dk_of ((dk_bind (dk_u1 (h 0 _ rfl))).trans rfl)
theorem dk_29 {code : ByteArray} {pc : Nat} (h : DkAt code pc [29]) : decode code pc = .ok (.iload_n 3, 1) := dk_of ((dk_bind (dk_u1 (h 0 _ rfl))).trans rfl)
theorem dk_42 {code : ByteArray} {pc : Nat} (h : DkAt code pc [42]) : decode code pc = .ok (.aload_n 0, 1) := dk_of ((dk_bind (dk_u1 (h 0 _ rfl))).trans rfl)
theorem dk_43 {code : ByteArray} {pc : Nat} (h : DkAt code pc [43]) : decode code pc = .ok (.aload_n 1, 1) := dk_of ((dk_bind (dk_u1 (h 0 _ rfl))).trans rfl)
theorem dk_44 {code : ByteArray} {pc : Nat} (h : DkAt code pc [44]) : decode code pc = .ok (.aload_n 2, 1) := dk_of ((dk_bind (dk_u1 (h 0 _ rfl))).trans rfl)
theorem dk_45 {code : ByteArray} {pc : Nat} (h : DkAt code pc [45]) : decode code pc = .ok (.aload_n 3, 1) := dk_of ((dk_bind (dk_u1 (h 0 _ rfl))).trans rfl)
theorem dk_46 {code : ByteArray} {pc : Nat} (h : DkAt code pc [46]) : decode code pc = .ok (.iaload, 1) := dk_of ((dk_bind (dk_u1 (h 0 _ rfl))).trans rfl)
theorem dk_54 {code : ByteArray} {pc : Nat} (a : UInt8) (h : DkAt code pc [54, a]) : decode code pc = .ok (.istore a.toNat, 2) := dk_of ((dk_bind (dk_u1 (h 0 _ rfl))).trans ((dk_bind (dk_u1 (h 1 _ rfl))).trans rfl))
theorem dk_58 {code : ByteArray} {pc : Nat} (a : UInt8) (h : DkAt code pc [58, a]) : decode code pc = .ok (.astore a.toNat, 2) := dk_of ((dk_bind (dk_u1 (h 0 _ rfl))).trans ((dk_bind (dk_u1 (h 1 _ rfl))).trans rfl))
theorem dk_60 {code : ByteArray} {pc : Nat} (h : DkAt code pc [60]) : decode code pc = .ok (.istore_n 1, 1) := dk_of ((dk_bind (dk_u1 (h 0 _ rfl))).trans rfl)
theorem dk_61 {code : ByteArray} {pc : Nat} (h : DkAt code pc [61]) : decode code pc = .ok (.istore_n 2, 1) := dk_of ((dk_bind (dk_u1 (h 0 _ rfl))).trans rfl)
theorem dk_62 {code : ByteArray} {pc : Nat} (h : DkAt code pc [62]) : decode code pc = .ok (.istore_n 3, 1) := dk_of ((dk_bind (dk_u1 (h 0 _ rfl))).trans rfl)
theorem dk_76 {code : ByteArray} {pc : Nat} (h : DkAt code pc [76]) : decode code pc = .ok (.astore_n 1, 1) := dk_of ((dk_bind (dk_u1 (h 0 _ rfl))).trans rfl)
theorem dk_77 {code : ByteArray} {pc : Nat} (h : DkAt code pc [77]) : decode code pc = .ok (.astore_n 2, 1) := dk_of ((dk_bind (dk_u1 (h 0 _ rfl))).trans rfl)
theorem dk_78 {code : ByteArray} {pc : Nat} (h : DkAt code pc [78]) : decode code pc = .ok (.astore_n 3, 1) := dk_of ((dk_bind (dk_u1 (h 0 _ rfl))).trans rfl)
theorem dk_79 {code : ByteArray} {pc : Nat} (h : DkAt code pc [79]) : decode code pc = .ok (.iastore, 1) := dk_of ((dk_bind (dk_u1 (h 0 _ rfl))).trans rfl)
theorem dk_89 {code : ByteArray} {pc : Nat} (h : DkAt code pc [89]) : decode code pc = .ok (.dup, 1) := dk_of ((dk_bind (dk_u1 (h 0 _ rfl))).trans rfl)
theorem dk_91 {code : ByteArray} {pc : Nat} (h : DkAt code pc [91]) : decode code pc = .ok (.dup_x2, 1) := dk_of ((dk_bind (dk_u1 (h 0 _ rfl))).trans rfl)
theorem dk_92 {code : ByteArray} {pc : Nat} (h : DkAt code pc [92]) : decode code pc = .ok (.dup2, 1) := dk_of ((dk_bind (dk_u1 (h 0 _ rfl))).trans rfl)
theorem dk_96 {code : ByteArray} {pc : Nat} (h : DkAt code pc [96]) : decode code pc = .ok (.iadd, 1) := dk_of ((dk_bind (dk_u1 (h 0 _ rfl))).trans rfl)
theorem dk_100 {code : ByteArray} {pc : Nat} (h : DkAt code pc [100]) : decode code pc = .ok (.isub, 1) := dk_of ((dk_bind (dk_u1 (h 0 _ rfl))).trans rfl)
theorem dk_104 {code : ByteArray} {pc : Nat} (h : DkAt code pc [104]) : decode code pc = .ok (.imul, 1) := dk_of ((dk_bind (dk_u1 (h 0 _ rfl))).trans rfl)
theorem dk_108 {code : ByteArray} {pc : Nat} (h : DkAt code pc [108]) : decode code pc = .ok (.idiv, 1) := dk_of ((dk_bind (dk_u1 (h 0 _ rfl))).trans rfl)
theorem dk_112 {code : ByteArray} {pc : Nat} (h : DkAt code pc [112]) : decode code pc = .ok (.irem, 1) := dk_of ((dk_bind (dk_u1 (h 0 _ rfl))).trans rfl)
theorem dk_124 {code : ByteArray} {pc : Nat} (h : DkAt code pc [124]) : decode code pc = .ok (.iushr, 1) := dk_of ((dk_bind (dk_u1 (h 0 _ rfl))).trans rfl)
theorem dk_126 {code : ByteArray} {pc : Nat} (h : DkAt code pc [126]) : decode code pc = .ok (.iand, 1) := dk_of ((dk_bind (dk_u1 (h 0 _ rfl))).trans rfl)
theorem dk_130 {code : ByteArray} {pc : Nat} (h : DkAt code pc [130]) : decode code pc = .ok (.ixor, 1) := dk_of ((dk_bind (dk_u1 (h 0 _ rfl))).trans rfl)
theorem dk_132 {code : ByteArray} {pc : Nat} (a b : UInt8) (h : DkAt code pc [132, a, b]) : decode code pc = .ok (.iinc a.toNat (Reader.signed 8 b.toNat), 3) := dk_of ((dk_bind (dk_u1 (h 0 _ rfl))).trans ((dk_bind (dk_u1 (h 1 _ rfl))).trans ((dk_bind (dk_map (dk_u1 (h 2 _ rfl)))).trans rfl)))
theorem dk_153 {code : ByteArray} {pc : Nat} (a b : UInt8) (h : DkAt code pc [153, a, b]) : decode code pc = .ok (.ifCond .eq (Reader.signed 16 (a.toNat * 256 + b.toNat)), 3) := dk_of ((dk_bind (dk_u1 (h 0 _ rfl))).trans ((dk_bind (dk_map (dk_u2 (h 1 _ rfl) (h 2 _ rfl)))).trans rfl))
theorem dk_154 {code : ByteArray} {pc : Nat} (a b : UInt8) (h : DkAt code pc [154, a, b]) : decode code pc = .ok (.ifCond .ne (Reader.signed 16 (a.toNat * 256 + b.toNat)), 3) := dk_of ((dk_bind (dk_u1 (h 0 _ rfl))).trans ((dk_bind (dk_map (dk_u2 (h 1 _ rfl) (h 2 _ rfl)))).trans rfl))
theorem dk_155 {code : ByteArray} {pc : Nat} (a b : UInt8) (h : DkAt code pc [155, a, b]) : decode code pc = .ok (.ifCond .lt (Reader.signed 16 (a.toNat * 256 + b.toNat)), 3) := dk_of ((dk_bind (dk_u1 (h 0 _ rfl))).trans ((dk_bind (dk_map (dk_u2 (h 1 _ rfl) (h 2 _ rfl)))).trans rfl))
theorem dk_156 {code : ByteArray} {pc : Nat} (a b : UInt8) (h : DkAt code pc [156, a, b]) : decode code pc = .ok (.ifCond .ge (Reader.signed 16 (a.toNat * 256 + b.toNat)), 3) := dk_of ((dk_bind (dk_u1 (h 0 _ rfl))).trans ((dk_bind (dk_map (dk_u2 (h 1 _ rfl) (h 2 _ rfl)))).trans rfl))
theorem dk_157 {code : ByteArray} {pc : Nat} (a b : UInt8) (h : DkAt code pc [157, a, b]) : decode code pc = .ok (.ifCond .gt (Reader.signed 16 (a.toNat * 256 + b.toNat)), 3) := dk_of ((dk_bind (dk_u1 (h 0 _ rfl))).trans ((dk_bind (dk_map (dk_u2 (h 1 _ rfl) (h 2 _ rfl)))).trans rfl))
theorem dk_158 {code : ByteArray} {pc : Nat} (a b : UInt8) (h : DkAt code pc [158, a, b]) : decode code pc = .ok (.ifCond .le (Reader.signed 16 (a.toNat * 256 + b.toNat)), 3) := dk_of ((dk_bind (dk_u1 (h 0 _ rfl))).trans ((dk_bind (dk_map (dk_u2 (h 1 _ rfl) (h 2 _ rfl)))).trans rfl))
theorem dk_159 {code : ByteArray} {pc : Nat} (a b : UInt8) (h : DkAt code pc [159, a, b]) : decode code pc = .ok (.if_icmp .eq (Reader.signed 16 (a.toNat * 256 + b.toNat)), 3) := dk_of ((dk_bind (dk_u1 (h 0 _ rfl))).trans ((dk_bind (dk_map (dk_u2 (h 1 _ rfl) (h 2 _ rfl)))).trans rfl))
theorem dk_160 {code : ByteArray} {pc : Nat} (a b : UInt8) (h : DkAt code pc [160, a, b]) : decode code pc = .ok (.if_icmp .ne (Reader.signed 16 (a.toNat * 256 + b.toNat)), 3) := dk_of ((dk_bind (dk_u1 (h 0 _ rfl))).trans ((dk_bind (dk_map (dk_u2 (h 1 _ rfl) (h 2 _ rfl)))).trans rfl))
theorem dk_161 {code : ByteArray} {pc : Nat} (a b : UInt8) (h : DkAt code pc [161, a, b]) : decode code pc = .ok (.if_icmp .lt (Reader.signed 16 (a.toNat * 256 + b.toNat)), 3) := dk_of ((dk_bind (dk_u1 (h 0 _ rfl))).trans ((dk_bind (dk_map (dk_u2 (h 1 _ rfl) (h 2 _ rfl)))).trans rfl))
theorem dk_162 {code : ByteArray} {pc : Nat} (a b : UInt8) (h : DkAt code pc [162, a, b]) : decode code pc = .ok (.if_icmp .ge (Reader.signed 16 (a.toNat * 256 + b.toNat)), 3) := dk_of ((dk_bind (dk_u1 (h 0 _ rfl))).trans ((dk_bind (dk_map (dk_u2 (h 1 _ rfl) (h 2 _ rfl)))).trans rfl))
theorem dk_163 {code : ByteArray} {pc : Nat} (a b : UInt8) (h : DkAt code pc [163, a, b]) : decode code pc = .ok (.if_icmp .gt (Reader.signed 16 (a.toNat * 256 + b.toNat)), 3) := dk_of ((dk_bind (dk_u1 (h 0 _ rfl))).trans ((dk_bind (dk_map (dk_u2 (h 1 _ rfl) (h 2 _ rfl)))).trans rfl))
theorem dk_164 {code : ByteArray} {pc : Nat} (a b : UInt8) (h : DkAt code pc [164, a, b]) : decode code pc = .ok (.if_icmp .le (Reader.signed 16 (a.toNat * 256 + b.toNat)), 3) := dk_of ((dk_bind (dk_u1 (h 0 _ rfl))).trans ((dk_bind (dk_map (dk_u2 (h 1 _ rfl) (h 2 _ rfl)))).trans rfl))
theorem dk_167 {code : ByteArray} {pc : Nat} (a b : UInt8) (h : DkAt code pc [167, a, b]) : decode code pc = .ok (.goto (Reader.signed 16 (a.toNat * 256 + b.toNat)), 3) := dk_of ((dk_bind (dk_u1 (h 0 _ rfl))).trans ((dk_bind (dk_map (dk_u2 (h 1 _ rfl) (h 2 _ rfl)))).trans rfl))
theorem dk_172 {code : ByteArray} {pc : Nat} (h : DkAt code pc [172]) : decode code pc = .ok (.ireturn, 1) := dk_of ((dk_bind (dk_u1 (h 0 _ rfl))).trans rfl)
theorem dk_177 {code : ByteArray} {pc : Nat} (h : DkAt code pc [177]) : decode code pc = .ok (.return_, 1) := dk_of ((dk_bind (dk_u1 (h 0 _ rfl))).trans rfl)
theorem dk_180 {code : ByteArray} {pc : Nat} (a b : UInt8) (h : DkAt code pc [180, a, b]) : decode code pc = .ok (.getfield (a.toNat * 256 + b.toNat), 3) := dk_of ((dk_bind (dk_u1 (h 0 _ rfl))).trans ((dk_bind (dk_u2 (h 1 _ rfl) (h 2 _ rfl))).trans rfl))
theorem dk_181 {code : ByteArray} {pc : Nat} (a b : UInt8) (h : DkAt code pc [181, a, b]) : decode code pc = .ok (.putfield (a.toNat * 256 + b.toNat), 3) := dk_of ((dk_bind (dk_u1 (h 0 _ rfl))).trans ((dk_bind (dk_u2 (h 1 _ rfl) (h 2 _ rfl))).trans rfl))
theorem dk_182 {code : ByteArray} {pc : Nat} (a b : UInt8) (h : DkAt code pc [182, a, b]) : decode code pc = .ok (.invokevirtual (a.toNat * 256 + b.toNat), 3) := dk_of ((dk_bind (dk_u1 (h 0 _ rfl))).trans ((dk_bind (dk_u2 (h 1 _ rfl) (h 2 _ rfl))).trans rfl))
theorem dk_183 {code : ByteArray} {pc : Nat} (a b : UInt8) (h : DkAt code pc [183, a, b]) : decode code pc = .ok (.invokespecial (a.toNat * 256 + b.toNat), 3) := dk_of ((dk_bind (dk_u1 (h 0 _ rfl))).trans ((dk_bind (dk_u2 (h 1 _ rfl) (h 2 _ rfl))).trans rfl))
theorem dk_184 {code : ByteArray} {pc : Nat} (a b : UInt8) (h : DkAt code pc [184, a, b]) : decode code pc = .ok (.invokestatic (a.toNat * 256 + b.toNat), 3) := dk_of ((dk_bind (dk_u1 (h 0 _ rfl))).trans ((dk_bind (dk_u2 (h 1 _ rfl) (h 2 _ rfl))).trans rfl))
theorem dk_187 {code : ByteArray} {pc : Nat} (a b : UInt8) (h : DkAt code pc [187, a, b]) : decode code pc = .ok (.new (a.toNat * 256 + b.toNat), 3) := dk_of ((dk_bind (dk_u1 (h 0 _ rfl))).trans ((dk_bind (dk_u2 (h 1 _ rfl) (h 2 _ rfl))).trans rfl))
theorem dk_188_10 {code : ByteArray} {pc : Nat} (h : DkAt code pc [188, 10]) : decode code pc = .ok (.newarray .int, 2) := dk_of ((dk_bind (dk_u1 (h 0 _ rfl))).trans ((dk_bind (dk_u1 (h 1 _ rfl))).trans rfl))
theorem dk_190 {code : ByteArray} {pc : Nat} (h : DkAt code pc [190]) : decode code pc = .ok (.arraylength, 1) := dk_of ((dk_bind (dk_u1 (h 0 _ rfl))).trans rfl)

/-! java/lang/Integer -/
set_option maxRecDepth 100000
def RJ0 : String := "java/lang/Integer"
abbrev cJ0_compare : ByteArray := prog_5_method_40_code
def yJ0_compare : MethodName := ⟨RJ0, "compare", "(II)I"⟩
def dkwJ0_compare_0 : List UInt8 := [26, 27, 162, 0, 7, 2, 167, 0, 13, 26, 27, 160, 0, 7, 3, 167, 0, 4, 4, 172]
abbrev dktJ0_compare_0 : List UInt8 := dkwJ0_compare_0 ++ []
theorem dksJ0_compare_0 : cJ0_compare.data.toList.drop 0 = dktJ0_compare_0 := by decide +kernel
theorem dJ0_compare_0 : decode cJ0_compare 0 = .ok (.iload_n 0, 1) := dk_26 (dk_at dksJ0_compare_0 0 rfl rfl)
theorem dJ0_compare_1 : decode cJ0_compare 1 = .ok (.iload_n 1, 1) := dk_27 (dk_at dksJ0_compare_0 1 rfl rfl)
theorem dJ0_compare_2 : decode cJ0_compare 2 = .ok (.if_icmp .ge 7, 3) := dk_162 0 7 (dk_at dksJ0_compare_0 2 rfl rfl)
theorem dJ0_compare_5 : decode cJ0_compare 5 = .ok (.iconst (-1), 1) := dk_2 (dk_at dksJ0_compare_0 5 rfl rfl)
theorem dJ0_compare_6 : decode cJ0_compare 6 = .ok (.goto 13, 3) := dk_167 0 13 (dk_at dksJ0_compare_0 6 rfl rfl)
theorem dJ0_compare_9 : decode cJ0_compare 9 = .ok (.iload_n 0, 1) := dk_26 (dk_at dksJ0_compare_0 9 rfl rfl)
theorem dJ0_compare_10 : decode cJ0_compare 10 = .ok (.iload_n 1, 1) := dk_27 (dk_at dksJ0_compare_0 10 rfl rfl)
theorem dJ0_compare_11 : decode cJ0_compare 11 = .ok (.if_icmp .ne 7, 3) := dk_160 0 7 (dk_at dksJ0_compare_0 11 rfl rfl)
theorem dJ0_compare_14 : decode cJ0_compare 14 = .ok (.iconst 0, 1) := dk_3 (dk_at dksJ0_compare_0 14 rfl rfl)
theorem dJ0_compare_15 : decode cJ0_compare 15 = .ok (.goto 4, 3) := dk_167 0 4 (dk_at dksJ0_compare_0 15 rfl rfl)
theorem dJ0_compare_18 : decode cJ0_compare 18 = .ok (.iconst 1, 1) := dk_4 (dk_at dksJ0_compare_0 18 rfl rfl)
theorem dJ0_compare_19 : decode cJ0_compare 19 = .ok (.ireturn, 1) := dk_172 (dk_at dksJ0_compare_0 19 rfl rfl)
theorem q8 : (Jvm.Cond.initialized "java/lang/Integer") ∈ lw_all := lw_g (lw_at lw_m0 4 rfl) rfl
theorem q76 : (Jvm.Cond.static ({ cls := "java/lang/Integer", name := "compare", desc := "(II)I" } : Jvm.MethodName)) ∈ lw_all := lw_g (lw_at lw_m0 72 rfl) rfl
theorem q77 : (Jvm.Cond.code ({ cls := "java/lang/Integer", name := "compare", desc := "(II)I" } : Jvm.MethodName) prog_5_method_40_code (2 : Nat) (Option.some Jvm.ClassFile.FieldType.int)) ∈ lw_all := lw_g (lw_at lw_m0 73 rfl) rfl

/-! java/lang/Math -/
set_option maxRecDepth 100000
def RJ1 : String := "java/lang/Math"
abbrev cJ1_min : ByteArray := prog_6_method_69_code
def yJ1_min : MethodName := ⟨RJ1, "min", "(II)I"⟩
def dkwJ1_min_0 : List UInt8 := [26, 27, 163, 0, 7, 26, 167, 0, 4, 27, 172]
abbrev dktJ1_min_0 : List UInt8 := dkwJ1_min_0 ++ []
theorem dksJ1_min_0 : cJ1_min.data.toList.drop 0 = dktJ1_min_0 := by decide +kernel
theorem dJ1_min_0 : decode cJ1_min 0 = .ok (.iload_n 0, 1) := dk_26 (dk_at dksJ1_min_0 0 rfl rfl)
theorem dJ1_min_1 : decode cJ1_min 1 = .ok (.iload_n 1, 1) := dk_27 (dk_at dksJ1_min_0 1 rfl rfl)
theorem dJ1_min_2 : decode cJ1_min 2 = .ok (.if_icmp .gt 7, 3) := dk_163 0 7 (dk_at dksJ1_min_0 2 rfl rfl)
theorem dJ1_min_5 : decode cJ1_min 5 = .ok (.iload_n 0, 1) := dk_26 (dk_at dksJ1_min_0 5 rfl rfl)
theorem dJ1_min_6 : decode cJ1_min 6 = .ok (.goto 4, 3) := dk_167 0 4 (dk_at dksJ1_min_0 6 rfl rfl)
theorem dJ1_min_9 : decode cJ1_min 9 = .ok (.iload_n 1, 1) := dk_27 (dk_at dksJ1_min_0 9 rfl rfl)
theorem dJ1_min_10 : decode cJ1_min 10 = .ok (.ireturn, 1) := dk_172 (dk_at dksJ1_min_0 10 rfl rfl)
theorem q9 : (Jvm.Cond.initialized "java/lang/Math") ∈ lw_all := lw_g (lw_at lw_m0 5 rfl) rfl
theorem q85 : (Jvm.Cond.static ({ cls := "java/lang/Math", name := "min", desc := "(II)I" } : Jvm.MethodName)) ∈ lw_all := lw_g (lw_at lw_m0 81 rfl) rfl
theorem q86 : (Jvm.Cond.code ({ cls := "java/lang/Math", name := "min", desc := "(II)I" } : Jvm.MethodName) prog_6_method_69_code (2 : Nat) (Option.some Jvm.ClassFile.FieldType.int)) ∈ lw_all := lw_g (lw_at lw_m0 82 rfl) rfl

/-! java/lang/Object -/
set_option maxRecDepth 100000
def RJ3 : String := "java/lang/Object"
abbrev cJ3_init : ByteArray := object_method_1_code
def yJ3_init : MethodName := ⟨RJ3, "<init>", "()V"⟩
theorem dJ3_init_0 : decode cJ3_init 0 = .ok (.return_, 1) := by decide +kernel
theorem q18 : (Jvm.Cond.instanceMethod ({ cls := "java/lang/Object", name := "<init>", desc := "()V" } : Jvm.MethodName)) ∈ lw_all := lw_g (lw_at lw_m0 14 rfl) rfl
theorem q19 : (Jvm.Cond.code ({ cls := "java/lang/Object", name := "<init>", desc := "()V" } : Jvm.MethodName) object_method_1_code (1 : Nat) (Option.none : Option Jvm.ClassFile.FieldType)) ∈ lw_all := lw_g (lw_at lw_m0 15 rfl) rfl

/-! PairSortDesk -/
set_option maxRecDepth 100000
def RX0 : String := "PairSortDesk"
def TX0 : u_T := fun k => match k with
  | 0 => ("PairSortDesk", "first", "[I", true)
  | 1 => ("PairSortDesk", "second", "[I", true)
  | _ => ("PairSortDesk", "places", "[I", true)
def tyX0 : Nat → FieldType := fun k => match k with
  | 0 => .array .int
  | 1 => .array .int
  | _ => .array .int
abbrev wsX00 : List Cond := u_ws RX0 TX0 3
theorem nmX0 : ∀ a, a < 3 → ∀ b, b < 3 → a ≠ b → (TX0 a).2.1 ≠ (TX0 b).2.1 := by decide +kernel
theorem tyX0_ok : ∀ k, k < 3 → parseFieldDescriptor (TX0 k).2.2.1 = some (tyX0 k) := by decide +kernel
abbrev cX0_init : ByteArray := prog_2_method_1_code
def yX0_init : MethodName := ⟨RX0, "<init>", "()V"⟩
def dkwX0_init_1 : List UInt8 := [188, 10, 181, 0, 16, 42, 182, 0, 19, 177]
abbrev dktX0_init_1 : List UInt8 := dkwX0_init_1 ++ []
def dkwX0_init_0 : List UInt8 := [42, 183, 0, 1, 42, 16, 48, 188, 10, 181, 0, 7, 42, 16, 48, 188, 10, 181, 0, 13, 42, 16, 48]
abbrev dktX0_init_0 : List UInt8 := dkwX0_init_0 ++ dktX0_init_1
theorem dksX0_init_0 : cX0_init.data.toList.drop 0 = dktX0_init_0 := by decide +kernel
theorem dksX0_init_1 : cX0_init.data.toList.drop 23 = dktX0_init_1 := dk_seg dksX0_init_0 23 rfl rfl
theorem dX0_init_0 : decode cX0_init 0 = .ok (.aload_n 0, 1) := dk_42 (dk_at dksX0_init_0 0 rfl rfl)
theorem dX0_init_1 : decode cX0_init 1 = .ok (.invokespecial 1, 3) := dk_183 0 1 (dk_at dksX0_init_0 1 rfl rfl)
theorem dX0_init_4 : decode cX0_init 4 = .ok (.aload_n 0, 1) := dk_42 (dk_at dksX0_init_0 4 rfl rfl)
theorem dX0_init_5 : decode cX0_init 5 = .ok (.bipush 48, 2) := dk_16 48 (dk_at dksX0_init_0 5 rfl rfl)
theorem dX0_init_7 : decode cX0_init 7 = .ok (.newarray .int, 2) := dk_188_10 (dk_at dksX0_init_0 7 rfl rfl)
theorem dX0_init_9 : decode cX0_init 9 = .ok (.putfield 7, 3) := dk_181 0 7 (dk_at dksX0_init_0 9 rfl rfl)
theorem dX0_init_12 : decode cX0_init 12 = .ok (.aload_n 0, 1) := dk_42 (dk_at dksX0_init_0 12 rfl rfl)
theorem dX0_init_13 : decode cX0_init 13 = .ok (.bipush 48, 2) := dk_16 48 (dk_at dksX0_init_0 13 rfl rfl)
theorem dX0_init_15 : decode cX0_init 15 = .ok (.newarray .int, 2) := dk_188_10 (dk_at dksX0_init_0 15 rfl rfl)
theorem dX0_init_17 : decode cX0_init 17 = .ok (.putfield 13, 3) := dk_181 0 13 (dk_at dksX0_init_0 17 rfl rfl)
theorem dX0_init_20 : decode cX0_init 20 = .ok (.aload_n 0, 1) := dk_42 (dk_at dksX0_init_0 20 rfl rfl)
theorem dX0_init_21 : decode cX0_init 21 = .ok (.bipush 48, 2) := dk_16 48 (dk_at dksX0_init_0 21 rfl rfl)
theorem dX0_init_23 : decode cX0_init 23 = .ok (.newarray .int, 2) := dk_188_10 (dk_at dksX0_init_1 0 rfl rfl)
theorem dX0_init_25 : decode cX0_init 25 = .ok (.putfield 16, 3) := dk_181 0 16 (dk_at dksX0_init_1 2 rfl rfl)
theorem dX0_init_28 : decode cX0_init 28 = .ok (.aload_n 0, 1) := dk_42 (dk_at dksX0_init_1 5 rfl rfl)
theorem dX0_init_29 : decode cX0_init 29 = .ok (.invokevirtual 19, 3) := dk_182 0 19 (dk_at dksX0_init_1 6 rfl rfl)
theorem dX0_init_32 : decode cX0_init 32 = .ok (.return_, 1) := dk_177 (dk_at dksX0_init_1 9 rfl rfl)
abbrev cX0_anew : ByteArray := prog_2_method_2_code
def yX0_anew : MethodName := ⟨RX0, "anew", "()V"⟩
def dkwX0_anew_0 : List UInt8 := [3, 60, 27, 16, 48, 162, 0, 16, 42, 180, 0, 16, 27, 27, 79, 132, 1, 1, 167, 255, 240, 177]
abbrev dktX0_anew_0 : List UInt8 := dkwX0_anew_0 ++ []
theorem dksX0_anew_0 : cX0_anew.data.toList.drop 0 = dktX0_anew_0 := by decide +kernel
theorem dX0_anew_0 : decode cX0_anew 0 = .ok (.iconst 0, 1) := dk_3 (dk_at dksX0_anew_0 0 rfl rfl)
theorem dX0_anew_1 : decode cX0_anew 1 = .ok (.istore_n 1, 1) := dk_60 (dk_at dksX0_anew_0 1 rfl rfl)
theorem dX0_anew_2 : decode cX0_anew 2 = .ok (.iload_n 1, 1) := dk_27 (dk_at dksX0_anew_0 2 rfl rfl)
theorem dX0_anew_3 : decode cX0_anew 3 = .ok (.bipush 48, 2) := dk_16 48 (dk_at dksX0_anew_0 3 rfl rfl)
theorem dX0_anew_5 : decode cX0_anew 5 = .ok (.if_icmp .ge 16, 3) := dk_162 0 16 (dk_at dksX0_anew_0 5 rfl rfl)
theorem dX0_anew_8 : decode cX0_anew 8 = .ok (.aload_n 0, 1) := dk_42 (dk_at dksX0_anew_0 8 rfl rfl)
theorem dX0_anew_9 : decode cX0_anew 9 = .ok (.getfield 16, 3) := dk_180 0 16 (dk_at dksX0_anew_0 9 rfl rfl)
theorem dX0_anew_12 : decode cX0_anew 12 = .ok (.iload_n 1, 1) := dk_27 (dk_at dksX0_anew_0 12 rfl rfl)
theorem dX0_anew_13 : decode cX0_anew 13 = .ok (.iload_n 1, 1) := dk_27 (dk_at dksX0_anew_0 13 rfl rfl)
theorem dX0_anew_14 : decode cX0_anew 14 = .ok (.iastore, 1) := dk_79 (dk_at dksX0_anew_0 14 rfl rfl)
theorem dX0_anew_15 : decode cX0_anew 15 = .ok (.iinc 1 1, 3) := dk_132 1 1 (dk_at dksX0_anew_0 15 rfl rfl)
theorem dX0_anew_18 : decode cX0_anew 18 = .ok (.goto (-16), 3) := dk_167 255 240 (dk_at dksX0_anew_0 18 rfl rfl)
theorem dX0_anew_21 : decode cX0_anew 21 = .ok (.return_, 1) := dk_177 (dk_at dksX0_anew_0 21 rfl rfl)
abbrev cX0_set : ByteArray := prog_2_method_3_code
def yX0_set : MethodName := ⟨RX0, "set", "(III)V"⟩
def dkwX0_set_1 : List UInt8 := [79, 177]
abbrev dktX0_set_1 : List UInt8 := dkwX0_set_1 ++ []
def dkwX0_set_0 : List UInt8 := [27, 18, 22, 126, 16, 48, 112, 54, 4, 42, 180, 0, 7, 21, 4, 28, 79, 42, 180, 0, 13, 21, 4, 29]
abbrev dktX0_set_0 : List UInt8 := dkwX0_set_0 ++ dktX0_set_1
theorem dksX0_set_0 : cX0_set.data.toList.drop 0 = dktX0_set_0 := by decide +kernel
theorem dksX0_set_1 : cX0_set.data.toList.drop 24 = dktX0_set_1 := dk_seg dksX0_set_0 24 rfl rfl
theorem dX0_set_0 : decode cX0_set 0 = .ok (.iload_n 1, 1) := dk_27 (dk_at dksX0_set_0 0 rfl rfl)
theorem dX0_set_1 : decode cX0_set 1 = .ok (.ldc 22, 2) := dk_18 22 (dk_at dksX0_set_0 1 rfl rfl)
theorem dX0_set_3 : decode cX0_set 3 = .ok (.iand, 1) := dk_126 (dk_at dksX0_set_0 3 rfl rfl)
theorem dX0_set_4 : decode cX0_set 4 = .ok (.bipush 48, 2) := dk_16 48 (dk_at dksX0_set_0 4 rfl rfl)
theorem dX0_set_6 : decode cX0_set 6 = .ok (.irem, 1) := dk_112 (dk_at dksX0_set_0 6 rfl rfl)
theorem dX0_set_7 : decode cX0_set 7 = .ok (.istore 4, 2) := dk_54 4 (dk_at dksX0_set_0 7 rfl rfl)
theorem dX0_set_9 : decode cX0_set 9 = .ok (.aload_n 0, 1) := dk_42 (dk_at dksX0_set_0 9 rfl rfl)
theorem dX0_set_10 : decode cX0_set 10 = .ok (.getfield 7, 3) := dk_180 0 7 (dk_at dksX0_set_0 10 rfl rfl)
theorem dX0_set_13 : decode cX0_set 13 = .ok (.iload 4, 2) := dk_21 4 (dk_at dksX0_set_0 13 rfl rfl)
theorem dX0_set_15 : decode cX0_set 15 = .ok (.iload_n 2, 1) := dk_28 (dk_at dksX0_set_0 15 rfl rfl)
theorem dX0_set_16 : decode cX0_set 16 = .ok (.iastore, 1) := dk_79 (dk_at dksX0_set_0 16 rfl rfl)
theorem dX0_set_17 : decode cX0_set 17 = .ok (.aload_n 0, 1) := dk_42 (dk_at dksX0_set_0 17 rfl rfl)
theorem dX0_set_18 : decode cX0_set 18 = .ok (.getfield 13, 3) := dk_180 0 13 (dk_at dksX0_set_0 18 rfl rfl)
theorem dX0_set_21 : decode cX0_set 21 = .ok (.iload 4, 2) := dk_21 4 (dk_at dksX0_set_0 21 rfl rfl)
theorem dX0_set_23 : decode cX0_set 23 = .ok (.iload_n 3, 1) := dk_29 (dk_at dksX0_set_0 23 rfl rfl)
theorem dX0_set_24 : decode cX0_set 24 = .ok (.iastore, 1) := dk_79 (dk_at dksX0_set_1 0 rfl rfl)
theorem dX0_set_25 : decode cX0_set 25 = .ok (.return_, 1) := dk_177 (dk_at dksX0_set_1 1 rfl rfl)
abbrev cX0_few : ByteArray := prog_2_method_4_code
def yX0_few : MethodName := ⟨RX0, "few", "(III)V"⟩
def dkwX0_few_1 : List UInt8 := [21, 4, 29, 6, 126, 79, 177]
abbrev dktX0_few_1 : List UInt8 := dkwX0_few_1 ++ []
def dkwX0_few_0 : List UInt8 := [27, 18, 22, 126, 16, 48, 112, 54, 4, 42, 180, 0, 7, 21, 4, 28, 6, 126, 79, 42, 180, 0, 13]
abbrev dktX0_few_0 : List UInt8 := dkwX0_few_0 ++ dktX0_few_1
theorem dksX0_few_0 : cX0_few.data.toList.drop 0 = dktX0_few_0 := by decide +kernel
theorem dksX0_few_1 : cX0_few.data.toList.drop 23 = dktX0_few_1 := dk_seg dksX0_few_0 23 rfl rfl
theorem dX0_few_0 : decode cX0_few 0 = .ok (.iload_n 1, 1) := dk_27 (dk_at dksX0_few_0 0 rfl rfl)
theorem dX0_few_1 : decode cX0_few 1 = .ok (.ldc 22, 2) := dk_18 22 (dk_at dksX0_few_0 1 rfl rfl)
theorem dX0_few_3 : decode cX0_few 3 = .ok (.iand, 1) := dk_126 (dk_at dksX0_few_0 3 rfl rfl)
theorem dX0_few_4 : decode cX0_few 4 = .ok (.bipush 48, 2) := dk_16 48 (dk_at dksX0_few_0 4 rfl rfl)
theorem dX0_few_6 : decode cX0_few 6 = .ok (.irem, 1) := dk_112 (dk_at dksX0_few_0 6 rfl rfl)
theorem dX0_few_7 : decode cX0_few 7 = .ok (.istore 4, 2) := dk_54 4 (dk_at dksX0_few_0 7 rfl rfl)
theorem dX0_few_9 : decode cX0_few 9 = .ok (.aload_n 0, 1) := dk_42 (dk_at dksX0_few_0 9 rfl rfl)
theorem dX0_few_10 : decode cX0_few 10 = .ok (.getfield 7, 3) := dk_180 0 7 (dk_at dksX0_few_0 10 rfl rfl)
theorem dX0_few_13 : decode cX0_few 13 = .ok (.iload 4, 2) := dk_21 4 (dk_at dksX0_few_0 13 rfl rfl)
theorem dX0_few_15 : decode cX0_few 15 = .ok (.iload_n 2, 1) := dk_28 (dk_at dksX0_few_0 15 rfl rfl)
theorem dX0_few_16 : decode cX0_few 16 = .ok (.iconst 3, 1) := dk_6 (dk_at dksX0_few_0 16 rfl rfl)
theorem dX0_few_17 : decode cX0_few 17 = .ok (.iand, 1) := dk_126 (dk_at dksX0_few_0 17 rfl rfl)
theorem dX0_few_18 : decode cX0_few 18 = .ok (.iastore, 1) := dk_79 (dk_at dksX0_few_0 18 rfl rfl)
theorem dX0_few_19 : decode cX0_few 19 = .ok (.aload_n 0, 1) := dk_42 (dk_at dksX0_few_0 19 rfl rfl)
theorem dX0_few_20 : decode cX0_few 20 = .ok (.getfield 13, 3) := dk_180 0 13 (dk_at dksX0_few_0 20 rfl rfl)
theorem dX0_few_23 : decode cX0_few 23 = .ok (.iload 4, 2) := dk_21 4 (dk_at dksX0_few_1 0 rfl rfl)
theorem dX0_few_25 : decode cX0_few 25 = .ok (.iload_n 3, 1) := dk_29 (dk_at dksX0_few_1 2 rfl rfl)
theorem dX0_few_26 : decode cX0_few 26 = .ok (.iconst 3, 1) := dk_6 (dk_at dksX0_few_1 3 rfl rfl)
theorem dX0_few_27 : decode cX0_few 27 = .ok (.iand, 1) := dk_126 (dk_at dksX0_few_1 4 rfl rfl)
theorem dX0_few_28 : decode cX0_few 28 = .ok (.iastore, 1) := dk_79 (dk_at dksX0_few_1 5 rfl rfl)
theorem dX0_few_29 : decode cX0_few 29 = .ok (.return_, 1) := dk_177 (dk_at dksX0_few_1 6 rfl rfl)
abbrev cX0_first : ByteArray := prog_2_method_5_code
def yX0_first : MethodName := ⟨RX0, "first", "(I)I"⟩
def dkwX0_first_0 : List UInt8 := [42, 180, 0, 7, 27, 18, 22, 126, 16, 48, 112, 46, 172]
abbrev dktX0_first_0 : List UInt8 := dkwX0_first_0 ++ []
theorem dksX0_first_0 : cX0_first.data.toList.drop 0 = dktX0_first_0 := by decide +kernel
theorem dX0_first_0 : decode cX0_first 0 = .ok (.aload_n 0, 1) := dk_42 (dk_at dksX0_first_0 0 rfl rfl)
theorem dX0_first_1 : decode cX0_first 1 = .ok (.getfield 7, 3) := dk_180 0 7 (dk_at dksX0_first_0 1 rfl rfl)
theorem dX0_first_4 : decode cX0_first 4 = .ok (.iload_n 1, 1) := dk_27 (dk_at dksX0_first_0 4 rfl rfl)
theorem dX0_first_5 : decode cX0_first 5 = .ok (.ldc 22, 2) := dk_18 22 (dk_at dksX0_first_0 5 rfl rfl)
theorem dX0_first_7 : decode cX0_first 7 = .ok (.iand, 1) := dk_126 (dk_at dksX0_first_0 7 rfl rfl)
theorem dX0_first_8 : decode cX0_first 8 = .ok (.bipush 48, 2) := dk_16 48 (dk_at dksX0_first_0 8 rfl rfl)
theorem dX0_first_10 : decode cX0_first 10 = .ok (.irem, 1) := dk_112 (dk_at dksX0_first_0 10 rfl rfl)
theorem dX0_first_11 : decode cX0_first 11 = .ok (.iaload, 1) := dk_46 (dk_at dksX0_first_0 11 rfl rfl)
theorem dX0_first_12 : decode cX0_first 12 = .ok (.ireturn, 1) := dk_172 (dk_at dksX0_first_0 12 rfl rfl)
abbrev cX0_second : ByteArray := prog_2_method_6_code
def yX0_second : MethodName := ⟨RX0, "second", "(I)I"⟩
def dkwX0_second_0 : List UInt8 := [42, 180, 0, 13, 27, 18, 22, 126, 16, 48, 112, 46, 172]
abbrev dktX0_second_0 : List UInt8 := dkwX0_second_0 ++ []
theorem dksX0_second_0 : cX0_second.data.toList.drop 0 = dktX0_second_0 := by decide +kernel
theorem dX0_second_0 : decode cX0_second 0 = .ok (.aload_n 0, 1) := dk_42 (dk_at dksX0_second_0 0 rfl rfl)
theorem dX0_second_1 : decode cX0_second 1 = .ok (.getfield 13, 3) := dk_180 0 13 (dk_at dksX0_second_0 1 rfl rfl)
theorem dX0_second_4 : decode cX0_second 4 = .ok (.iload_n 1, 1) := dk_27 (dk_at dksX0_second_0 4 rfl rfl)
theorem dX0_second_5 : decode cX0_second 5 = .ok (.ldc 22, 2) := dk_18 22 (dk_at dksX0_second_0 5 rfl rfl)
theorem dX0_second_7 : decode cX0_second 7 = .ok (.iand, 1) := dk_126 (dk_at dksX0_second_0 7 rfl rfl)
theorem dX0_second_8 : decode cX0_second 8 = .ok (.bipush 48, 2) := dk_16 48 (dk_at dksX0_second_0 8 rfl rfl)
theorem dX0_second_10 : decode cX0_second 10 = .ok (.irem, 1) := dk_112 (dk_at dksX0_second_0 10 rfl rfl)
theorem dX0_second_11 : decode cX0_second 11 = .ok (.iaload, 1) := dk_46 (dk_at dksX0_second_0 11 rfl rfl)
theorem dX0_second_12 : decode cX0_second 12 = .ok (.ireturn, 1) := dk_172 (dk_at dksX0_second_0 12 rfl rfl)
abbrev cX0_place : ByteArray := prog_2_method_7_code
def yX0_place : MethodName := ⟨RX0, "place", "(I)I"⟩
def dkwX0_place_0 : List UInt8 := [42, 180, 0, 16, 27, 18, 22, 126, 16, 48, 112, 46, 172]
abbrev dktX0_place_0 : List UInt8 := dkwX0_place_0 ++ []
theorem dksX0_place_0 : cX0_place.data.toList.drop 0 = dktX0_place_0 := by decide +kernel
theorem dX0_place_0 : decode cX0_place 0 = .ok (.aload_n 0, 1) := dk_42 (dk_at dksX0_place_0 0 rfl rfl)
theorem dX0_place_1 : decode cX0_place 1 = .ok (.getfield 16, 3) := dk_180 0 16 (dk_at dksX0_place_0 1 rfl rfl)
theorem dX0_place_4 : decode cX0_place 4 = .ok (.iload_n 1, 1) := dk_27 (dk_at dksX0_place_0 4 rfl rfl)
theorem dX0_place_5 : decode cX0_place 5 = .ok (.ldc 22, 2) := dk_18 22 (dk_at dksX0_place_0 5 rfl rfl)
theorem dX0_place_7 : decode cX0_place 7 = .ok (.iand, 1) := dk_126 (dk_at dksX0_place_0 7 rfl rfl)
theorem dX0_place_8 : decode cX0_place 8 = .ok (.bipush 48, 2) := dk_16 48 (dk_at dksX0_place_0 8 rfl rfl)
theorem dX0_place_10 : decode cX0_place 10 = .ok (.irem, 1) := dk_112 (dk_at dksX0_place_0 10 rfl rfl)
theorem dX0_place_11 : decode cX0_place 11 = .ok (.iaload, 1) := dk_46 (dk_at dksX0_place_0 11 rfl rfl)
theorem dX0_place_12 : decode cX0_place 12 = .ok (.ireturn, 1) := dk_172 (dk_at dksX0_place_0 12 rfl rfl)
abbrev cX0_quick : ByteArray := prog_2_method_10_code
def yX0_quick : MethodName := ⟨RX0, "quick", "(II)V"⟩
def dkwX0_quick_1 : List UInt8 := [177]
abbrev dktX0_quick_1 : List UInt8 := dkwX0_quick_1 ++ []
def dkwX0_quick_0 : List UInt8 := [42, 27, 182, 0, 23, 62, 42, 180, 0, 7, 42, 180, 0, 13, 29, 42, 29, 28, 182, 0, 27, 184, 0, 31]
abbrev dktX0_quick_0 : List UInt8 := dkwX0_quick_0 ++ dktX0_quick_1
theorem dksX0_quick_0 : cX0_quick.data.toList.drop 0 = dktX0_quick_0 := by decide +kernel
theorem dksX0_quick_1 : cX0_quick.data.toList.drop 24 = dktX0_quick_1 := dk_seg dksX0_quick_0 24 rfl rfl
theorem dX0_quick_0 : decode cX0_quick 0 = .ok (.aload_n 0, 1) := dk_42 (dk_at dksX0_quick_0 0 rfl rfl)
theorem dX0_quick_1 : decode cX0_quick 1 = .ok (.iload_n 1, 1) := dk_27 (dk_at dksX0_quick_0 1 rfl rfl)
theorem dX0_quick_2 : decode cX0_quick 2 = .ok (.invokevirtual 23, 3) := dk_182 0 23 (dk_at dksX0_quick_0 2 rfl rfl)
theorem dX0_quick_5 : decode cX0_quick 5 = .ok (.istore_n 3, 1) := dk_62 (dk_at dksX0_quick_0 5 rfl rfl)
theorem dX0_quick_6 : decode cX0_quick 6 = .ok (.aload_n 0, 1) := dk_42 (dk_at dksX0_quick_0 6 rfl rfl)
theorem dX0_quick_7 : decode cX0_quick 7 = .ok (.getfield 7, 3) := dk_180 0 7 (dk_at dksX0_quick_0 7 rfl rfl)
theorem dX0_quick_10 : decode cX0_quick 10 = .ok (.aload_n 0, 1) := dk_42 (dk_at dksX0_quick_0 10 rfl rfl)
theorem dX0_quick_11 : decode cX0_quick 11 = .ok (.getfield 13, 3) := dk_180 0 13 (dk_at dksX0_quick_0 11 rfl rfl)
theorem dX0_quick_14 : decode cX0_quick 14 = .ok (.iload_n 3, 1) := dk_29 (dk_at dksX0_quick_0 14 rfl rfl)
theorem dX0_quick_15 : decode cX0_quick 15 = .ok (.aload_n 0, 1) := dk_42 (dk_at dksX0_quick_0 15 rfl rfl)
theorem dX0_quick_16 : decode cX0_quick 16 = .ok (.iload_n 3, 1) := dk_29 (dk_at dksX0_quick_0 16 rfl rfl)
theorem dX0_quick_17 : decode cX0_quick 17 = .ok (.iload_n 2, 1) := dk_28 (dk_at dksX0_quick_0 17 rfl rfl)
theorem dX0_quick_18 : decode cX0_quick 18 = .ok (.invokevirtual 27, 3) := dk_182 0 27 (dk_at dksX0_quick_0 18 rfl rfl)
theorem dX0_quick_21 : decode cX0_quick 21 = .ok (.invokestatic 31, 3) := dk_184 0 31 (dk_at dksX0_quick_0 21 rfl rfl)
theorem dX0_quick_24 : decode cX0_quick 24 = .ok (.return_, 1) := dk_177 (dk_at dksX0_quick_1 0 rfl rfl)
abbrev cX0_from : ByteArray := prog_2_method_8_code
def yX0_from : MethodName := ⟨RX0, "from", "(I)I"⟩
def dkwX0_from_0 : List UInt8 := [27, 18, 22, 126, 16, 49, 112, 172]
abbrev dktX0_from_0 : List UInt8 := dkwX0_from_0 ++ []
theorem dksX0_from_0 : cX0_from.data.toList.drop 0 = dktX0_from_0 := by decide +kernel
theorem dX0_from_0 : decode cX0_from 0 = .ok (.iload_n 1, 1) := dk_27 (dk_at dksX0_from_0 0 rfl rfl)
theorem dX0_from_1 : decode cX0_from 1 = .ok (.ldc 22, 2) := dk_18 22 (dk_at dksX0_from_0 1 rfl rfl)
theorem dX0_from_3 : decode cX0_from 3 = .ok (.iand, 1) := dk_126 (dk_at dksX0_from_0 3 rfl rfl)
theorem dX0_from_4 : decode cX0_from 4 = .ok (.bipush 49, 2) := dk_16 49 (dk_at dksX0_from_0 4 rfl rfl)
theorem dX0_from_6 : decode cX0_from 6 = .ok (.irem, 1) := dk_112 (dk_at dksX0_from_0 6 rfl rfl)
theorem dX0_from_7 : decode cX0_from 7 = .ok (.ireturn, 1) := dk_172 (dk_at dksX0_from_0 7 rfl rfl)
abbrev cX0_to : ByteArray := prog_2_method_9_code
def yX0_to : MethodName := ⟨RX0, "to", "(II)I"⟩
def dkwX0_to_0 : List UInt8 := [27, 28, 18, 22, 126, 16, 49, 27, 100, 112, 96, 172]
abbrev dktX0_to_0 : List UInt8 := dkwX0_to_0 ++ []
theorem dksX0_to_0 : cX0_to.data.toList.drop 0 = dktX0_to_0 := by decide +kernel
theorem dX0_to_0 : decode cX0_to 0 = .ok (.iload_n 1, 1) := dk_27 (dk_at dksX0_to_0 0 rfl rfl)
theorem dX0_to_1 : decode cX0_to 1 = .ok (.iload_n 2, 1) := dk_28 (dk_at dksX0_to_0 1 rfl rfl)
theorem dX0_to_2 : decode cX0_to 2 = .ok (.ldc 22, 2) := dk_18 22 (dk_at dksX0_to_0 2 rfl rfl)
theorem dX0_to_4 : decode cX0_to 4 = .ok (.iand, 1) := dk_126 (dk_at dksX0_to_0 4 rfl rfl)
theorem dX0_to_5 : decode cX0_to 5 = .ok (.bipush 49, 2) := dk_16 49 (dk_at dksX0_to_0 5 rfl rfl)
theorem dX0_to_7 : decode cX0_to 7 = .ok (.iload_n 1, 1) := dk_27 (dk_at dksX0_to_0 7 rfl rfl)
theorem dX0_to_8 : decode cX0_to 8 = .ok (.isub, 1) := dk_100 (dk_at dksX0_to_0 8 rfl rfl)
theorem dX0_to_9 : decode cX0_to 9 = .ok (.irem, 1) := dk_112 (dk_at dksX0_to_0 9 rfl rfl)
theorem dX0_to_10 : decode cX0_to 10 = .ok (.iadd, 1) := dk_96 (dk_at dksX0_to_0 10 rfl rfl)
theorem dX0_to_11 : decode cX0_to 11 = .ok (.ireturn, 1) := dk_172 (dk_at dksX0_to_0 11 rfl rfl)
abbrev cX0_radix : ByteArray := prog_2_method_11_code
def yX0_radix : MethodName := ⟨RX0, "radix", "(II)V"⟩
def dkwX0_radix_1 : List UInt8 := [177]
abbrev dktX0_radix_1 : List UInt8 := dkwX0_radix_1 ++ []
def dkwX0_radix_0 : List UInt8 := [42, 27, 182, 0, 23, 62, 42, 180, 0, 7, 42, 180, 0, 13, 29, 42, 29, 28, 182, 0, 27, 184, 0, 37]
abbrev dktX0_radix_0 : List UInt8 := dkwX0_radix_0 ++ dktX0_radix_1
theorem dksX0_radix_0 : cX0_radix.data.toList.drop 0 = dktX0_radix_0 := by decide +kernel
theorem dksX0_radix_1 : cX0_radix.data.toList.drop 24 = dktX0_radix_1 := dk_seg dksX0_radix_0 24 rfl rfl
theorem dX0_radix_0 : decode cX0_radix 0 = .ok (.aload_n 0, 1) := dk_42 (dk_at dksX0_radix_0 0 rfl rfl)
theorem dX0_radix_1 : decode cX0_radix 1 = .ok (.iload_n 1, 1) := dk_27 (dk_at dksX0_radix_0 1 rfl rfl)
theorem dX0_radix_2 : decode cX0_radix 2 = .ok (.invokevirtual 23, 3) := dk_182 0 23 (dk_at dksX0_radix_0 2 rfl rfl)
theorem dX0_radix_5 : decode cX0_radix 5 = .ok (.istore_n 3, 1) := dk_62 (dk_at dksX0_radix_0 5 rfl rfl)
theorem dX0_radix_6 : decode cX0_radix 6 = .ok (.aload_n 0, 1) := dk_42 (dk_at dksX0_radix_0 6 rfl rfl)
theorem dX0_radix_7 : decode cX0_radix 7 = .ok (.getfield 7, 3) := dk_180 0 7 (dk_at dksX0_radix_0 7 rfl rfl)
theorem dX0_radix_10 : decode cX0_radix 10 = .ok (.aload_n 0, 1) := dk_42 (dk_at dksX0_radix_0 10 rfl rfl)
theorem dX0_radix_11 : decode cX0_radix 11 = .ok (.getfield 13, 3) := dk_180 0 13 (dk_at dksX0_radix_0 11 rfl rfl)
theorem dX0_radix_14 : decode cX0_radix 14 = .ok (.iload_n 3, 1) := dk_29 (dk_at dksX0_radix_0 14 rfl rfl)
theorem dX0_radix_15 : decode cX0_radix 15 = .ok (.aload_n 0, 1) := dk_42 (dk_at dksX0_radix_0 15 rfl rfl)
theorem dX0_radix_16 : decode cX0_radix 16 = .ok (.iload_n 3, 1) := dk_29 (dk_at dksX0_radix_0 16 rfl rfl)
theorem dX0_radix_17 : decode cX0_radix 17 = .ok (.iload_n 2, 1) := dk_28 (dk_at dksX0_radix_0 17 rfl rfl)
theorem dX0_radix_18 : decode cX0_radix 18 = .ok (.invokevirtual 27, 3) := dk_182 0 27 (dk_at dksX0_radix_0 18 rfl rfl)
theorem dX0_radix_21 : decode cX0_radix 21 = .ok (.invokestatic 37, 3) := dk_184 0 37 (dk_at dksX0_radix_0 21 rfl rfl)
theorem dX0_radix_24 : decode cX0_radix 24 = .ok (.return_, 1) := dk_177 (dk_at dksX0_radix_1 0 rfl rfl)
abbrev cX0_indirect : ByteArray := prog_2_method_12_code
def yX0_indirect : MethodName := ⟨RX0, "indirect", "(II)V"⟩
def dkwX0_indirect_2 : List UInt8 := [180, 0, 13, 29, 21, 4, 4, 184, 0, 40, 177]
abbrev dktX0_indirect_2 : List UInt8 := dkwX0_indirect_2 ++ []
def dkwX0_indirect_1 : List UInt8 := [42, 180, 0, 16, 21, 5, 21, 5, 79, 132, 5, 1, 167, 255, 237, 42, 180, 0, 16, 42, 180, 0, 7, 42]
abbrev dktX0_indirect_1 : List UInt8 := dkwX0_indirect_1 ++ dktX0_indirect_2
def dkwX0_indirect_0 : List UInt8 := [42, 27, 182, 0, 23, 62, 42, 29, 28, 182, 0, 27, 54, 4, 29, 54, 5, 21, 5, 21, 4, 162, 0, 18]
abbrev dktX0_indirect_0 : List UInt8 := dkwX0_indirect_0 ++ dktX0_indirect_1
theorem dksX0_indirect_0 : cX0_indirect.data.toList.drop 0 = dktX0_indirect_0 := by decide +kernel
theorem dksX0_indirect_1 : cX0_indirect.data.toList.drop 24 = dktX0_indirect_1 := dk_seg dksX0_indirect_0 24 rfl rfl
theorem dksX0_indirect_2 : cX0_indirect.data.toList.drop 48 = dktX0_indirect_2 := dk_seg dksX0_indirect_1 24 rfl rfl
theorem dX0_indirect_0 : decode cX0_indirect 0 = .ok (.aload_n 0, 1) := dk_42 (dk_at dksX0_indirect_0 0 rfl rfl)
theorem dX0_indirect_1 : decode cX0_indirect 1 = .ok (.iload_n 1, 1) := dk_27 (dk_at dksX0_indirect_0 1 rfl rfl)
theorem dX0_indirect_2 : decode cX0_indirect 2 = .ok (.invokevirtual 23, 3) := dk_182 0 23 (dk_at dksX0_indirect_0 2 rfl rfl)
theorem dX0_indirect_5 : decode cX0_indirect 5 = .ok (.istore_n 3, 1) := dk_62 (dk_at dksX0_indirect_0 5 rfl rfl)
theorem dX0_indirect_6 : decode cX0_indirect 6 = .ok (.aload_n 0, 1) := dk_42 (dk_at dksX0_indirect_0 6 rfl rfl)
theorem dX0_indirect_7 : decode cX0_indirect 7 = .ok (.iload_n 3, 1) := dk_29 (dk_at dksX0_indirect_0 7 rfl rfl)
theorem dX0_indirect_8 : decode cX0_indirect 8 = .ok (.iload_n 2, 1) := dk_28 (dk_at dksX0_indirect_0 8 rfl rfl)
theorem dX0_indirect_9 : decode cX0_indirect 9 = .ok (.invokevirtual 27, 3) := dk_182 0 27 (dk_at dksX0_indirect_0 9 rfl rfl)
theorem dX0_indirect_12 : decode cX0_indirect 12 = .ok (.istore 4, 2) := dk_54 4 (dk_at dksX0_indirect_0 12 rfl rfl)
theorem dX0_indirect_14 : decode cX0_indirect 14 = .ok (.iload_n 3, 1) := dk_29 (dk_at dksX0_indirect_0 14 rfl rfl)
theorem dX0_indirect_15 : decode cX0_indirect 15 = .ok (.istore 5, 2) := dk_54 5 (dk_at dksX0_indirect_0 15 rfl rfl)
theorem dX0_indirect_17 : decode cX0_indirect 17 = .ok (.iload 5, 2) := dk_21 5 (dk_at dksX0_indirect_0 17 rfl rfl)
theorem dX0_indirect_19 : decode cX0_indirect 19 = .ok (.iload 4, 2) := dk_21 4 (dk_at dksX0_indirect_0 19 rfl rfl)
theorem dX0_indirect_21 : decode cX0_indirect 21 = .ok (.if_icmp .ge 18, 3) := dk_162 0 18 (dk_at dksX0_indirect_0 21 rfl rfl)
theorem dX0_indirect_24 : decode cX0_indirect 24 = .ok (.aload_n 0, 1) := dk_42 (dk_at dksX0_indirect_1 0 rfl rfl)
theorem dX0_indirect_25 : decode cX0_indirect 25 = .ok (.getfield 16, 3) := dk_180 0 16 (dk_at dksX0_indirect_1 1 rfl rfl)
theorem dX0_indirect_28 : decode cX0_indirect 28 = .ok (.iload 5, 2) := dk_21 5 (dk_at dksX0_indirect_1 4 rfl rfl)
theorem dX0_indirect_30 : decode cX0_indirect 30 = .ok (.iload 5, 2) := dk_21 5 (dk_at dksX0_indirect_1 6 rfl rfl)
theorem dX0_indirect_32 : decode cX0_indirect 32 = .ok (.iastore, 1) := dk_79 (dk_at dksX0_indirect_1 8 rfl rfl)
theorem dX0_indirect_33 : decode cX0_indirect 33 = .ok (.iinc 5 1, 3) := dk_132 5 1 (dk_at dksX0_indirect_1 9 rfl rfl)
theorem dX0_indirect_36 : decode cX0_indirect 36 = .ok (.goto (-19), 3) := dk_167 255 237 (dk_at dksX0_indirect_1 12 rfl rfl)
theorem dX0_indirect_39 : decode cX0_indirect 39 = .ok (.aload_n 0, 1) := dk_42 (dk_at dksX0_indirect_1 15 rfl rfl)
theorem dX0_indirect_40 : decode cX0_indirect 40 = .ok (.getfield 16, 3) := dk_180 0 16 (dk_at dksX0_indirect_1 16 rfl rfl)
theorem dX0_indirect_43 : decode cX0_indirect 43 = .ok (.aload_n 0, 1) := dk_42 (dk_at dksX0_indirect_1 19 rfl rfl)
theorem dX0_indirect_44 : decode cX0_indirect 44 = .ok (.getfield 7, 3) := dk_180 0 7 (dk_at dksX0_indirect_1 20 rfl rfl)
theorem dX0_indirect_47 : decode cX0_indirect 47 = .ok (.aload_n 0, 1) := dk_42 (dk_at dksX0_indirect_1 23 rfl rfl)
theorem dX0_indirect_48 : decode cX0_indirect 48 = .ok (.getfield 13, 3) := dk_180 0 13 (dk_at dksX0_indirect_2 0 rfl rfl)
theorem dX0_indirect_51 : decode cX0_indirect 51 = .ok (.iload_n 3, 1) := dk_29 (dk_at dksX0_indirect_2 3 rfl rfl)
theorem dX0_indirect_52 : decode cX0_indirect 52 = .ok (.iload 4, 2) := dk_21 4 (dk_at dksX0_indirect_2 4 rfl rfl)
theorem dX0_indirect_54 : decode cX0_indirect 54 = .ok (.iconst 1, 1) := dk_4 (dk_at dksX0_indirect_2 6 rfl rfl)
theorem dX0_indirect_55 : decode cX0_indirect 55 = .ok (.invokestatic 40, 3) := dk_184 0 40 (dk_at dksX0_indirect_2 7 rfl rfl)
theorem dX0_indirect_58 : decode cX0_indirect 58 = .ok (.return_, 1) := dk_177 (dk_at dksX0_indirect_2 10 rfl rfl)
theorem q5 : (Jvm.Cond.initialized "PairSortDesk") ∈ lw_all := lw_g (lw_at lw_m0 1 rfl) rfl
theorem q13 : (Jvm.Cond.instantiable "PairSortDesk" (3 : Nat)) ∈ lw_all := lw_g (lw_at lw_m0 9 rfl) rfl
theorem q15 : (Jvm.Cond.instanceMethod ({ cls := "PairSortDesk", name := "<init>", desc := "()V" } : Jvm.MethodName)) ∈ lw_all := lw_g (lw_at lw_m0 11 rfl) rfl
theorem q16 : (Jvm.Cond.code ({ cls := "PairSortDesk", name := "<init>", desc := "()V" } : Jvm.MethodName) prog_2_method_1_code (1 : Nat) (Option.none : Option Jvm.ClassFile.FieldType)) ∈ lw_all := lw_g (lw_at lw_m0 12 rfl) rfl
theorem q17 : (Jvm.Cond.methodLink "PairSortDesk" (1 : Nat) ({ cls := "java/lang/Object", name := "<init>", desc := "()V" } : Jvm.MethodName)) ∈ lw_all := lw_g (lw_at lw_m0 13 rfl) rfl
theorem q20 : (Jvm.Cond.methodLink "PairSortDesk" (19 : Nat) ({ cls := "PairSortDesk", name := "anew", desc := "()V" } : Jvm.MethodName)) ∈ lw_all := lw_g (lw_at lw_m0 16 rfl) rfl
theorem q21 : (Jvm.Cond.instanceMethod ({ cls := "PairSortDesk", name := "anew", desc := "()V" } : Jvm.MethodName)) ∈ lw_all := lw_g (lw_at lw_m0 17 rfl) rfl
theorem q22 : (Jvm.Cond.selects "PairSortDesk" ({ cls := "PairSortDesk", name := "anew", desc := "()V" } : Jvm.MethodName) ({ cls := "PairSortDesk", name := "anew", desc := "()V" } : Jvm.MethodName)) ∈ lw_all := lw_g (lw_at lw_m0 18 rfl) rfl
theorem q23 : (Jvm.Cond.code ({ cls := "PairSortDesk", name := "anew", desc := "()V" } : Jvm.MethodName) prog_2_method_2_code (2 : Nat) (Option.none : Option Jvm.ClassFile.FieldType)) ∈ lw_all := lw_g (lw_at lw_m0 19 rfl) rfl
theorem q24 : (Jvm.Cond.fieldLink "PairSortDesk" (7 : Nat) "PairSortDesk" "first" "[I") ∈ lw_all := lw_g (lw_at lw_m0 20 rfl) rfl
theorem q25 : (Jvm.Cond.fieldLink "PairSortDesk" (13 : Nat) "PairSortDesk" "second" "[I") ∈ lw_all := lw_g (lw_at lw_m0 21 rfl) rfl
theorem q26 : (Jvm.Cond.fieldLink "PairSortDesk" (16 : Nat) "PairSortDesk" "places" "[I") ∈ lw_all := lw_g (lw_at lw_m0 22 rfl) rfl
theorem q27 : (Jvm.Cond.laysFinal "PairSortDesk" "PairSortDesk" "first" "[I") ∈ lw_all := lw_g (lw_at lw_m0 23 rfl) rfl
theorem q28 : (Jvm.Cond.soleField "PairSortDesk" "first") ∈ lw_all := lw_g (lw_at lw_m0 24 rfl) rfl
theorem q29 : (Jvm.Cond.laysFinal "PairSortDesk" "PairSortDesk" "second" "[I") ∈ lw_all := lw_g (lw_at lw_m0 25 rfl) rfl
theorem q30 : (Jvm.Cond.soleField "PairSortDesk" "second") ∈ lw_all := lw_g (lw_at lw_m0 26 rfl) rfl
theorem q31 : (Jvm.Cond.laysFinal "PairSortDesk" "PairSortDesk" "places" "[I") ∈ lw_all := lw_g (lw_at lw_m0 27 rfl) rfl
theorem q32 : (Jvm.Cond.soleField "PairSortDesk" "places") ∈ lw_all := lw_g (lw_at lw_m0 28 rfl) rfl
theorem q33 : (Jvm.Cond.superclass "PairSortDesk" "java/lang/Object") ∈ lw_all := lw_g (lw_at lw_m0 29 rfl) rfl
theorem q37 : (Jvm.Cond.instanceMethod ({ cls := "PairSortDesk", name := "set", desc := "(III)V" } : Jvm.MethodName)) ∈ lw_all := lw_g (lw_at lw_m0 33 rfl) rfl
theorem q38 : (Jvm.Cond.selects "PairSortDesk" ({ cls := "PairSortDesk", name := "set", desc := "(III)V" } : Jvm.MethodName) ({ cls := "PairSortDesk", name := "set", desc := "(III)V" } : Jvm.MethodName)) ∈ lw_all := lw_g (lw_at lw_m0 34 rfl) rfl
theorem q39 : (Jvm.Cond.code ({ cls := "PairSortDesk", name := "set", desc := "(III)V" } : Jvm.MethodName) prog_2_method_3_code (5 : Nat) (Option.none : Option Jvm.ClassFile.FieldType)) ∈ lw_all := lw_g (lw_at lw_m0 35 rfl) rfl
theorem q40 : (Jvm.Cond.constant "PairSortDesk" (22 : Nat) (2147483647 : Int32)) ∈ lw_all := lw_g (lw_at lw_m0 36 rfl) rfl
theorem q42 : (Jvm.Cond.instanceMethod ({ cls := "PairSortDesk", name := "few", desc := "(III)V" } : Jvm.MethodName)) ∈ lw_all := lw_g (lw_at lw_m0 38 rfl) rfl
theorem q43 : (Jvm.Cond.selects "PairSortDesk" ({ cls := "PairSortDesk", name := "few", desc := "(III)V" } : Jvm.MethodName) ({ cls := "PairSortDesk", name := "few", desc := "(III)V" } : Jvm.MethodName)) ∈ lw_all := lw_g (lw_at lw_m0 39 rfl) rfl
theorem q44 : (Jvm.Cond.code ({ cls := "PairSortDesk", name := "few", desc := "(III)V" } : Jvm.MethodName) prog_2_method_4_code (5 : Nat) (Option.none : Option Jvm.ClassFile.FieldType)) ∈ lw_all := lw_g (lw_at lw_m0 40 rfl) rfl
theorem q46 : (Jvm.Cond.instanceMethod ({ cls := "PairSortDesk", name := "first", desc := "(I)I" } : Jvm.MethodName)) ∈ lw_all := lw_g (lw_at lw_m0 42 rfl) rfl
theorem q47 : (Jvm.Cond.selects "PairSortDesk" ({ cls := "PairSortDesk", name := "first", desc := "(I)I" } : Jvm.MethodName) ({ cls := "PairSortDesk", name := "first", desc := "(I)I" } : Jvm.MethodName)) ∈ lw_all := lw_g (lw_at lw_m0 43 rfl) rfl
theorem q48 : (Jvm.Cond.code ({ cls := "PairSortDesk", name := "first", desc := "(I)I" } : Jvm.MethodName) prog_2_method_5_code (2 : Nat) (Option.some Jvm.ClassFile.FieldType.int)) ∈ lw_all := lw_g (lw_at lw_m0 44 rfl) rfl
theorem q50 : (Jvm.Cond.instanceMethod ({ cls := "PairSortDesk", name := "second", desc := "(I)I" } : Jvm.MethodName)) ∈ lw_all := lw_g (lw_at lw_m0 46 rfl) rfl
theorem q51 : (Jvm.Cond.selects "PairSortDesk" ({ cls := "PairSortDesk", name := "second", desc := "(I)I" } : Jvm.MethodName) ({ cls := "PairSortDesk", name := "second", desc := "(I)I" } : Jvm.MethodName)) ∈ lw_all := lw_g (lw_at lw_m0 47 rfl) rfl
theorem q52 : (Jvm.Cond.code ({ cls := "PairSortDesk", name := "second", desc := "(I)I" } : Jvm.MethodName) prog_2_method_6_code (2 : Nat) (Option.some Jvm.ClassFile.FieldType.int)) ∈ lw_all := lw_g (lw_at lw_m0 48 rfl) rfl
theorem q54 : (Jvm.Cond.instanceMethod ({ cls := "PairSortDesk", name := "place", desc := "(I)I" } : Jvm.MethodName)) ∈ lw_all := lw_g (lw_at lw_m0 50 rfl) rfl
theorem q55 : (Jvm.Cond.selects "PairSortDesk" ({ cls := "PairSortDesk", name := "place", desc := "(I)I" } : Jvm.MethodName) ({ cls := "PairSortDesk", name := "place", desc := "(I)I" } : Jvm.MethodName)) ∈ lw_all := lw_g (lw_at lw_m0 51 rfl) rfl
theorem q56 : (Jvm.Cond.code ({ cls := "PairSortDesk", name := "place", desc := "(I)I" } : Jvm.MethodName) prog_2_method_7_code (2 : Nat) (Option.some Jvm.ClassFile.FieldType.int)) ∈ lw_all := lw_g (lw_at lw_m0 52 rfl) rfl
theorem q58 : (Jvm.Cond.instanceMethod ({ cls := "PairSortDesk", name := "quick", desc := "(II)V" } : Jvm.MethodName)) ∈ lw_all := lw_g (lw_at lw_m0 54 rfl) rfl
theorem q59 : (Jvm.Cond.selects "PairSortDesk" ({ cls := "PairSortDesk", name := "quick", desc := "(II)V" } : Jvm.MethodName) ({ cls := "PairSortDesk", name := "quick", desc := "(II)V" } : Jvm.MethodName)) ∈ lw_all := lw_g (lw_at lw_m0 55 rfl) rfl
theorem q60 : (Jvm.Cond.code ({ cls := "PairSortDesk", name := "quick", desc := "(II)V" } : Jvm.MethodName) prog_2_method_10_code (4 : Nat) (Option.none : Option Jvm.ClassFile.FieldType)) ∈ lw_all := lw_g (lw_at lw_m0 56 rfl) rfl
theorem q61 : (Jvm.Cond.methodLink "PairSortDesk" (23 : Nat) ({ cls := "PairSortDesk", name := "from", desc := "(I)I" } : Jvm.MethodName)) ∈ lw_all := lw_g (lw_at lw_m0 57 rfl) rfl
theorem q62 : (Jvm.Cond.privateMethod ({ cls := "PairSortDesk", name := "from", desc := "(I)I" } : Jvm.MethodName)) ∈ lw_tbl := lw_at lw_m0 58 rfl
theorem q63 : (Jvm.Cond.instanceMethod ({ cls := "PairSortDesk", name := "from", desc := "(I)I" } : Jvm.MethodName)) ∈ lw_all := lw_g (lw_at lw_m0 59 rfl) rfl
theorem q64 : (Jvm.Cond.code ({ cls := "PairSortDesk", name := "from", desc := "(I)I" } : Jvm.MethodName) prog_2_method_8_code (2 : Nat) (Option.some Jvm.ClassFile.FieldType.int)) ∈ lw_all := lw_g (lw_at lw_m0 60 rfl) rfl
theorem q65 : (Jvm.Cond.methodLink "PairSortDesk" (27 : Nat) ({ cls := "PairSortDesk", name := "to", desc := "(II)I" } : Jvm.MethodName)) ∈ lw_all := lw_g (lw_at lw_m0 61 rfl) rfl
theorem q66 : (Jvm.Cond.privateMethod ({ cls := "PairSortDesk", name := "to", desc := "(II)I" } : Jvm.MethodName)) ∈ lw_tbl := lw_at lw_m0 62 rfl
theorem q67 : (Jvm.Cond.instanceMethod ({ cls := "PairSortDesk", name := "to", desc := "(II)I" } : Jvm.MethodName)) ∈ lw_all := lw_g (lw_at lw_m0 63 rfl) rfl
theorem q68 : (Jvm.Cond.code ({ cls := "PairSortDesk", name := "to", desc := "(II)I" } : Jvm.MethodName) prog_2_method_9_code (3 : Nat) (Option.some Jvm.ClassFile.FieldType.int)) ∈ lw_all := lw_g (lw_at lw_m0 64 rfl) rfl
theorem q69 : (Jvm.Cond.methodLink "PairSortDesk" (31 : Nat) ({ cls := "IntArrays", name := "quickSort", desc := "([I[III)V" } : Jvm.MethodName)) ∈ lw_all := lw_g (lw_at lw_m0 65 rfl) rfl
theorem q92 : (Jvm.Cond.instanceMethod ({ cls := "PairSortDesk", name := "radix", desc := "(II)V" } : Jvm.MethodName)) ∈ lw_all := lw_g (lw_at lw_m0 88 rfl) rfl
theorem q93 : (Jvm.Cond.selects "PairSortDesk" ({ cls := "PairSortDesk", name := "radix", desc := "(II)V" } : Jvm.MethodName) ({ cls := "PairSortDesk", name := "radix", desc := "(II)V" } : Jvm.MethodName)) ∈ lw_all := lw_g (lw_at lw_m0 89 rfl) rfl
theorem q94 : (Jvm.Cond.code ({ cls := "PairSortDesk", name := "radix", desc := "(II)V" } : Jvm.MethodName) prog_2_method_11_code (4 : Nat) (Option.none : Option Jvm.ClassFile.FieldType)) ∈ lw_all := lw_g (lw_at lw_m0 90 rfl) rfl
theorem q95 : (Jvm.Cond.methodLink "PairSortDesk" (37 : Nat) ({ cls := "IntArrays", name := "radixSort", desc := "([I[III)V" } : Jvm.MethodName)) ∈ lw_all := lw_g (lw_at lw_m0 91 rfl) rfl
theorem q99 : (Jvm.Cond.instanceMethod ({ cls := "PairSortDesk", name := "indirect", desc := "(II)V" } : Jvm.MethodName)) ∈ lw_all := lw_g (lw_at lw_m0 95 rfl) rfl
theorem q100 : (Jvm.Cond.selects "PairSortDesk" ({ cls := "PairSortDesk", name := "indirect", desc := "(II)V" } : Jvm.MethodName) ({ cls := "PairSortDesk", name := "indirect", desc := "(II)V" } : Jvm.MethodName)) ∈ lw_all := lw_g (lw_at lw_m0 96 rfl) rfl
theorem q101 : (Jvm.Cond.code ({ cls := "PairSortDesk", name := "indirect", desc := "(II)V" } : Jvm.MethodName) prog_2_method_12_code (6 : Nat) (Option.none : Option Jvm.ClassFile.FieldType)) ∈ lw_all := lw_g (lw_at lw_m0 97 rfl) rfl
theorem q102 : (Jvm.Cond.methodLink "PairSortDesk" (40 : Nat) ({ cls := "IntArrays", name := "radixSortIndirect", desc := "([I[I[IIIZ)V" } : Jvm.MethodName)) ∈ lw_all := lw_g (lw_at lw_m0 98 rfl) rfl
theorem in_X0 : ∀ w ∈ wsX00, w ∈ lw_all := lw_in wsX00 [27, 29, 31] (by decide +kernel) (by decide +kernel)

/-! PairSortDeskModel -/
set_option maxRecDepth 100000
def RX1 : String := "PairSortDeskModel"
def TX1 : u_T := fun k => match k with
  | 0 => ("PairSortDeskModel", "first", "[I", false)
  | 1 => ("PairSortDeskModel", "second", "[I", false)
  | _ => ("PairSortDeskModel", "places", "[I", false)
def tyX1 : Nat → FieldType := fun k => match k with
  | 0 => .array .int
  | 1 => .array .int
  | _ => .array .int
abbrev wsX10 : List Cond := u_ws RX1 TX1 3
theorem nmX1 : ∀ a, a < 3 → ∀ b, b < 3 → a ≠ b → (TX1 a).2.1 ≠ (TX1 b).2.1 := by decide +kernel
theorem tyX1_ok : ∀ k, k < 3 → parseFieldDescriptor (TX1 k).2.2.1 = some (tyX1 k) := by decide +kernel
abbrev cX1_init : ByteArray := prog_4_method_1_code
def yX1_init : MethodName := ⟨RX1, "<init>", "()V"⟩
def dkwX1_init_1 : List UInt8 := [188, 10, 181, 0, 16, 42, 182, 0, 19, 177]
abbrev dktX1_init_1 : List UInt8 := dkwX1_init_1 ++ []
def dkwX1_init_0 : List UInt8 := [42, 183, 0, 1, 42, 16, 48, 188, 10, 181, 0, 9, 42, 16, 48, 188, 10, 181, 0, 13, 42, 16, 48]
abbrev dktX1_init_0 : List UInt8 := dkwX1_init_0 ++ dktX1_init_1
theorem dksX1_init_0 : cX1_init.data.toList.drop 0 = dktX1_init_0 := by decide +kernel
theorem dksX1_init_1 : cX1_init.data.toList.drop 23 = dktX1_init_1 := dk_seg dksX1_init_0 23 rfl rfl
theorem dX1_init_0 : decode cX1_init 0 = .ok (.aload_n 0, 1) := dk_42 (dk_at dksX1_init_0 0 rfl rfl)
theorem dX1_init_1 : decode cX1_init 1 = .ok (.invokespecial 1, 3) := dk_183 0 1 (dk_at dksX1_init_0 1 rfl rfl)
theorem dX1_init_4 : decode cX1_init 4 = .ok (.aload_n 0, 1) := dk_42 (dk_at dksX1_init_0 4 rfl rfl)
theorem dX1_init_5 : decode cX1_init 5 = .ok (.bipush 48, 2) := dk_16 48 (dk_at dksX1_init_0 5 rfl rfl)
theorem dX1_init_7 : decode cX1_init 7 = .ok (.newarray .int, 2) := dk_188_10 (dk_at dksX1_init_0 7 rfl rfl)
theorem dX1_init_9 : decode cX1_init 9 = .ok (.putfield 9, 3) := dk_181 0 9 (dk_at dksX1_init_0 9 rfl rfl)
theorem dX1_init_12 : decode cX1_init 12 = .ok (.aload_n 0, 1) := dk_42 (dk_at dksX1_init_0 12 rfl rfl)
theorem dX1_init_13 : decode cX1_init 13 = .ok (.bipush 48, 2) := dk_16 48 (dk_at dksX1_init_0 13 rfl rfl)
theorem dX1_init_15 : decode cX1_init 15 = .ok (.newarray .int, 2) := dk_188_10 (dk_at dksX1_init_0 15 rfl rfl)
theorem dX1_init_17 : decode cX1_init 17 = .ok (.putfield 13, 3) := dk_181 0 13 (dk_at dksX1_init_0 17 rfl rfl)
theorem dX1_init_20 : decode cX1_init 20 = .ok (.aload_n 0, 1) := dk_42 (dk_at dksX1_init_0 20 rfl rfl)
theorem dX1_init_21 : decode cX1_init 21 = .ok (.bipush 48, 2) := dk_16 48 (dk_at dksX1_init_0 21 rfl rfl)
theorem dX1_init_23 : decode cX1_init 23 = .ok (.newarray .int, 2) := dk_188_10 (dk_at dksX1_init_1 0 rfl rfl)
theorem dX1_init_25 : decode cX1_init 25 = .ok (.putfield 16, 3) := dk_181 0 16 (dk_at dksX1_init_1 2 rfl rfl)
theorem dX1_init_28 : decode cX1_init 28 = .ok (.aload_n 0, 1) := dk_42 (dk_at dksX1_init_1 5 rfl rfl)
theorem dX1_init_29 : decode cX1_init 29 = .ok (.invokevirtual 19, 3) := dk_182 0 19 (dk_at dksX1_init_1 6 rfl rfl)
theorem dX1_init_32 : decode cX1_init 32 = .ok (.return_, 1) := dk_177 (dk_at dksX1_init_1 9 rfl rfl)
abbrev cX1_anew : ByteArray := prog_4_method_5_code
def yX1_anew : MethodName := ⟨RX1, "anew", "()V"⟩
def dkwX1_anew_0 : List UInt8 := [3, 60, 27, 16, 48, 162, 0, 16, 42, 180, 0, 16, 27, 27, 79, 132, 1, 1, 167, 255, 240, 177]
abbrev dktX1_anew_0 : List UInt8 := dkwX1_anew_0 ++ []
theorem dksX1_anew_0 : cX1_anew.data.toList.drop 0 = dktX1_anew_0 := by decide +kernel
theorem dX1_anew_0 : decode cX1_anew 0 = .ok (.iconst 0, 1) := dk_3 (dk_at dksX1_anew_0 0 rfl rfl)
theorem dX1_anew_1 : decode cX1_anew 1 = .ok (.istore_n 1, 1) := dk_60 (dk_at dksX1_anew_0 1 rfl rfl)
theorem dX1_anew_2 : decode cX1_anew 2 = .ok (.iload_n 1, 1) := dk_27 (dk_at dksX1_anew_0 2 rfl rfl)
theorem dX1_anew_3 : decode cX1_anew 3 = .ok (.bipush 48, 2) := dk_16 48 (dk_at dksX1_anew_0 3 rfl rfl)
theorem dX1_anew_5 : decode cX1_anew 5 = .ok (.if_icmp .ge 16, 3) := dk_162 0 16 (dk_at dksX1_anew_0 5 rfl rfl)
theorem dX1_anew_8 : decode cX1_anew 8 = .ok (.aload_n 0, 1) := dk_42 (dk_at dksX1_anew_0 8 rfl rfl)
theorem dX1_anew_9 : decode cX1_anew 9 = .ok (.getfield 16, 3) := dk_180 0 16 (dk_at dksX1_anew_0 9 rfl rfl)
theorem dX1_anew_12 : decode cX1_anew 12 = .ok (.iload_n 1, 1) := dk_27 (dk_at dksX1_anew_0 12 rfl rfl)
theorem dX1_anew_13 : decode cX1_anew 13 = .ok (.iload_n 1, 1) := dk_27 (dk_at dksX1_anew_0 13 rfl rfl)
theorem dX1_anew_14 : decode cX1_anew 14 = .ok (.iastore, 1) := dk_79 (dk_at dksX1_anew_0 14 rfl rfl)
theorem dX1_anew_15 : decode cX1_anew 15 = .ok (.iinc 1 1, 3) := dk_132 1 1 (dk_at dksX1_anew_0 15 rfl rfl)
theorem dX1_anew_18 : decode cX1_anew 18 = .ok (.goto (-16), 3) := dk_167 255 240 (dk_at dksX1_anew_0 18 rfl rfl)
theorem dX1_anew_21 : decode cX1_anew 21 = .ok (.return_, 1) := dk_177 (dk_at dksX1_anew_0 21 rfl rfl)
abbrev cX1_set : ByteArray := prog_4_method_6_code
def yX1_set : MethodName := ⟨RX1, "set", "(III)V"⟩
def dkwX1_set_1 : List UInt8 := [29, 79, 177]
abbrev dktX1_set_1 : List UInt8 := dkwX1_set_1 ++ []
def dkwX1_set_0 : List UInt8 := [42, 180, 0, 9, 27, 184, 0, 23, 16, 48, 112, 28, 79, 42, 180, 0, 13, 27, 184, 0, 23, 16, 48, 112]
abbrev dktX1_set_0 : List UInt8 := dkwX1_set_0 ++ dktX1_set_1
theorem dksX1_set_0 : cX1_set.data.toList.drop 0 = dktX1_set_0 := by decide +kernel
theorem dksX1_set_1 : cX1_set.data.toList.drop 24 = dktX1_set_1 := dk_seg dksX1_set_0 24 rfl rfl
theorem dX1_set_0 : decode cX1_set 0 = .ok (.aload_n 0, 1) := dk_42 (dk_at dksX1_set_0 0 rfl rfl)
theorem dX1_set_1 : decode cX1_set 1 = .ok (.getfield 9, 3) := dk_180 0 9 (dk_at dksX1_set_0 1 rfl rfl)
theorem dX1_set_4 : decode cX1_set 4 = .ok (.iload_n 1, 1) := dk_27 (dk_at dksX1_set_0 4 rfl rfl)
theorem dX1_set_5 : decode cX1_set 5 = .ok (.invokestatic 23, 3) := dk_184 0 23 (dk_at dksX1_set_0 5 rfl rfl)
theorem dX1_set_8 : decode cX1_set 8 = .ok (.bipush 48, 2) := dk_16 48 (dk_at dksX1_set_0 8 rfl rfl)
theorem dX1_set_10 : decode cX1_set 10 = .ok (.irem, 1) := dk_112 (dk_at dksX1_set_0 10 rfl rfl)
theorem dX1_set_11 : decode cX1_set 11 = .ok (.iload_n 2, 1) := dk_28 (dk_at dksX1_set_0 11 rfl rfl)
theorem dX1_set_12 : decode cX1_set 12 = .ok (.iastore, 1) := dk_79 (dk_at dksX1_set_0 12 rfl rfl)
theorem dX1_set_13 : decode cX1_set 13 = .ok (.aload_n 0, 1) := dk_42 (dk_at dksX1_set_0 13 rfl rfl)
theorem dX1_set_14 : decode cX1_set 14 = .ok (.getfield 13, 3) := dk_180 0 13 (dk_at dksX1_set_0 14 rfl rfl)
theorem dX1_set_17 : decode cX1_set 17 = .ok (.iload_n 1, 1) := dk_27 (dk_at dksX1_set_0 17 rfl rfl)
theorem dX1_set_18 : decode cX1_set 18 = .ok (.invokestatic 23, 3) := dk_184 0 23 (dk_at dksX1_set_0 18 rfl rfl)
theorem dX1_set_21 : decode cX1_set 21 = .ok (.bipush 48, 2) := dk_16 48 (dk_at dksX1_set_0 21 rfl rfl)
theorem dX1_set_23 : decode cX1_set 23 = .ok (.irem, 1) := dk_112 (dk_at dksX1_set_0 23 rfl rfl)
theorem dX1_set_24 : decode cX1_set 24 = .ok (.iload_n 3, 1) := dk_29 (dk_at dksX1_set_1 0 rfl rfl)
theorem dX1_set_25 : decode cX1_set 25 = .ok (.iastore, 1) := dk_79 (dk_at dksX1_set_1 1 rfl rfl)
theorem dX1_set_26 : decode cX1_set 26 = .ok (.return_, 1) := dk_177 (dk_at dksX1_set_1 2 rfl rfl)
abbrev cX1_plain : ByteArray := prog_4_method_2_code
def yX1_plain : MethodName := ⟨RX1, "plain", "(I)I"⟩
def dkwX1_plain_0 : List UInt8 := [26, 18, 22, 126, 172]
abbrev dktX1_plain_0 : List UInt8 := dkwX1_plain_0 ++ []
theorem dksX1_plain_0 : cX1_plain.data.toList.drop 0 = dktX1_plain_0 := by decide +kernel
theorem dX1_plain_0 : decode cX1_plain 0 = .ok (.iload_n 0, 1) := dk_26 (dk_at dksX1_plain_0 0 rfl rfl)
theorem dX1_plain_1 : decode cX1_plain 1 = .ok (.ldc 22, 2) := dk_18 22 (dk_at dksX1_plain_0 1 rfl rfl)
theorem dX1_plain_3 : decode cX1_plain 3 = .ok (.iand, 1) := dk_126 (dk_at dksX1_plain_0 3 rfl rfl)
theorem dX1_plain_4 : decode cX1_plain 4 = .ok (.ireturn, 1) := dk_172 (dk_at dksX1_plain_0 4 rfl rfl)
abbrev cX1_few : ByteArray := prog_4_method_7_code
def yX1_few : MethodName := ⟨RX1, "few", "(III)V"⟩
def dkwX1_few_0 : List UInt8 := [42, 27, 28, 6, 126, 29, 6, 126, 182, 0, 30, 177]
abbrev dktX1_few_0 : List UInt8 := dkwX1_few_0 ++ []
theorem dksX1_few_0 : cX1_few.data.toList.drop 0 = dktX1_few_0 := by decide +kernel
theorem dX1_few_0 : decode cX1_few 0 = .ok (.aload_n 0, 1) := dk_42 (dk_at dksX1_few_0 0 rfl rfl)
theorem dX1_few_1 : decode cX1_few 1 = .ok (.iload_n 1, 1) := dk_27 (dk_at dksX1_few_0 1 rfl rfl)
theorem dX1_few_2 : decode cX1_few 2 = .ok (.iload_n 2, 1) := dk_28 (dk_at dksX1_few_0 2 rfl rfl)
theorem dX1_few_3 : decode cX1_few 3 = .ok (.iconst 3, 1) := dk_6 (dk_at dksX1_few_0 3 rfl rfl)
theorem dX1_few_4 : decode cX1_few 4 = .ok (.iand, 1) := dk_126 (dk_at dksX1_few_0 4 rfl rfl)
theorem dX1_few_5 : decode cX1_few 5 = .ok (.iload_n 3, 1) := dk_29 (dk_at dksX1_few_0 5 rfl rfl)
theorem dX1_few_6 : decode cX1_few 6 = .ok (.iconst 3, 1) := dk_6 (dk_at dksX1_few_0 6 rfl rfl)
theorem dX1_few_7 : decode cX1_few 7 = .ok (.iand, 1) := dk_126 (dk_at dksX1_few_0 7 rfl rfl)
theorem dX1_few_8 : decode cX1_few 8 = .ok (.invokevirtual 30, 3) := dk_182 0 30 (dk_at dksX1_few_0 8 rfl rfl)
theorem dX1_few_11 : decode cX1_few 11 = .ok (.return_, 1) := dk_177 (dk_at dksX1_few_0 11 rfl rfl)
abbrev cX1_first : ByteArray := prog_4_method_8_code
def yX1_first : MethodName := ⟨RX1, "first", "(I)I"⟩
def dkwX1_first_0 : List UInt8 := [42, 180, 0, 9, 27, 184, 0, 23, 16, 48, 112, 46, 172]
abbrev dktX1_first_0 : List UInt8 := dkwX1_first_0 ++ []
theorem dksX1_first_0 : cX1_first.data.toList.drop 0 = dktX1_first_0 := by decide +kernel
theorem dX1_first_0 : decode cX1_first 0 = .ok (.aload_n 0, 1) := dk_42 (dk_at dksX1_first_0 0 rfl rfl)
theorem dX1_first_1 : decode cX1_first 1 = .ok (.getfield 9, 3) := dk_180 0 9 (dk_at dksX1_first_0 1 rfl rfl)
theorem dX1_first_4 : decode cX1_first 4 = .ok (.iload_n 1, 1) := dk_27 (dk_at dksX1_first_0 4 rfl rfl)
theorem dX1_first_5 : decode cX1_first 5 = .ok (.invokestatic 23, 3) := dk_184 0 23 (dk_at dksX1_first_0 5 rfl rfl)
theorem dX1_first_8 : decode cX1_first 8 = .ok (.bipush 48, 2) := dk_16 48 (dk_at dksX1_first_0 8 rfl rfl)
theorem dX1_first_10 : decode cX1_first 10 = .ok (.irem, 1) := dk_112 (dk_at dksX1_first_0 10 rfl rfl)
theorem dX1_first_11 : decode cX1_first 11 = .ok (.iaload, 1) := dk_46 (dk_at dksX1_first_0 11 rfl rfl)
theorem dX1_first_12 : decode cX1_first 12 = .ok (.ireturn, 1) := dk_172 (dk_at dksX1_first_0 12 rfl rfl)
abbrev cX1_second : ByteArray := prog_4_method_9_code
def yX1_second : MethodName := ⟨RX1, "second", "(I)I"⟩
def dkwX1_second_0 : List UInt8 := [42, 180, 0, 13, 27, 184, 0, 23, 16, 48, 112, 46, 172]
abbrev dktX1_second_0 : List UInt8 := dkwX1_second_0 ++ []
theorem dksX1_second_0 : cX1_second.data.toList.drop 0 = dktX1_second_0 := by decide +kernel
theorem dX1_second_0 : decode cX1_second 0 = .ok (.aload_n 0, 1) := dk_42 (dk_at dksX1_second_0 0 rfl rfl)
theorem dX1_second_1 : decode cX1_second 1 = .ok (.getfield 13, 3) := dk_180 0 13 (dk_at dksX1_second_0 1 rfl rfl)
theorem dX1_second_4 : decode cX1_second 4 = .ok (.iload_n 1, 1) := dk_27 (dk_at dksX1_second_0 4 rfl rfl)
theorem dX1_second_5 : decode cX1_second 5 = .ok (.invokestatic 23, 3) := dk_184 0 23 (dk_at dksX1_second_0 5 rfl rfl)
theorem dX1_second_8 : decode cX1_second 8 = .ok (.bipush 48, 2) := dk_16 48 (dk_at dksX1_second_0 8 rfl rfl)
theorem dX1_second_10 : decode cX1_second 10 = .ok (.irem, 1) := dk_112 (dk_at dksX1_second_0 10 rfl rfl)
theorem dX1_second_11 : decode cX1_second 11 = .ok (.iaload, 1) := dk_46 (dk_at dksX1_second_0 11 rfl rfl)
theorem dX1_second_12 : decode cX1_second 12 = .ok (.ireturn, 1) := dk_172 (dk_at dksX1_second_0 12 rfl rfl)
abbrev cX1_place : ByteArray := prog_4_method_10_code
def yX1_place : MethodName := ⟨RX1, "place", "(I)I"⟩
def dkwX1_place_0 : List UInt8 := [42, 180, 0, 16, 27, 184, 0, 23, 16, 48, 112, 46, 172]
abbrev dktX1_place_0 : List UInt8 := dkwX1_place_0 ++ []
theorem dksX1_place_0 : cX1_place.data.toList.drop 0 = dktX1_place_0 := by decide +kernel
theorem dX1_place_0 : decode cX1_place 0 = .ok (.aload_n 0, 1) := dk_42 (dk_at dksX1_place_0 0 rfl rfl)
theorem dX1_place_1 : decode cX1_place 1 = .ok (.getfield 16, 3) := dk_180 0 16 (dk_at dksX1_place_0 1 rfl rfl)
theorem dX1_place_4 : decode cX1_place 4 = .ok (.iload_n 1, 1) := dk_27 (dk_at dksX1_place_0 4 rfl rfl)
theorem dX1_place_5 : decode cX1_place 5 = .ok (.invokestatic 23, 3) := dk_184 0 23 (dk_at dksX1_place_0 5 rfl rfl)
theorem dX1_place_8 : decode cX1_place 8 = .ok (.bipush 48, 2) := dk_16 48 (dk_at dksX1_place_0 8 rfl rfl)
theorem dX1_place_10 : decode cX1_place 10 = .ok (.irem, 1) := dk_112 (dk_at dksX1_place_0 10 rfl rfl)
theorem dX1_place_11 : decode cX1_place 11 = .ok (.iaload, 1) := dk_46 (dk_at dksX1_place_0 11 rfl rfl)
theorem dX1_place_12 : decode cX1_place 12 = .ok (.ireturn, 1) := dk_172 (dk_at dksX1_place_0 12 rfl rfl)
abbrev cX1_quick : ByteArray := prog_4_method_13_code
def yX1_quick : MethodName := ⟨RX1, "quick", "(II)V"⟩
def dkwX1_quick_0 : List UInt8 := [42, 27, 28, 182, 0, 42, 177]
abbrev dktX1_quick_0 : List UInt8 := dkwX1_quick_0 ++ []
theorem dksX1_quick_0 : cX1_quick.data.toList.drop 0 = dktX1_quick_0 := by decide +kernel
theorem dX1_quick_0 : decode cX1_quick 0 = .ok (.aload_n 0, 1) := dk_42 (dk_at dksX1_quick_0 0 rfl rfl)
theorem dX1_quick_1 : decode cX1_quick 1 = .ok (.iload_n 1, 1) := dk_27 (dk_at dksX1_quick_0 1 rfl rfl)
theorem dX1_quick_2 : decode cX1_quick 2 = .ok (.iload_n 2, 1) := dk_28 (dk_at dksX1_quick_0 2 rfl rfl)
theorem dX1_quick_3 : decode cX1_quick 3 = .ok (.invokevirtual 42, 3) := dk_182 0 42 (dk_at dksX1_quick_0 3 rfl rfl)
theorem dX1_quick_6 : decode cX1_quick 6 = .ok (.return_, 1) := dk_177 (dk_at dksX1_quick_0 6 rfl rfl)
abbrev cX1_sort : ByteArray := prog_4_method_12_code
def yX1_sort : MethodName := ⟨RX1, "sort", "(II)V"⟩
def dkwX1_sort_6 : List UInt8 := [25, 4, 181, 0, 13, 177]
abbrev dktX1_sort_6 : List UInt8 := dkwX1_sort_6 ++ []
def dkwX1_sort_5 : List UInt8 := [25, 4, 21, 6, 42, 180, 0, 13, 21, 5, 46, 79, 132, 5, 1, 167, 255, 140, 42, 45, 181, 0, 9, 42]
abbrev dktX1_sort_5 : List UInt8 := dkwX1_sort_5 ++ dktX1_sort_6
def dkwX1_sort_4 : List UInt8 := [154, 0, 6, 132, 6, 1, 132, 7, 1, 167, 255, 211, 45, 21, 6, 42, 180, 0, 9, 21, 5, 46, 79]
abbrev dktX1_sort_4 : List UInt8 := dkwX1_sort_4 ++ dktX1_sort_5
def dkwX1_sort_3 : List UInt8 := [21, 5, 182, 0, 38, 154, 0, 21, 21, 7, 21, 5, 162, 0, 17, 42, 21, 5, 21, 7, 182, 0, 38]
abbrev dktX1_sort_3 : List UInt8 := dkwX1_sort_3 ++ dktX1_sort_4
def dkwX1_sort_2 : List UInt8 := [184, 0, 27, 54, 6, 27, 184, 0, 27, 54, 7, 21, 7, 27, 28, 184, 0, 34, 162, 0, 41, 42, 21, 7]
abbrev dktX1_sort_2 : List UInt8 := dkwX1_sort_2 ++ dktX1_sort_3
def dkwX1_sort_1 : List UInt8 := [54, 6, 21, 5, 27, 184, 0, 27, 161, 0, 73, 21, 5, 27, 28, 184, 0, 34, 162, 0, 63, 27]
abbrev dktX1_sort_1 : List UInt8 := dkwX1_sort_1 ++ dktX1_sort_2
def dkwX1_sort_0 : List UInt8 := [16, 48, 188, 10, 78, 16, 48, 188, 10, 58, 4, 3, 54, 5, 21, 5, 16, 48, 162, 0, 115, 21, 5]
abbrev dktX1_sort_0 : List UInt8 := dkwX1_sort_0 ++ dktX1_sort_1
theorem dksX1_sort_0 : cX1_sort.data.toList.drop 0 = dktX1_sort_0 := by decide +kernel
theorem dksX1_sort_1 : cX1_sort.data.toList.drop 23 = dktX1_sort_1 := dk_seg dksX1_sort_0 23 rfl rfl
theorem dksX1_sort_2 : cX1_sort.data.toList.drop 45 = dktX1_sort_2 := dk_seg dksX1_sort_1 22 rfl rfl
theorem dksX1_sort_3 : cX1_sort.data.toList.drop 69 = dktX1_sort_3 := dk_seg dksX1_sort_2 24 rfl rfl
theorem dksX1_sort_4 : cX1_sort.data.toList.drop 92 = dktX1_sort_4 := dk_seg dksX1_sort_3 23 rfl rfl
theorem dksX1_sort_5 : cX1_sort.data.toList.drop 115 = dktX1_sort_5 := dk_seg dksX1_sort_4 23 rfl rfl
theorem dksX1_sort_6 : cX1_sort.data.toList.drop 139 = dktX1_sort_6 := dk_seg dksX1_sort_5 24 rfl rfl
theorem dX1_sort_0 : decode cX1_sort 0 = .ok (.bipush 48, 2) := dk_16 48 (dk_at dksX1_sort_0 0 rfl rfl)
theorem dX1_sort_2 : decode cX1_sort 2 = .ok (.newarray .int, 2) := dk_188_10 (dk_at dksX1_sort_0 2 rfl rfl)
theorem dX1_sort_4 : decode cX1_sort 4 = .ok (.astore_n 3, 1) := dk_78 (dk_at dksX1_sort_0 4 rfl rfl)
theorem dX1_sort_5 : decode cX1_sort 5 = .ok (.bipush 48, 2) := dk_16 48 (dk_at dksX1_sort_0 5 rfl rfl)
theorem dX1_sort_7 : decode cX1_sort 7 = .ok (.newarray .int, 2) := dk_188_10 (dk_at dksX1_sort_0 7 rfl rfl)
theorem dX1_sort_9 : decode cX1_sort 9 = .ok (.astore 4, 2) := dk_58 4 (dk_at dksX1_sort_0 9 rfl rfl)
theorem dX1_sort_11 : decode cX1_sort 11 = .ok (.iconst 0, 1) := dk_3 (dk_at dksX1_sort_0 11 rfl rfl)
theorem dX1_sort_12 : decode cX1_sort 12 = .ok (.istore 5, 2) := dk_54 5 (dk_at dksX1_sort_0 12 rfl rfl)
theorem dX1_sort_14 : decode cX1_sort 14 = .ok (.iload 5, 2) := dk_21 5 (dk_at dksX1_sort_0 14 rfl rfl)
theorem dX1_sort_16 : decode cX1_sort 16 = .ok (.bipush 48, 2) := dk_16 48 (dk_at dksX1_sort_0 16 rfl rfl)
theorem dX1_sort_18 : decode cX1_sort 18 = .ok (.if_icmp .ge 115, 3) := dk_162 0 115 (dk_at dksX1_sort_0 18 rfl rfl)
theorem dX1_sort_21 : decode cX1_sort 21 = .ok (.iload 5, 2) := dk_21 5 (dk_at dksX1_sort_0 21 rfl rfl)
theorem dX1_sort_23 : decode cX1_sort 23 = .ok (.istore 6, 2) := dk_54 6 (dk_at dksX1_sort_1 0 rfl rfl)
theorem dX1_sort_25 : decode cX1_sort 25 = .ok (.iload 5, 2) := dk_21 5 (dk_at dksX1_sort_1 2 rfl rfl)
theorem dX1_sort_27 : decode cX1_sort 27 = .ok (.iload_n 1, 1) := dk_27 (dk_at dksX1_sort_1 4 rfl rfl)
theorem dX1_sort_28 : decode cX1_sort 28 = .ok (.invokestatic 27, 3) := dk_184 0 27 (dk_at dksX1_sort_1 5 rfl rfl)
theorem dX1_sort_31 : decode cX1_sort 31 = .ok (.if_icmp .lt 73, 3) := dk_161 0 73 (dk_at dksX1_sort_1 8 rfl rfl)
theorem dX1_sort_34 : decode cX1_sort 34 = .ok (.iload 5, 2) := dk_21 5 (dk_at dksX1_sort_1 11 rfl rfl)
theorem dX1_sort_36 : decode cX1_sort 36 = .ok (.iload_n 1, 1) := dk_27 (dk_at dksX1_sort_1 13 rfl rfl)
theorem dX1_sort_37 : decode cX1_sort 37 = .ok (.iload_n 2, 1) := dk_28 (dk_at dksX1_sort_1 14 rfl rfl)
theorem dX1_sort_38 : decode cX1_sort 38 = .ok (.invokestatic 34, 3) := dk_184 0 34 (dk_at dksX1_sort_1 15 rfl rfl)
theorem dX1_sort_41 : decode cX1_sort 41 = .ok (.if_icmp .ge 63, 3) := dk_162 0 63 (dk_at dksX1_sort_1 18 rfl rfl)
theorem dX1_sort_44 : decode cX1_sort 44 = .ok (.iload_n 1, 1) := dk_27 (dk_at dksX1_sort_1 21 rfl rfl)
theorem dX1_sort_45 : decode cX1_sort 45 = .ok (.invokestatic 27, 3) := dk_184 0 27 (dk_at dksX1_sort_2 0 rfl rfl)
theorem dX1_sort_48 : decode cX1_sort 48 = .ok (.istore 6, 2) := dk_54 6 (dk_at dksX1_sort_2 3 rfl rfl)
theorem dX1_sort_50 : decode cX1_sort 50 = .ok (.iload_n 1, 1) := dk_27 (dk_at dksX1_sort_2 5 rfl rfl)
theorem dX1_sort_51 : decode cX1_sort 51 = .ok (.invokestatic 27, 3) := dk_184 0 27 (dk_at dksX1_sort_2 6 rfl rfl)
theorem dX1_sort_54 : decode cX1_sort 54 = .ok (.istore 7, 2) := dk_54 7 (dk_at dksX1_sort_2 9 rfl rfl)
theorem dX1_sort_56 : decode cX1_sort 56 = .ok (.iload 7, 2) := dk_21 7 (dk_at dksX1_sort_2 11 rfl rfl)
theorem dX1_sort_58 : decode cX1_sort 58 = .ok (.iload_n 1, 1) := dk_27 (dk_at dksX1_sort_2 13 rfl rfl)
theorem dX1_sort_59 : decode cX1_sort 59 = .ok (.iload_n 2, 1) := dk_28 (dk_at dksX1_sort_2 14 rfl rfl)
theorem dX1_sort_60 : decode cX1_sort 60 = .ok (.invokestatic 34, 3) := dk_184 0 34 (dk_at dksX1_sort_2 15 rfl rfl)
theorem dX1_sort_63 : decode cX1_sort 63 = .ok (.if_icmp .ge 41, 3) := dk_162 0 41 (dk_at dksX1_sort_2 18 rfl rfl)
theorem dX1_sort_66 : decode cX1_sort 66 = .ok (.aload_n 0, 1) := dk_42 (dk_at dksX1_sort_2 21 rfl rfl)
theorem dX1_sort_67 : decode cX1_sort 67 = .ok (.iload 7, 2) := dk_21 7 (dk_at dksX1_sort_2 22 rfl rfl)
theorem dX1_sort_69 : decode cX1_sort 69 = .ok (.iload 5, 2) := dk_21 5 (dk_at dksX1_sort_3 0 rfl rfl)
theorem dX1_sort_71 : decode cX1_sort 71 = .ok (.invokevirtual 38, 3) := dk_182 0 38 (dk_at dksX1_sort_3 2 rfl rfl)
theorem dX1_sort_74 : decode cX1_sort 74 = .ok (.ifCond .ne 21, 3) := dk_154 0 21 (dk_at dksX1_sort_3 5 rfl rfl)
theorem dX1_sort_77 : decode cX1_sort 77 = .ok (.iload 7, 2) := dk_21 7 (dk_at dksX1_sort_3 8 rfl rfl)
theorem dX1_sort_79 : decode cX1_sort 79 = .ok (.iload 5, 2) := dk_21 5 (dk_at dksX1_sort_3 10 rfl rfl)
theorem dX1_sort_81 : decode cX1_sort 81 = .ok (.if_icmp .ge 17, 3) := dk_162 0 17 (dk_at dksX1_sort_3 12 rfl rfl)
theorem dX1_sort_84 : decode cX1_sort 84 = .ok (.aload_n 0, 1) := dk_42 (dk_at dksX1_sort_3 15 rfl rfl)
theorem dX1_sort_85 : decode cX1_sort 85 = .ok (.iload 5, 2) := dk_21 5 (dk_at dksX1_sort_3 16 rfl rfl)
theorem dX1_sort_87 : decode cX1_sort 87 = .ok (.iload 7, 2) := dk_21 7 (dk_at dksX1_sort_3 18 rfl rfl)
theorem dX1_sort_89 : decode cX1_sort 89 = .ok (.invokevirtual 38, 3) := dk_182 0 38 (dk_at dksX1_sort_3 20 rfl rfl)
theorem dX1_sort_92 : decode cX1_sort 92 = .ok (.ifCond .ne 6, 3) := dk_154 0 6 (dk_at dksX1_sort_4 0 rfl rfl)
theorem dX1_sort_95 : decode cX1_sort 95 = .ok (.iinc 6 1, 3) := dk_132 6 1 (dk_at dksX1_sort_4 3 rfl rfl)
theorem dX1_sort_98 : decode cX1_sort 98 = .ok (.iinc 7 1, 3) := dk_132 7 1 (dk_at dksX1_sort_4 6 rfl rfl)
theorem dX1_sort_101 : decode cX1_sort 101 = .ok (.goto (-45), 3) := dk_167 255 211 (dk_at dksX1_sort_4 9 rfl rfl)
theorem dX1_sort_104 : decode cX1_sort 104 = .ok (.aload_n 3, 1) := dk_45 (dk_at dksX1_sort_4 12 rfl rfl)
theorem dX1_sort_105 : decode cX1_sort 105 = .ok (.iload 6, 2) := dk_21 6 (dk_at dksX1_sort_4 13 rfl rfl)
theorem dX1_sort_107 : decode cX1_sort 107 = .ok (.aload_n 0, 1) := dk_42 (dk_at dksX1_sort_4 15 rfl rfl)
theorem dX1_sort_108 : decode cX1_sort 108 = .ok (.getfield 9, 3) := dk_180 0 9 (dk_at dksX1_sort_4 16 rfl rfl)
theorem dX1_sort_111 : decode cX1_sort 111 = .ok (.iload 5, 2) := dk_21 5 (dk_at dksX1_sort_4 19 rfl rfl)
theorem dX1_sort_113 : decode cX1_sort 113 = .ok (.iaload, 1) := dk_46 (dk_at dksX1_sort_4 21 rfl rfl)
theorem dX1_sort_114 : decode cX1_sort 114 = .ok (.iastore, 1) := dk_79 (dk_at dksX1_sort_4 22 rfl rfl)
theorem dX1_sort_115 : decode cX1_sort 115 = .ok (.aload 4, 2) := dk_25 4 (dk_at dksX1_sort_5 0 rfl rfl)
theorem dX1_sort_117 : decode cX1_sort 117 = .ok (.iload 6, 2) := dk_21 6 (dk_at dksX1_sort_5 2 rfl rfl)
theorem dX1_sort_119 : decode cX1_sort 119 = .ok (.aload_n 0, 1) := dk_42 (dk_at dksX1_sort_5 4 rfl rfl)
theorem dX1_sort_120 : decode cX1_sort 120 = .ok (.getfield 13, 3) := dk_180 0 13 (dk_at dksX1_sort_5 5 rfl rfl)
theorem dX1_sort_123 : decode cX1_sort 123 = .ok (.iload 5, 2) := dk_21 5 (dk_at dksX1_sort_5 8 rfl rfl)
theorem dX1_sort_125 : decode cX1_sort 125 = .ok (.iaload, 1) := dk_46 (dk_at dksX1_sort_5 10 rfl rfl)
theorem dX1_sort_126 : decode cX1_sort 126 = .ok (.iastore, 1) := dk_79 (dk_at dksX1_sort_5 11 rfl rfl)
theorem dX1_sort_127 : decode cX1_sort 127 = .ok (.iinc 5 1, 3) := dk_132 5 1 (dk_at dksX1_sort_5 12 rfl rfl)
theorem dX1_sort_130 : decode cX1_sort 130 = .ok (.goto (-116), 3) := dk_167 255 140 (dk_at dksX1_sort_5 15 rfl rfl)
theorem dX1_sort_133 : decode cX1_sort 133 = .ok (.aload_n 0, 1) := dk_42 (dk_at dksX1_sort_5 18 rfl rfl)
theorem dX1_sort_134 : decode cX1_sort 134 = .ok (.aload_n 3, 1) := dk_45 (dk_at dksX1_sort_5 19 rfl rfl)
theorem dX1_sort_135 : decode cX1_sort 135 = .ok (.putfield 9, 3) := dk_181 0 9 (dk_at dksX1_sort_5 20 rfl rfl)
theorem dX1_sort_138 : decode cX1_sort 138 = .ok (.aload_n 0, 1) := dk_42 (dk_at dksX1_sort_5 23 rfl rfl)
theorem dX1_sort_139 : decode cX1_sort 139 = .ok (.aload 4, 2) := dk_25 4 (dk_at dksX1_sort_6 0 rfl rfl)
theorem dX1_sort_141 : decode cX1_sort 141 = .ok (.putfield 13, 3) := dk_181 0 13 (dk_at dksX1_sort_6 2 rfl rfl)
theorem dX1_sort_144 : decode cX1_sort 144 = .ok (.return_, 1) := dk_177 (dk_at dksX1_sort_6 5 rfl rfl)
abbrev cX1_from : ByteArray := prog_4_method_3_code
def yX1_from : MethodName := ⟨RX1, "from", "(I)I"⟩
def dkwX1_from_0 : List UInt8 := [26, 184, 0, 23, 16, 49, 112, 172]
abbrev dktX1_from_0 : List UInt8 := dkwX1_from_0 ++ []
theorem dksX1_from_0 : cX1_from.data.toList.drop 0 = dktX1_from_0 := by decide +kernel
theorem dX1_from_0 : decode cX1_from 0 = .ok (.iload_n 0, 1) := dk_26 (dk_at dksX1_from_0 0 rfl rfl)
theorem dX1_from_1 : decode cX1_from 1 = .ok (.invokestatic 23, 3) := dk_184 0 23 (dk_at dksX1_from_0 1 rfl rfl)
theorem dX1_from_4 : decode cX1_from 4 = .ok (.bipush 49, 2) := dk_16 49 (dk_at dksX1_from_0 4 rfl rfl)
theorem dX1_from_6 : decode cX1_from 6 = .ok (.irem, 1) := dk_112 (dk_at dksX1_from_0 6 rfl rfl)
theorem dX1_from_7 : decode cX1_from 7 = .ok (.ireturn, 1) := dk_172 (dk_at dksX1_from_0 7 rfl rfl)
abbrev cX1_to : ByteArray := prog_4_method_4_code
def yX1_to : MethodName := ⟨RX1, "to", "(II)I"⟩
def dkwX1_to_0 : List UInt8 := [26, 184, 0, 27, 27, 184, 0, 23, 16, 49, 26, 184, 0, 27, 100, 112, 96, 172]
abbrev dktX1_to_0 : List UInt8 := dkwX1_to_0 ++ []
theorem dksX1_to_0 : cX1_to.data.toList.drop 0 = dktX1_to_0 := by decide +kernel
theorem dX1_to_0 : decode cX1_to 0 = .ok (.iload_n 0, 1) := dk_26 (dk_at dksX1_to_0 0 rfl rfl)
theorem dX1_to_1 : decode cX1_to 1 = .ok (.invokestatic 27, 3) := dk_184 0 27 (dk_at dksX1_to_0 1 rfl rfl)
theorem dX1_to_4 : decode cX1_to 4 = .ok (.iload_n 1, 1) := dk_27 (dk_at dksX1_to_0 4 rfl rfl)
theorem dX1_to_5 : decode cX1_to 5 = .ok (.invokestatic 23, 3) := dk_184 0 23 (dk_at dksX1_to_0 5 rfl rfl)
theorem dX1_to_8 : decode cX1_to 8 = .ok (.bipush 49, 2) := dk_16 49 (dk_at dksX1_to_0 8 rfl rfl)
theorem dX1_to_10 : decode cX1_to 10 = .ok (.iload_n 0, 1) := dk_26 (dk_at dksX1_to_0 10 rfl rfl)
theorem dX1_to_11 : decode cX1_to 11 = .ok (.invokestatic 27, 3) := dk_184 0 27 (dk_at dksX1_to_0 11 rfl rfl)
theorem dX1_to_14 : decode cX1_to 14 = .ok (.isub, 1) := dk_100 (dk_at dksX1_to_0 14 rfl rfl)
theorem dX1_to_15 : decode cX1_to 15 = .ok (.irem, 1) := dk_112 (dk_at dksX1_to_0 15 rfl rfl)
theorem dX1_to_16 : decode cX1_to 16 = .ok (.iadd, 1) := dk_96 (dk_at dksX1_to_0 16 rfl rfl)
theorem dX1_to_17 : decode cX1_to 17 = .ok (.ireturn, 1) := dk_172 (dk_at dksX1_to_0 17 rfl rfl)
abbrev cX1_less : ByteArray := prog_4_method_11_code
def yX1_less : MethodName := ⟨RX1, "less", "(II)Z"⟩
def dkwX1_less_2 : List UInt8 := [167, 0, 4, 3, 172]
abbrev dktX1_less_2 : List UInt8 := dkwX1_less_2 ++ []
def dkwX1_less_1 : List UInt8 := [180, 0, 9, 28, 46, 160, 0, 22, 42, 180, 0, 13, 27, 46, 42, 180, 0, 13, 28, 46, 162, 0, 7, 4]
abbrev dktX1_less_1 : List UInt8 := dkwX1_less_1 ++ dktX1_less_2
def dkwX1_less_0 : List UInt8 := [42, 180, 0, 9, 27, 46, 42, 180, 0, 9, 28, 46, 161, 0, 33, 42, 180, 0, 9, 27, 46, 42]
abbrev dktX1_less_0 : List UInt8 := dkwX1_less_0 ++ dktX1_less_1
theorem dksX1_less_0 : cX1_less.data.toList.drop 0 = dktX1_less_0 := by decide +kernel
theorem dksX1_less_1 : cX1_less.data.toList.drop 22 = dktX1_less_1 := dk_seg dksX1_less_0 22 rfl rfl
theorem dksX1_less_2 : cX1_less.data.toList.drop 46 = dktX1_less_2 := dk_seg dksX1_less_1 24 rfl rfl
theorem dX1_less_0 : decode cX1_less 0 = .ok (.aload_n 0, 1) := dk_42 (dk_at dksX1_less_0 0 rfl rfl)
theorem dX1_less_1 : decode cX1_less 1 = .ok (.getfield 9, 3) := dk_180 0 9 (dk_at dksX1_less_0 1 rfl rfl)
theorem dX1_less_4 : decode cX1_less 4 = .ok (.iload_n 1, 1) := dk_27 (dk_at dksX1_less_0 4 rfl rfl)
theorem dX1_less_5 : decode cX1_less 5 = .ok (.iaload, 1) := dk_46 (dk_at dksX1_less_0 5 rfl rfl)
theorem dX1_less_6 : decode cX1_less 6 = .ok (.aload_n 0, 1) := dk_42 (dk_at dksX1_less_0 6 rfl rfl)
theorem dX1_less_7 : decode cX1_less 7 = .ok (.getfield 9, 3) := dk_180 0 9 (dk_at dksX1_less_0 7 rfl rfl)
theorem dX1_less_10 : decode cX1_less 10 = .ok (.iload_n 2, 1) := dk_28 (dk_at dksX1_less_0 10 rfl rfl)
theorem dX1_less_11 : decode cX1_less 11 = .ok (.iaload, 1) := dk_46 (dk_at dksX1_less_0 11 rfl rfl)
theorem dX1_less_12 : decode cX1_less 12 = .ok (.if_icmp .lt 33, 3) := dk_161 0 33 (dk_at dksX1_less_0 12 rfl rfl)
theorem dX1_less_15 : decode cX1_less 15 = .ok (.aload_n 0, 1) := dk_42 (dk_at dksX1_less_0 15 rfl rfl)
theorem dX1_less_16 : decode cX1_less 16 = .ok (.getfield 9, 3) := dk_180 0 9 (dk_at dksX1_less_0 16 rfl rfl)
theorem dX1_less_19 : decode cX1_less 19 = .ok (.iload_n 1, 1) := dk_27 (dk_at dksX1_less_0 19 rfl rfl)
theorem dX1_less_20 : decode cX1_less 20 = .ok (.iaload, 1) := dk_46 (dk_at dksX1_less_0 20 rfl rfl)
theorem dX1_less_21 : decode cX1_less 21 = .ok (.aload_n 0, 1) := dk_42 (dk_at dksX1_less_0 21 rfl rfl)
theorem dX1_less_22 : decode cX1_less 22 = .ok (.getfield 9, 3) := dk_180 0 9 (dk_at dksX1_less_1 0 rfl rfl)
theorem dX1_less_25 : decode cX1_less 25 = .ok (.iload_n 2, 1) := dk_28 (dk_at dksX1_less_1 3 rfl rfl)
theorem dX1_less_26 : decode cX1_less 26 = .ok (.iaload, 1) := dk_46 (dk_at dksX1_less_1 4 rfl rfl)
theorem dX1_less_27 : decode cX1_less 27 = .ok (.if_icmp .ne 22, 3) := dk_160 0 22 (dk_at dksX1_less_1 5 rfl rfl)
theorem dX1_less_30 : decode cX1_less 30 = .ok (.aload_n 0, 1) := dk_42 (dk_at dksX1_less_1 8 rfl rfl)
theorem dX1_less_31 : decode cX1_less 31 = .ok (.getfield 13, 3) := dk_180 0 13 (dk_at dksX1_less_1 9 rfl rfl)
theorem dX1_less_34 : decode cX1_less 34 = .ok (.iload_n 1, 1) := dk_27 (dk_at dksX1_less_1 12 rfl rfl)
theorem dX1_less_35 : decode cX1_less 35 = .ok (.iaload, 1) := dk_46 (dk_at dksX1_less_1 13 rfl rfl)
theorem dX1_less_36 : decode cX1_less 36 = .ok (.aload_n 0, 1) := dk_42 (dk_at dksX1_less_1 14 rfl rfl)
theorem dX1_less_37 : decode cX1_less 37 = .ok (.getfield 13, 3) := dk_180 0 13 (dk_at dksX1_less_1 15 rfl rfl)
theorem dX1_less_40 : decode cX1_less 40 = .ok (.iload_n 2, 1) := dk_28 (dk_at dksX1_less_1 18 rfl rfl)
theorem dX1_less_41 : decode cX1_less 41 = .ok (.iaload, 1) := dk_46 (dk_at dksX1_less_1 19 rfl rfl)
theorem dX1_less_42 : decode cX1_less 42 = .ok (.if_icmp .ge 7, 3) := dk_162 0 7 (dk_at dksX1_less_1 20 rfl rfl)
theorem dX1_less_45 : decode cX1_less 45 = .ok (.iconst 1, 1) := dk_4 (dk_at dksX1_less_1 23 rfl rfl)
theorem dX1_less_46 : decode cX1_less 46 = .ok (.goto 4, 3) := dk_167 0 4 (dk_at dksX1_less_2 0 rfl rfl)
theorem dX1_less_49 : decode cX1_less 49 = .ok (.iconst 0, 1) := dk_3 (dk_at dksX1_less_2 3 rfl rfl)
theorem dX1_less_50 : decode cX1_less 50 = .ok (.ireturn, 1) := dk_172 (dk_at dksX1_less_2 4 rfl rfl)
abbrev cX1_radix : ByteArray := prog_4_method_14_code
def yX1_radix : MethodName := ⟨RX1, "radix", "(II)V"⟩
def dkwX1_radix_0 : List UInt8 := [42, 27, 28, 182, 0, 42, 177]
abbrev dktX1_radix_0 : List UInt8 := dkwX1_radix_0 ++ []
theorem dksX1_radix_0 : cX1_radix.data.toList.drop 0 = dktX1_radix_0 := by decide +kernel
theorem dX1_radix_0 : decode cX1_radix 0 = .ok (.aload_n 0, 1) := dk_42 (dk_at dksX1_radix_0 0 rfl rfl)
theorem dX1_radix_1 : decode cX1_radix 1 = .ok (.iload_n 1, 1) := dk_27 (dk_at dksX1_radix_0 1 rfl rfl)
theorem dX1_radix_2 : decode cX1_radix 2 = .ok (.iload_n 2, 1) := dk_28 (dk_at dksX1_radix_0 2 rfl rfl)
theorem dX1_radix_3 : decode cX1_radix 3 = .ok (.invokevirtual 42, 3) := dk_182 0 42 (dk_at dksX1_radix_0 3 rfl rfl)
theorem dX1_radix_6 : decode cX1_radix 6 = .ok (.return_, 1) := dk_177 (dk_at dksX1_radix_0 6 rfl rfl)
abbrev cX1_indirect : ByteArray := prog_4_method_15_code
def yX1_indirect : MethodName := ⟨RX1, "indirect", "(II)V"⟩
def dkwX1_indirect_5 : List UInt8 := [167, 255, 147, 42, 45, 181, 0, 16, 177]
abbrev dktX1_indirect_5 : List UInt8 := dkwX1_indirect_5 ++ []
def dkwX1_indirect_4 : List UInt8 := [182, 0, 38, 154, 0, 6, 132, 5, 1, 132, 6, 1, 167, 255, 211, 45, 21, 5, 21, 4, 79, 132, 4, 1]
abbrev dktX1_indirect_4 : List UInt8 := dkwX1_indirect_4 ++ dktX1_indirect_5
def dkwX1_indirect_3 : List UInt8 := [21, 6, 21, 4, 182, 0, 38, 154, 0, 21, 21, 6, 21, 4, 162, 0, 17, 42, 21, 4, 21, 6]
abbrev dktX1_indirect_3 : List UInt8 := dkwX1_indirect_3 ++ dktX1_indirect_4
def dkwX1_indirect_2 : List UInt8 := [27, 184, 0, 27, 54, 5, 27, 184, 0, 27, 54, 6, 21, 6, 27, 28, 184, 0, 34, 162, 0, 41, 42]
abbrev dktX1_indirect_2 : List UInt8 := dkwX1_indirect_2 ++ dktX1_indirect_3
def dkwX1_indirect_1 : List UInt8 := [21, 4, 27, 28, 184, 0, 34, 161, 0, 17, 45, 21, 4, 42, 180, 0, 16, 21, 4, 46, 79, 167, 0, 69]
abbrev dktX1_indirect_1 : List UInt8 := dkwX1_indirect_1 ++ dktX1_indirect_2
def dkwX1_indirect_0 : List UInt8 := [16, 48, 188, 10, 78, 3, 54, 4, 21, 4, 16, 48, 162, 0, 108, 21, 4, 27, 184, 0, 27, 161, 0, 13]
abbrev dktX1_indirect_0 : List UInt8 := dkwX1_indirect_0 ++ dktX1_indirect_1
theorem dksX1_indirect_0 : cX1_indirect.data.toList.drop 0 = dktX1_indirect_0 := by decide +kernel
theorem dksX1_indirect_1 : cX1_indirect.data.toList.drop 24 = dktX1_indirect_1 := dk_seg dksX1_indirect_0 24 rfl rfl
theorem dksX1_indirect_2 : cX1_indirect.data.toList.drop 48 = dktX1_indirect_2 := dk_seg dksX1_indirect_1 24 rfl rfl
theorem dksX1_indirect_3 : cX1_indirect.data.toList.drop 71 = dktX1_indirect_3 := dk_seg dksX1_indirect_2 23 rfl rfl
theorem dksX1_indirect_4 : cX1_indirect.data.toList.drop 93 = dktX1_indirect_4 := dk_seg dksX1_indirect_3 22 rfl rfl
theorem dksX1_indirect_5 : cX1_indirect.data.toList.drop 117 = dktX1_indirect_5 := dk_seg dksX1_indirect_4 24 rfl rfl
theorem dX1_indirect_0 : decode cX1_indirect 0 = .ok (.bipush 48, 2) := dk_16 48 (dk_at dksX1_indirect_0 0 rfl rfl)
theorem dX1_indirect_2 : decode cX1_indirect 2 = .ok (.newarray .int, 2) := dk_188_10 (dk_at dksX1_indirect_0 2 rfl rfl)
theorem dX1_indirect_4 : decode cX1_indirect 4 = .ok (.astore_n 3, 1) := dk_78 (dk_at dksX1_indirect_0 4 rfl rfl)
theorem dX1_indirect_5 : decode cX1_indirect 5 = .ok (.iconst 0, 1) := dk_3 (dk_at dksX1_indirect_0 5 rfl rfl)
theorem dX1_indirect_6 : decode cX1_indirect 6 = .ok (.istore 4, 2) := dk_54 4 (dk_at dksX1_indirect_0 6 rfl rfl)
theorem dX1_indirect_8 : decode cX1_indirect 8 = .ok (.iload 4, 2) := dk_21 4 (dk_at dksX1_indirect_0 8 rfl rfl)
theorem dX1_indirect_10 : decode cX1_indirect 10 = .ok (.bipush 48, 2) := dk_16 48 (dk_at dksX1_indirect_0 10 rfl rfl)
theorem dX1_indirect_12 : decode cX1_indirect 12 = .ok (.if_icmp .ge 108, 3) := dk_162 0 108 (dk_at dksX1_indirect_0 12 rfl rfl)
theorem dX1_indirect_15 : decode cX1_indirect 15 = .ok (.iload 4, 2) := dk_21 4 (dk_at dksX1_indirect_0 15 rfl rfl)
theorem dX1_indirect_17 : decode cX1_indirect 17 = .ok (.iload_n 1, 1) := dk_27 (dk_at dksX1_indirect_0 17 rfl rfl)
theorem dX1_indirect_18 : decode cX1_indirect 18 = .ok (.invokestatic 27, 3) := dk_184 0 27 (dk_at dksX1_indirect_0 18 rfl rfl)
theorem dX1_indirect_21 : decode cX1_indirect 21 = .ok (.if_icmp .lt 13, 3) := dk_161 0 13 (dk_at dksX1_indirect_0 21 rfl rfl)
theorem dX1_indirect_24 : decode cX1_indirect 24 = .ok (.iload 4, 2) := dk_21 4 (dk_at dksX1_indirect_1 0 rfl rfl)
theorem dX1_indirect_26 : decode cX1_indirect 26 = .ok (.iload_n 1, 1) := dk_27 (dk_at dksX1_indirect_1 2 rfl rfl)
theorem dX1_indirect_27 : decode cX1_indirect 27 = .ok (.iload_n 2, 1) := dk_28 (dk_at dksX1_indirect_1 3 rfl rfl)
theorem dX1_indirect_28 : decode cX1_indirect 28 = .ok (.invokestatic 34, 3) := dk_184 0 34 (dk_at dksX1_indirect_1 4 rfl rfl)
theorem dX1_indirect_31 : decode cX1_indirect 31 = .ok (.if_icmp .lt 17, 3) := dk_161 0 17 (dk_at dksX1_indirect_1 7 rfl rfl)
theorem dX1_indirect_34 : decode cX1_indirect 34 = .ok (.aload_n 3, 1) := dk_45 (dk_at dksX1_indirect_1 10 rfl rfl)
theorem dX1_indirect_35 : decode cX1_indirect 35 = .ok (.iload 4, 2) := dk_21 4 (dk_at dksX1_indirect_1 11 rfl rfl)
theorem dX1_indirect_37 : decode cX1_indirect 37 = .ok (.aload_n 0, 1) := dk_42 (dk_at dksX1_indirect_1 13 rfl rfl)
theorem dX1_indirect_38 : decode cX1_indirect 38 = .ok (.getfield 16, 3) := dk_180 0 16 (dk_at dksX1_indirect_1 14 rfl rfl)
theorem dX1_indirect_41 : decode cX1_indirect 41 = .ok (.iload 4, 2) := dk_21 4 (dk_at dksX1_indirect_1 17 rfl rfl)
theorem dX1_indirect_43 : decode cX1_indirect 43 = .ok (.iaload, 1) := dk_46 (dk_at dksX1_indirect_1 19 rfl rfl)
theorem dX1_indirect_44 : decode cX1_indirect 44 = .ok (.iastore, 1) := dk_79 (dk_at dksX1_indirect_1 20 rfl rfl)
theorem dX1_indirect_45 : decode cX1_indirect 45 = .ok (.goto 69, 3) := dk_167 0 69 (dk_at dksX1_indirect_1 21 rfl rfl)
theorem dX1_indirect_48 : decode cX1_indirect 48 = .ok (.iload_n 1, 1) := dk_27 (dk_at dksX1_indirect_2 0 rfl rfl)
theorem dX1_indirect_49 : decode cX1_indirect 49 = .ok (.invokestatic 27, 3) := dk_184 0 27 (dk_at dksX1_indirect_2 1 rfl rfl)
theorem dX1_indirect_52 : decode cX1_indirect 52 = .ok (.istore 5, 2) := dk_54 5 (dk_at dksX1_indirect_2 4 rfl rfl)
theorem dX1_indirect_54 : decode cX1_indirect 54 = .ok (.iload_n 1, 1) := dk_27 (dk_at dksX1_indirect_2 6 rfl rfl)
theorem dX1_indirect_55 : decode cX1_indirect 55 = .ok (.invokestatic 27, 3) := dk_184 0 27 (dk_at dksX1_indirect_2 7 rfl rfl)
theorem dX1_indirect_58 : decode cX1_indirect 58 = .ok (.istore 6, 2) := dk_54 6 (dk_at dksX1_indirect_2 10 rfl rfl)
theorem dX1_indirect_60 : decode cX1_indirect 60 = .ok (.iload 6, 2) := dk_21 6 (dk_at dksX1_indirect_2 12 rfl rfl)
theorem dX1_indirect_62 : decode cX1_indirect 62 = .ok (.iload_n 1, 1) := dk_27 (dk_at dksX1_indirect_2 14 rfl rfl)
theorem dX1_indirect_63 : decode cX1_indirect 63 = .ok (.iload_n 2, 1) := dk_28 (dk_at dksX1_indirect_2 15 rfl rfl)
theorem dX1_indirect_64 : decode cX1_indirect 64 = .ok (.invokestatic 34, 3) := dk_184 0 34 (dk_at dksX1_indirect_2 16 rfl rfl)
theorem dX1_indirect_67 : decode cX1_indirect 67 = .ok (.if_icmp .ge 41, 3) := dk_162 0 41 (dk_at dksX1_indirect_2 19 rfl rfl)
theorem dX1_indirect_70 : decode cX1_indirect 70 = .ok (.aload_n 0, 1) := dk_42 (dk_at dksX1_indirect_2 22 rfl rfl)
theorem dX1_indirect_71 : decode cX1_indirect 71 = .ok (.iload 6, 2) := dk_21 6 (dk_at dksX1_indirect_3 0 rfl rfl)
theorem dX1_indirect_73 : decode cX1_indirect 73 = .ok (.iload 4, 2) := dk_21 4 (dk_at dksX1_indirect_3 2 rfl rfl)
theorem dX1_indirect_75 : decode cX1_indirect 75 = .ok (.invokevirtual 38, 3) := dk_182 0 38 (dk_at dksX1_indirect_3 4 rfl rfl)
theorem dX1_indirect_78 : decode cX1_indirect 78 = .ok (.ifCond .ne 21, 3) := dk_154 0 21 (dk_at dksX1_indirect_3 7 rfl rfl)
theorem dX1_indirect_81 : decode cX1_indirect 81 = .ok (.iload 6, 2) := dk_21 6 (dk_at dksX1_indirect_3 10 rfl rfl)
theorem dX1_indirect_83 : decode cX1_indirect 83 = .ok (.iload 4, 2) := dk_21 4 (dk_at dksX1_indirect_3 12 rfl rfl)
theorem dX1_indirect_85 : decode cX1_indirect 85 = .ok (.if_icmp .ge 17, 3) := dk_162 0 17 (dk_at dksX1_indirect_3 14 rfl rfl)
theorem dX1_indirect_88 : decode cX1_indirect 88 = .ok (.aload_n 0, 1) := dk_42 (dk_at dksX1_indirect_3 17 rfl rfl)
theorem dX1_indirect_89 : decode cX1_indirect 89 = .ok (.iload 4, 2) := dk_21 4 (dk_at dksX1_indirect_3 18 rfl rfl)
theorem dX1_indirect_91 : decode cX1_indirect 91 = .ok (.iload 6, 2) := dk_21 6 (dk_at dksX1_indirect_3 20 rfl rfl)
theorem dX1_indirect_93 : decode cX1_indirect 93 = .ok (.invokevirtual 38, 3) := dk_182 0 38 (dk_at dksX1_indirect_4 0 rfl rfl)
theorem dX1_indirect_96 : decode cX1_indirect 96 = .ok (.ifCond .ne 6, 3) := dk_154 0 6 (dk_at dksX1_indirect_4 3 rfl rfl)
theorem dX1_indirect_99 : decode cX1_indirect 99 = .ok (.iinc 5 1, 3) := dk_132 5 1 (dk_at dksX1_indirect_4 6 rfl rfl)
theorem dX1_indirect_102 : decode cX1_indirect 102 = .ok (.iinc 6 1, 3) := dk_132 6 1 (dk_at dksX1_indirect_4 9 rfl rfl)
theorem dX1_indirect_105 : decode cX1_indirect 105 = .ok (.goto (-45), 3) := dk_167 255 211 (dk_at dksX1_indirect_4 12 rfl rfl)
theorem dX1_indirect_108 : decode cX1_indirect 108 = .ok (.aload_n 3, 1) := dk_45 (dk_at dksX1_indirect_4 15 rfl rfl)
theorem dX1_indirect_109 : decode cX1_indirect 109 = .ok (.iload 5, 2) := dk_21 5 (dk_at dksX1_indirect_4 16 rfl rfl)
theorem dX1_indirect_111 : decode cX1_indirect 111 = .ok (.iload 4, 2) := dk_21 4 (dk_at dksX1_indirect_4 18 rfl rfl)
theorem dX1_indirect_113 : decode cX1_indirect 113 = .ok (.iastore, 1) := dk_79 (dk_at dksX1_indirect_4 20 rfl rfl)
theorem dX1_indirect_114 : decode cX1_indirect 114 = .ok (.iinc 4 1, 3) := dk_132 4 1 (dk_at dksX1_indirect_4 21 rfl rfl)
theorem dX1_indirect_117 : decode cX1_indirect 117 = .ok (.goto (-109), 3) := dk_167 255 147 (dk_at dksX1_indirect_5 0 rfl rfl)
theorem dX1_indirect_120 : decode cX1_indirect 120 = .ok (.aload_n 0, 1) := dk_42 (dk_at dksX1_indirect_5 3 rfl rfl)
theorem dX1_indirect_121 : decode cX1_indirect 121 = .ok (.aload_n 3, 1) := dk_45 (dk_at dksX1_indirect_5 4 rfl rfl)
theorem dX1_indirect_122 : decode cX1_indirect 122 = .ok (.putfield 16, 3) := dk_181 0 16 (dk_at dksX1_indirect_5 5 rfl rfl)
theorem dX1_indirect_125 : decode cX1_indirect 125 = .ok (.return_, 1) := dk_177 (dk_at dksX1_indirect_5 8 rfl rfl)
theorem q6 : (Jvm.Cond.initialized "PairSortDeskModel") ∈ lw_all := lw_g (lw_at lw_m0 2 rfl) rfl
theorem q115 : (Jvm.Cond.instantiable "PairSortDeskModel" (3 : Nat)) ∈ lw_all := lw_g (lw_at lw_m0 111 rfl) rfl
theorem q117 : (Jvm.Cond.instanceMethod ({ cls := "PairSortDeskModel", name := "<init>", desc := "()V" } : Jvm.MethodName)) ∈ lw_all := lw_g (lw_at lw_m0 113 rfl) rfl
theorem q118 : (Jvm.Cond.code ({ cls := "PairSortDeskModel", name := "<init>", desc := "()V" } : Jvm.MethodName) prog_4_method_1_code (1 : Nat) (Option.none : Option Jvm.ClassFile.FieldType)) ∈ lw_all := lw_g (lw_at lw_m0 114 rfl) rfl
theorem q119 : (Jvm.Cond.methodLink "PairSortDeskModel" (1 : Nat) ({ cls := "java/lang/Object", name := "<init>", desc := "()V" } : Jvm.MethodName)) ∈ lw_all := lw_g (lw_at lw_m0 115 rfl) rfl
theorem q120 : (Jvm.Cond.methodLink "PairSortDeskModel" (19 : Nat) ({ cls := "PairSortDeskModel", name := "anew", desc := "()V" } : Jvm.MethodName)) ∈ lw_all := lw_g (lw_at lw_m0 116 rfl) rfl
theorem q121 : (Jvm.Cond.instanceMethod ({ cls := "PairSortDeskModel", name := "anew", desc := "()V" } : Jvm.MethodName)) ∈ lw_all := lw_g (lw_at lw_m0 117 rfl) rfl
theorem q122 : (Jvm.Cond.selects "PairSortDeskModel" ({ cls := "PairSortDeskModel", name := "anew", desc := "()V" } : Jvm.MethodName) ({ cls := "PairSortDeskModel", name := "anew", desc := "()V" } : Jvm.MethodName)) ∈ lw_all := lw_g (lw_at lw_m0 118 rfl) rfl
theorem q123 : (Jvm.Cond.code ({ cls := "PairSortDeskModel", name := "anew", desc := "()V" } : Jvm.MethodName) prog_4_method_5_code (2 : Nat) (Option.none : Option Jvm.ClassFile.FieldType)) ∈ lw_all := lw_g (lw_at lw_m0 119 rfl) rfl
theorem q124 : (Jvm.Cond.fieldLink "PairSortDeskModel" (9 : Nat) "PairSortDeskModel" "first" "[I") ∈ lw_all := lw_g (lw_at lw_m0 120 rfl) rfl
theorem q125 : (Jvm.Cond.fieldLink "PairSortDeskModel" (13 : Nat) "PairSortDeskModel" "second" "[I") ∈ lw_all := lw_g (lw_at lw_m0 121 rfl) rfl
theorem q126 : (Jvm.Cond.fieldLink "PairSortDeskModel" (16 : Nat) "PairSortDeskModel" "places" "[I") ∈ lw_all := lw_g (lw_at lw_m0 122 rfl) rfl
theorem q127 : (Jvm.Cond.lays "PairSortDeskModel" "PairSortDeskModel" "first" "[I") ∈ lw_all := lw_g (lw_at lw_m0 123 rfl) rfl
theorem q128 : (Jvm.Cond.soleField "PairSortDeskModel" "first") ∈ lw_all := lw_g (lw_at lw_m0 124 rfl) rfl
theorem q129 : (Jvm.Cond.lays "PairSortDeskModel" "PairSortDeskModel" "second" "[I") ∈ lw_all := lw_g (lw_at lw_m0 125 rfl) rfl
theorem q130 : (Jvm.Cond.soleField "PairSortDeskModel" "second") ∈ lw_all := lw_g (lw_at lw_m0 126 rfl) rfl
theorem q131 : (Jvm.Cond.lays "PairSortDeskModel" "PairSortDeskModel" "places" "[I") ∈ lw_all := lw_g (lw_at lw_m0 127 rfl) rfl
theorem q132 : (Jvm.Cond.soleField "PairSortDeskModel" "places") ∈ lw_all := lw_g (lw_at lw_m0 128 rfl) rfl
theorem q133 : (Jvm.Cond.superclass "PairSortDeskModel" "java/lang/Object") ∈ lw_all := lw_g (lw_at lw_m0 129 rfl) rfl
theorem q136 : (Jvm.Cond.instanceMethod ({ cls := "PairSortDeskModel", name := "set", desc := "(III)V" } : Jvm.MethodName)) ∈ lw_all := lw_g (lw_at lw_m0 132 rfl) rfl
theorem q137 : (Jvm.Cond.selects "PairSortDeskModel" ({ cls := "PairSortDeskModel", name := "set", desc := "(III)V" } : Jvm.MethodName) ({ cls := "PairSortDeskModel", name := "set", desc := "(III)V" } : Jvm.MethodName)) ∈ lw_all := lw_g (lw_at lw_m0 133 rfl) rfl
theorem q138 : (Jvm.Cond.code ({ cls := "PairSortDeskModel", name := "set", desc := "(III)V" } : Jvm.MethodName) prog_4_method_6_code (4 : Nat) (Option.none : Option Jvm.ClassFile.FieldType)) ∈ lw_all := lw_g (lw_at lw_m0 134 rfl) rfl
theorem q139 : (Jvm.Cond.methodLink "PairSortDeskModel" (23 : Nat) ({ cls := "PairSortDeskModel", name := "plain", desc := "(I)I" } : Jvm.MethodName)) ∈ lw_all := lw_g (lw_at lw_m0 135 rfl) rfl
theorem q140 : (Jvm.Cond.static ({ cls := "PairSortDeskModel", name := "plain", desc := "(I)I" } : Jvm.MethodName)) ∈ lw_all := lw_g (lw_at lw_m0 136 rfl) rfl
theorem q141 : (Jvm.Cond.code ({ cls := "PairSortDeskModel", name := "plain", desc := "(I)I" } : Jvm.MethodName) prog_4_method_2_code (1 : Nat) (Option.some Jvm.ClassFile.FieldType.int)) ∈ lw_all := lw_g (lw_at lw_m0 137 rfl) rfl
theorem q142 : (Jvm.Cond.constant "PairSortDeskModel" (22 : Nat) (2147483647 : Int32)) ∈ lw_all := lw_g (lw_at lw_m0 138 rfl) rfl
theorem q144 : (Jvm.Cond.instanceMethod ({ cls := "PairSortDeskModel", name := "few", desc := "(III)V" } : Jvm.MethodName)) ∈ lw_all := lw_g (lw_at lw_m0 140 rfl) rfl
theorem q145 : (Jvm.Cond.selects "PairSortDeskModel" ({ cls := "PairSortDeskModel", name := "few", desc := "(III)V" } : Jvm.MethodName) ({ cls := "PairSortDeskModel", name := "few", desc := "(III)V" } : Jvm.MethodName)) ∈ lw_all := lw_g (lw_at lw_m0 141 rfl) rfl
theorem q146 : (Jvm.Cond.code ({ cls := "PairSortDeskModel", name := "few", desc := "(III)V" } : Jvm.MethodName) prog_4_method_7_code (4 : Nat) (Option.none : Option Jvm.ClassFile.FieldType)) ∈ lw_all := lw_g (lw_at lw_m0 142 rfl) rfl
theorem q147 : (Jvm.Cond.methodLink "PairSortDeskModel" (30 : Nat) ({ cls := "PairSortDeskModel", name := "set", desc := "(III)V" } : Jvm.MethodName)) ∈ lw_all := lw_g (lw_at lw_m0 143 rfl) rfl
theorem q149 : (Jvm.Cond.instanceMethod ({ cls := "PairSortDeskModel", name := "first", desc := "(I)I" } : Jvm.MethodName)) ∈ lw_all := lw_g (lw_at lw_m0 145 rfl) rfl
theorem q150 : (Jvm.Cond.selects "PairSortDeskModel" ({ cls := "PairSortDeskModel", name := "first", desc := "(I)I" } : Jvm.MethodName) ({ cls := "PairSortDeskModel", name := "first", desc := "(I)I" } : Jvm.MethodName)) ∈ lw_all := lw_g (lw_at lw_m0 146 rfl) rfl
theorem q151 : (Jvm.Cond.code ({ cls := "PairSortDeskModel", name := "first", desc := "(I)I" } : Jvm.MethodName) prog_4_method_8_code (2 : Nat) (Option.some Jvm.ClassFile.FieldType.int)) ∈ lw_all := lw_g (lw_at lw_m0 147 rfl) rfl
theorem q153 : (Jvm.Cond.instanceMethod ({ cls := "PairSortDeskModel", name := "second", desc := "(I)I" } : Jvm.MethodName)) ∈ lw_all := lw_g (lw_at lw_m0 149 rfl) rfl
theorem q154 : (Jvm.Cond.selects "PairSortDeskModel" ({ cls := "PairSortDeskModel", name := "second", desc := "(I)I" } : Jvm.MethodName) ({ cls := "PairSortDeskModel", name := "second", desc := "(I)I" } : Jvm.MethodName)) ∈ lw_all := lw_g (lw_at lw_m0 150 rfl) rfl
theorem q155 : (Jvm.Cond.code ({ cls := "PairSortDeskModel", name := "second", desc := "(I)I" } : Jvm.MethodName) prog_4_method_9_code (2 : Nat) (Option.some Jvm.ClassFile.FieldType.int)) ∈ lw_all := lw_g (lw_at lw_m0 151 rfl) rfl
theorem q157 : (Jvm.Cond.instanceMethod ({ cls := "PairSortDeskModel", name := "place", desc := "(I)I" } : Jvm.MethodName)) ∈ lw_all := lw_g (lw_at lw_m0 153 rfl) rfl
theorem q158 : (Jvm.Cond.selects "PairSortDeskModel" ({ cls := "PairSortDeskModel", name := "place", desc := "(I)I" } : Jvm.MethodName) ({ cls := "PairSortDeskModel", name := "place", desc := "(I)I" } : Jvm.MethodName)) ∈ lw_all := lw_g (lw_at lw_m0 154 rfl) rfl
theorem q159 : (Jvm.Cond.code ({ cls := "PairSortDeskModel", name := "place", desc := "(I)I" } : Jvm.MethodName) prog_4_method_10_code (2 : Nat) (Option.some Jvm.ClassFile.FieldType.int)) ∈ lw_all := lw_g (lw_at lw_m0 155 rfl) rfl
theorem q161 : (Jvm.Cond.instanceMethod ({ cls := "PairSortDeskModel", name := "quick", desc := "(II)V" } : Jvm.MethodName)) ∈ lw_all := lw_g (lw_at lw_m0 157 rfl) rfl
theorem q162 : (Jvm.Cond.selects "PairSortDeskModel" ({ cls := "PairSortDeskModel", name := "quick", desc := "(II)V" } : Jvm.MethodName) ({ cls := "PairSortDeskModel", name := "quick", desc := "(II)V" } : Jvm.MethodName)) ∈ lw_all := lw_g (lw_at lw_m0 158 rfl) rfl
theorem q163 : (Jvm.Cond.code ({ cls := "PairSortDeskModel", name := "quick", desc := "(II)V" } : Jvm.MethodName) prog_4_method_13_code (3 : Nat) (Option.none : Option Jvm.ClassFile.FieldType)) ∈ lw_all := lw_g (lw_at lw_m0 159 rfl) rfl
theorem q164 : (Jvm.Cond.methodLink "PairSortDeskModel" (42 : Nat) ({ cls := "PairSortDeskModel", name := "sort", desc := "(II)V" } : Jvm.MethodName)) ∈ lw_all := lw_g (lw_at lw_m0 160 rfl) rfl
theorem q165 : (Jvm.Cond.privateMethod ({ cls := "PairSortDeskModel", name := "sort", desc := "(II)V" } : Jvm.MethodName)) ∈ lw_tbl := lw_at lw_m0 161 rfl
theorem q166 : (Jvm.Cond.instanceMethod ({ cls := "PairSortDeskModel", name := "sort", desc := "(II)V" } : Jvm.MethodName)) ∈ lw_all := lw_g (lw_at lw_m0 162 rfl) rfl
theorem q167 : (Jvm.Cond.code ({ cls := "PairSortDeskModel", name := "sort", desc := "(II)V" } : Jvm.MethodName) prog_4_method_12_code (8 : Nat) (Option.none : Option Jvm.ClassFile.FieldType)) ∈ lw_all := lw_g (lw_at lw_m0 163 rfl) rfl
theorem q168 : (Jvm.Cond.methodLink "PairSortDeskModel" (27 : Nat) ({ cls := "PairSortDeskModel", name := "from", desc := "(I)I" } : Jvm.MethodName)) ∈ lw_all := lw_g (lw_at lw_m0 164 rfl) rfl
theorem q169 : (Jvm.Cond.static ({ cls := "PairSortDeskModel", name := "from", desc := "(I)I" } : Jvm.MethodName)) ∈ lw_all := lw_g (lw_at lw_m0 165 rfl) rfl
theorem q170 : (Jvm.Cond.code ({ cls := "PairSortDeskModel", name := "from", desc := "(I)I" } : Jvm.MethodName) prog_4_method_3_code (1 : Nat) (Option.some Jvm.ClassFile.FieldType.int)) ∈ lw_all := lw_g (lw_at lw_m0 166 rfl) rfl
theorem q171 : (Jvm.Cond.methodLink "PairSortDeskModel" (34 : Nat) ({ cls := "PairSortDeskModel", name := "to", desc := "(II)I" } : Jvm.MethodName)) ∈ lw_all := lw_g (lw_at lw_m0 167 rfl) rfl
theorem q172 : (Jvm.Cond.static ({ cls := "PairSortDeskModel", name := "to", desc := "(II)I" } : Jvm.MethodName)) ∈ lw_all := lw_g (lw_at lw_m0 168 rfl) rfl
theorem q173 : (Jvm.Cond.code ({ cls := "PairSortDeskModel", name := "to", desc := "(II)I" } : Jvm.MethodName) prog_4_method_4_code (2 : Nat) (Option.some Jvm.ClassFile.FieldType.int)) ∈ lw_all := lw_g (lw_at lw_m0 169 rfl) rfl
theorem q174 : (Jvm.Cond.methodLink "PairSortDeskModel" (38 : Nat) ({ cls := "PairSortDeskModel", name := "less", desc := "(II)Z" } : Jvm.MethodName)) ∈ lw_all := lw_g (lw_at lw_m0 170 rfl) rfl
theorem q175 : (Jvm.Cond.privateMethod ({ cls := "PairSortDeskModel", name := "less", desc := "(II)Z" } : Jvm.MethodName)) ∈ lw_tbl := lw_at lw_m0 171 rfl
theorem q176 : (Jvm.Cond.instanceMethod ({ cls := "PairSortDeskModel", name := "less", desc := "(II)Z" } : Jvm.MethodName)) ∈ lw_all := lw_g (lw_at lw_m0 172 rfl) rfl
theorem q177 : (Jvm.Cond.code ({ cls := "PairSortDeskModel", name := "less", desc := "(II)Z" } : Jvm.MethodName) prog_4_method_11_code (3 : Nat) (Option.some Jvm.ClassFile.FieldType.boolean)) ∈ lw_all := lw_g (lw_at lw_m0 173 rfl) rfl
theorem q179 : (Jvm.Cond.instanceMethod ({ cls := "PairSortDeskModel", name := "radix", desc := "(II)V" } : Jvm.MethodName)) ∈ lw_all := lw_g (lw_at lw_m0 175 rfl) rfl
theorem q180 : (Jvm.Cond.selects "PairSortDeskModel" ({ cls := "PairSortDeskModel", name := "radix", desc := "(II)V" } : Jvm.MethodName) ({ cls := "PairSortDeskModel", name := "radix", desc := "(II)V" } : Jvm.MethodName)) ∈ lw_all := lw_g (lw_at lw_m0 176 rfl) rfl
theorem q181 : (Jvm.Cond.code ({ cls := "PairSortDeskModel", name := "radix", desc := "(II)V" } : Jvm.MethodName) prog_4_method_14_code (3 : Nat) (Option.none : Option Jvm.ClassFile.FieldType)) ∈ lw_all := lw_g (lw_at lw_m0 177 rfl) rfl
theorem q183 : (Jvm.Cond.instanceMethod ({ cls := "PairSortDeskModel", name := "indirect", desc := "(II)V" } : Jvm.MethodName)) ∈ lw_all := lw_g (lw_at lw_m0 179 rfl) rfl
theorem q184 : (Jvm.Cond.selects "PairSortDeskModel" ({ cls := "PairSortDeskModel", name := "indirect", desc := "(II)V" } : Jvm.MethodName) ({ cls := "PairSortDeskModel", name := "indirect", desc := "(II)V" } : Jvm.MethodName)) ∈ lw_all := lw_g (lw_at lw_m0 180 rfl) rfl
theorem q185 : (Jvm.Cond.code ({ cls := "PairSortDeskModel", name := "indirect", desc := "(II)V" } : Jvm.MethodName) prog_4_method_15_code (7 : Nat) (Option.none : Option Jvm.ClassFile.FieldType)) ∈ lw_all := lw_g (lw_at lw_m0 181 rfl) rfl
theorem in_X1 : ∀ w ∈ wsX10, w ∈ lw_all := lw_in wsX10 [127, 129, 131] (by decide +kernel) (by decide +kernel)

/-! IntArrays -/
set_option maxRecDepth 100000
def RX2 : String := "IntArrays"
abbrev cX2_quickSort : ByteArray := prog_1_method_5_code
def yX2_quickSort : MethodName := ⟨RX2, "quickSort", "([I[III)V"⟩
def dkwX2_quickSort_17 : List UInt8 := [4, 164, 0, 13, 42, 43, 29, 21, 14, 100, 29, 184, 0, 28, 177]
abbrev dktX2_quickSort_17 : List UInt8 := dkwX2_quickSort_17 ++ []
def dkwX2_quickSort_16 : List UInt8 := [54, 14, 4, 164, 0, 13, 42, 43, 28, 28, 21, 14, 96, 184, 0, 28, 21, 13, 21, 12, 100, 89, 54, 14]
abbrev dktX2_quickSort_16 : List UInt8 := dkwX2_quickSort_16 ++ dktX2_quickSort_17
def dkwX2_quickSort_15 : List UInt8 := [184, 0, 20, 54, 14, 42, 43, 21, 11, 29, 21, 14, 100, 21, 14, 184, 0, 25, 21, 11, 21, 10, 100, 89]
abbrev dktX2_quickSort_15 : List UInt8 := dkwX2_quickSort_15 ++ dktX2_quickSort_16
def dkwX2_quickSort_14 : List UInt8 := [43, 28, 21, 11, 21, 14, 100, 21, 14, 184, 0, 25, 21, 13, 21, 12, 100, 29, 21, 13, 100, 4, 100]
abbrev dktX2_quickSort_14 : List UInt8 := dkwX2_quickSort_14 ++ dktX2_quickSort_15
def dkwX2_quickSort_13 : List UInt8 := [132, 12, 255, 184, 0, 9, 167, 255, 101, 21, 10, 28, 100, 21, 11, 21, 10, 100, 184, 0, 20, 54, 14, 42]
abbrev dktX2_quickSort_13 : List UInt8 := dkwX2_quickSort_13 ++ dktX2_quickSort_14
def dkwX2_quickSort_12 : List UInt8 := [167, 255, 194, 21, 11, 21, 12, 164, 0, 6, 167, 0, 21, 42, 43, 21, 11, 132, 11, 1, 21, 12]
abbrev dktX2_quickSort_12 : List UInt8 := dkwX2_quickSort_12 ++ dktX2_quickSort_13
def dkwX2_quickSort_11 : List UInt8 := [155, 0, 26, 21, 14, 154, 0, 15, 42, 43, 21, 12, 21, 13, 132, 13, 255, 184, 0, 9, 132, 12, 255]
abbrev dktX2_quickSort_11 : List UInt8 := dkwX2_quickSort_11 ++ dktX2_quickSort_12
def dkwX2_quickSort_10 : List UInt8 := [54, 15, 154, 0, 15, 43, 21, 12, 46, 21, 9, 184, 0, 5, 167, 0, 5, 21, 15, 89, 54, 14]
abbrev dktX2_quickSort_10 : List UInt8 := dkwX2_quickSort_10 ++ dktX2_quickSort_11
def dkwX2_quickSort_9 : List UInt8 := [132, 11, 1, 167, 255, 194, 21, 12, 21, 11, 161, 0, 61, 42, 21, 12, 46, 21, 8, 184, 0, 5, 89]
abbrev dktX2_quickSort_9 : List UInt8 := dkwX2_quickSort_9 ++ dktX2_quickSort_10
def dkwX2_quickSort_8 : List UInt8 := [54, 14, 157, 0, 26, 21, 14, 154, 0, 15, 42, 43, 21, 10, 132, 10, 1, 21, 11, 184, 0, 9]
abbrev dktX2_quickSort_8 : List UInt8 := dkwX2_quickSort_8 ++ dktX2_quickSort_9
def dkwX2_quickSort_7 : List UInt8 := [184, 0, 5, 89, 54, 15, 154, 0, 15, 43, 21, 11, 46, 21, 9, 184, 0, 5, 167, 0, 5, 21, 15, 89]
abbrev dktX2_quickSort_7 : List UInt8 := dkwX2_quickSort_7 ++ dktX2_quickSort_8
def dkwX2_quickSort_6 : List UInt8 := [29, 4, 100, 54, 12, 21, 12, 54, 13, 21, 11, 21, 12, 163, 0, 61, 42, 21, 11, 46, 21, 8]
abbrev dktX2_quickSort_6 : List UInt8 := dkwX2_quickSort_6 ++ dktX2_quickSort_7
def dkwX2_quickSort_5 : List UInt8 := [184, 0, 16, 54, 5, 42, 21, 5, 46, 54, 8, 43, 21, 5, 46, 54, 9, 28, 54, 10, 21, 10, 54, 11]
abbrev dktX2_quickSort_5 : List UInt8 := dkwX2_quickSort_5 ++ dktX2_quickSort_6
def dkwX2_quickSort_4 : List UInt8 := [21, 8, 104, 100, 21, 7, 21, 8, 100, 21, 7, 184, 0, 16, 54, 7, 42, 43, 21, 6, 21, 5, 21, 7]
abbrev dktX2_quickSort_4 : List UInt8 := dkwX2_quickSort_4 ++ dktX2_quickSort_5
def dkwX2_quickSort_3 : List UInt8 := [42, 43, 21, 5, 21, 8, 100, 21, 5, 21, 5, 21, 8, 96, 184, 0, 16, 54, 5, 42, 43, 21, 7, 5]
abbrev dktX2_quickSort_3 : List UInt8 := dkwX2_quickSort_3 ++ dktX2_quickSort_4
def dkwX2_quickSort_2 : List UInt8 := [108, 54, 8, 42, 43, 21, 6, 21, 6, 21, 8, 96, 21, 6, 5, 21, 8, 104, 96, 184, 0, 16, 54, 6]
abbrev dktX2_quickSort_2 : List UInt8 := dkwX2_quickSort_2 ++ dktX2_quickSort_3
def dkwX2_quickSort_1 : List UInt8 := [108, 96, 54, 5, 28, 54, 6, 29, 4, 100, 54, 7, 21, 4, 17, 0, 128, 164, 0, 71, 21, 4, 16, 8]
abbrev dktX2_quickSort_1 : List UInt8 := dkwX2_quickSort_1 ++ dktX2_quickSort_2
def dkwX2_quickSort_0 : List UInt8 := [29, 28, 100, 54, 4, 21, 4, 16, 16, 162, 0, 11, 42, 43, 28, 29, 184, 0, 13, 177, 28, 21, 4, 5]
abbrev dktX2_quickSort_0 : List UInt8 := dkwX2_quickSort_0 ++ dktX2_quickSort_1
theorem dksX2_quickSort_0 : cX2_quickSort.data.toList.drop 0 = dktX2_quickSort_0 := by decide +kernel
theorem dksX2_quickSort_1 : cX2_quickSort.data.toList.drop 24 = dktX2_quickSort_1 := dk_seg dksX2_quickSort_0 24 rfl rfl
theorem dksX2_quickSort_2 : cX2_quickSort.data.toList.drop 48 = dktX2_quickSort_2 := dk_seg dksX2_quickSort_1 24 rfl rfl
theorem dksX2_quickSort_3 : cX2_quickSort.data.toList.drop 72 = dktX2_quickSort_3 := dk_seg dksX2_quickSort_2 24 rfl rfl
theorem dksX2_quickSort_4 : cX2_quickSort.data.toList.drop 96 = dktX2_quickSort_4 := dk_seg dksX2_quickSort_3 24 rfl rfl
theorem dksX2_quickSort_5 : cX2_quickSort.data.toList.drop 120 = dktX2_quickSort_5 := dk_seg dksX2_quickSort_4 24 rfl rfl
theorem dksX2_quickSort_6 : cX2_quickSort.data.toList.drop 144 = dktX2_quickSort_6 := dk_seg dksX2_quickSort_5 24 rfl rfl
theorem dksX2_quickSort_7 : cX2_quickSort.data.toList.drop 166 = dktX2_quickSort_7 := dk_seg dksX2_quickSort_6 22 rfl rfl
theorem dksX2_quickSort_8 : cX2_quickSort.data.toList.drop 190 = dktX2_quickSort_8 := dk_seg dksX2_quickSort_7 24 rfl rfl
theorem dksX2_quickSort_9 : cX2_quickSort.data.toList.drop 212 = dktX2_quickSort_9 := dk_seg dksX2_quickSort_8 22 rfl rfl
theorem dksX2_quickSort_10 : cX2_quickSort.data.toList.drop 235 = dktX2_quickSort_10 := dk_seg dksX2_quickSort_9 23 rfl rfl
theorem dksX2_quickSort_11 : cX2_quickSort.data.toList.drop 257 = dktX2_quickSort_11 := dk_seg dksX2_quickSort_10 22 rfl rfl
theorem dksX2_quickSort_12 : cX2_quickSort.data.toList.drop 280 = dktX2_quickSort_12 := dk_seg dksX2_quickSort_11 23 rfl rfl
theorem dksX2_quickSort_13 : cX2_quickSort.data.toList.drop 302 = dktX2_quickSort_13 := dk_seg dksX2_quickSort_12 22 rfl rfl
theorem dksX2_quickSort_14 : cX2_quickSort.data.toList.drop 326 = dktX2_quickSort_14 := dk_seg dksX2_quickSort_13 24 rfl rfl
theorem dksX2_quickSort_15 : cX2_quickSort.data.toList.drop 349 = dktX2_quickSort_15 := dk_seg dksX2_quickSort_14 23 rfl rfl
theorem dksX2_quickSort_16 : cX2_quickSort.data.toList.drop 373 = dktX2_quickSort_16 := dk_seg dksX2_quickSort_15 24 rfl rfl
theorem dksX2_quickSort_17 : cX2_quickSort.data.toList.drop 397 = dktX2_quickSort_17 := dk_seg dksX2_quickSort_16 24 rfl rfl
theorem dX2_quickSort_0 : decode cX2_quickSort 0 = .ok (.iload_n 3, 1) := dk_29 (dk_at dksX2_quickSort_0 0 rfl rfl)
theorem dX2_quickSort_1 : decode cX2_quickSort 1 = .ok (.iload_n 2, 1) := dk_28 (dk_at dksX2_quickSort_0 1 rfl rfl)
theorem dX2_quickSort_2 : decode cX2_quickSort 2 = .ok (.isub, 1) := dk_100 (dk_at dksX2_quickSort_0 2 rfl rfl)
theorem dX2_quickSort_3 : decode cX2_quickSort 3 = .ok (.istore 4, 2) := dk_54 4 (dk_at dksX2_quickSort_0 3 rfl rfl)
theorem dX2_quickSort_5 : decode cX2_quickSort 5 = .ok (.iload 4, 2) := dk_21 4 (dk_at dksX2_quickSort_0 5 rfl rfl)
theorem dX2_quickSort_7 : decode cX2_quickSort 7 = .ok (.bipush 16, 2) := dk_16 16 (dk_at dksX2_quickSort_0 7 rfl rfl)
theorem dX2_quickSort_9 : decode cX2_quickSort 9 = .ok (.if_icmp .ge 11, 3) := dk_162 0 11 (dk_at dksX2_quickSort_0 9 rfl rfl)
theorem dX2_quickSort_12 : decode cX2_quickSort 12 = .ok (.aload_n 0, 1) := dk_42 (dk_at dksX2_quickSort_0 12 rfl rfl)
theorem dX2_quickSort_13 : decode cX2_quickSort 13 = .ok (.aload_n 1, 1) := dk_43 (dk_at dksX2_quickSort_0 13 rfl rfl)
theorem dX2_quickSort_14 : decode cX2_quickSort 14 = .ok (.iload_n 2, 1) := dk_28 (dk_at dksX2_quickSort_0 14 rfl rfl)
theorem dX2_quickSort_15 : decode cX2_quickSort 15 = .ok (.iload_n 3, 1) := dk_29 (dk_at dksX2_quickSort_0 15 rfl rfl)
theorem dX2_quickSort_16 : decode cX2_quickSort 16 = .ok (.invokestatic 13, 3) := dk_184 0 13 (dk_at dksX2_quickSort_0 16 rfl rfl)
theorem dX2_quickSort_19 : decode cX2_quickSort 19 = .ok (.return_, 1) := dk_177 (dk_at dksX2_quickSort_0 19 rfl rfl)
theorem dX2_quickSort_20 : decode cX2_quickSort 20 = .ok (.iload_n 2, 1) := dk_28 (dk_at dksX2_quickSort_0 20 rfl rfl)
theorem dX2_quickSort_21 : decode cX2_quickSort 21 = .ok (.iload 4, 2) := dk_21 4 (dk_at dksX2_quickSort_0 21 rfl rfl)
theorem dX2_quickSort_23 : decode cX2_quickSort 23 = .ok (.iconst 2, 1) := dk_5 (dk_at dksX2_quickSort_0 23 rfl rfl)
theorem dX2_quickSort_24 : decode cX2_quickSort 24 = .ok (.idiv, 1) := dk_108 (dk_at dksX2_quickSort_1 0 rfl rfl)
theorem dX2_quickSort_25 : decode cX2_quickSort 25 = .ok (.iadd, 1) := dk_96 (dk_at dksX2_quickSort_1 1 rfl rfl)
theorem dX2_quickSort_26 : decode cX2_quickSort 26 = .ok (.istore 5, 2) := dk_54 5 (dk_at dksX2_quickSort_1 2 rfl rfl)
theorem dX2_quickSort_28 : decode cX2_quickSort 28 = .ok (.iload_n 2, 1) := dk_28 (dk_at dksX2_quickSort_1 4 rfl rfl)
theorem dX2_quickSort_29 : decode cX2_quickSort 29 = .ok (.istore 6, 2) := dk_54 6 (dk_at dksX2_quickSort_1 5 rfl rfl)
theorem dX2_quickSort_31 : decode cX2_quickSort 31 = .ok (.iload_n 3, 1) := dk_29 (dk_at dksX2_quickSort_1 7 rfl rfl)
theorem dX2_quickSort_32 : decode cX2_quickSort 32 = .ok (.iconst 1, 1) := dk_4 (dk_at dksX2_quickSort_1 8 rfl rfl)
theorem dX2_quickSort_33 : decode cX2_quickSort 33 = .ok (.isub, 1) := dk_100 (dk_at dksX2_quickSort_1 9 rfl rfl)
theorem dX2_quickSort_34 : decode cX2_quickSort 34 = .ok (.istore 7, 2) := dk_54 7 (dk_at dksX2_quickSort_1 10 rfl rfl)
theorem dX2_quickSort_36 : decode cX2_quickSort 36 = .ok (.iload 4, 2) := dk_21 4 (dk_at dksX2_quickSort_1 12 rfl rfl)
theorem dX2_quickSort_38 : decode cX2_quickSort 38 = .ok (.sipush 128, 3) := dk_17 0 128 (dk_at dksX2_quickSort_1 14 rfl rfl)
theorem dX2_quickSort_41 : decode cX2_quickSort 41 = .ok (.if_icmp .le 71, 3) := dk_164 0 71 (dk_at dksX2_quickSort_1 17 rfl rfl)
theorem dX2_quickSort_44 : decode cX2_quickSort 44 = .ok (.iload 4, 2) := dk_21 4 (dk_at dksX2_quickSort_1 20 rfl rfl)
theorem dX2_quickSort_46 : decode cX2_quickSort 46 = .ok (.bipush 8, 2) := dk_16 8 (dk_at dksX2_quickSort_1 22 rfl rfl)
theorem dX2_quickSort_48 : decode cX2_quickSort 48 = .ok (.idiv, 1) := dk_108 (dk_at dksX2_quickSort_2 0 rfl rfl)
theorem dX2_quickSort_49 : decode cX2_quickSort 49 = .ok (.istore 8, 2) := dk_54 8 (dk_at dksX2_quickSort_2 1 rfl rfl)
theorem dX2_quickSort_51 : decode cX2_quickSort 51 = .ok (.aload_n 0, 1) := dk_42 (dk_at dksX2_quickSort_2 3 rfl rfl)
theorem dX2_quickSort_52 : decode cX2_quickSort 52 = .ok (.aload_n 1, 1) := dk_43 (dk_at dksX2_quickSort_2 4 rfl rfl)
theorem dX2_quickSort_53 : decode cX2_quickSort 53 = .ok (.iload 6, 2) := dk_21 6 (dk_at dksX2_quickSort_2 5 rfl rfl)
theorem dX2_quickSort_55 : decode cX2_quickSort 55 = .ok (.iload 6, 2) := dk_21 6 (dk_at dksX2_quickSort_2 7 rfl rfl)
theorem dX2_quickSort_57 : decode cX2_quickSort 57 = .ok (.iload 8, 2) := dk_21 8 (dk_at dksX2_quickSort_2 9 rfl rfl)
theorem dX2_quickSort_59 : decode cX2_quickSort 59 = .ok (.iadd, 1) := dk_96 (dk_at dksX2_quickSort_2 11 rfl rfl)
theorem dX2_quickSort_60 : decode cX2_quickSort 60 = .ok (.iload 6, 2) := dk_21 6 (dk_at dksX2_quickSort_2 12 rfl rfl)
theorem dX2_quickSort_62 : decode cX2_quickSort 62 = .ok (.iconst 2, 1) := dk_5 (dk_at dksX2_quickSort_2 14 rfl rfl)
theorem dX2_quickSort_63 : decode cX2_quickSort 63 = .ok (.iload 8, 2) := dk_21 8 (dk_at dksX2_quickSort_2 15 rfl rfl)
theorem dX2_quickSort_65 : decode cX2_quickSort 65 = .ok (.imul, 1) := dk_104 (dk_at dksX2_quickSort_2 17 rfl rfl)
theorem dX2_quickSort_66 : decode cX2_quickSort 66 = .ok (.iadd, 1) := dk_96 (dk_at dksX2_quickSort_2 18 rfl rfl)
theorem dX2_quickSort_67 : decode cX2_quickSort 67 = .ok (.invokestatic 16, 3) := dk_184 0 16 (dk_at dksX2_quickSort_2 19 rfl rfl)
theorem dX2_quickSort_70 : decode cX2_quickSort 70 = .ok (.istore 6, 2) := dk_54 6 (dk_at dksX2_quickSort_2 22 rfl rfl)
theorem dX2_quickSort_72 : decode cX2_quickSort 72 = .ok (.aload_n 0, 1) := dk_42 (dk_at dksX2_quickSort_3 0 rfl rfl)
theorem dX2_quickSort_73 : decode cX2_quickSort 73 = .ok (.aload_n 1, 1) := dk_43 (dk_at dksX2_quickSort_3 1 rfl rfl)
theorem dX2_quickSort_74 : decode cX2_quickSort 74 = .ok (.iload 5, 2) := dk_21 5 (dk_at dksX2_quickSort_3 2 rfl rfl)
theorem dX2_quickSort_76 : decode cX2_quickSort 76 = .ok (.iload 8, 2) := dk_21 8 (dk_at dksX2_quickSort_3 4 rfl rfl)
theorem dX2_quickSort_78 : decode cX2_quickSort 78 = .ok (.isub, 1) := dk_100 (dk_at dksX2_quickSort_3 6 rfl rfl)
theorem dX2_quickSort_79 : decode cX2_quickSort 79 = .ok (.iload 5, 2) := dk_21 5 (dk_at dksX2_quickSort_3 7 rfl rfl)
theorem dX2_quickSort_81 : decode cX2_quickSort 81 = .ok (.iload 5, 2) := dk_21 5 (dk_at dksX2_quickSort_3 9 rfl rfl)
theorem dX2_quickSort_83 : decode cX2_quickSort 83 = .ok (.iload 8, 2) := dk_21 8 (dk_at dksX2_quickSort_3 11 rfl rfl)
theorem dX2_quickSort_85 : decode cX2_quickSort 85 = .ok (.iadd, 1) := dk_96 (dk_at dksX2_quickSort_3 13 rfl rfl)
theorem dX2_quickSort_86 : decode cX2_quickSort 86 = .ok (.invokestatic 16, 3) := dk_184 0 16 (dk_at dksX2_quickSort_3 14 rfl rfl)
theorem dX2_quickSort_89 : decode cX2_quickSort 89 = .ok (.istore 5, 2) := dk_54 5 (dk_at dksX2_quickSort_3 17 rfl rfl)
theorem dX2_quickSort_91 : decode cX2_quickSort 91 = .ok (.aload_n 0, 1) := dk_42 (dk_at dksX2_quickSort_3 19 rfl rfl)
theorem dX2_quickSort_92 : decode cX2_quickSort 92 = .ok (.aload_n 1, 1) := dk_43 (dk_at dksX2_quickSort_3 20 rfl rfl)
theorem dX2_quickSort_93 : decode cX2_quickSort 93 = .ok (.iload 7, 2) := dk_21 7 (dk_at dksX2_quickSort_3 21 rfl rfl)
theorem dX2_quickSort_95 : decode cX2_quickSort 95 = .ok (.iconst 2, 1) := dk_5 (dk_at dksX2_quickSort_3 23 rfl rfl)
theorem dX2_quickSort_96 : decode cX2_quickSort 96 = .ok (.iload 8, 2) := dk_21 8 (dk_at dksX2_quickSort_4 0 rfl rfl)
theorem dX2_quickSort_98 : decode cX2_quickSort 98 = .ok (.imul, 1) := dk_104 (dk_at dksX2_quickSort_4 2 rfl rfl)
theorem dX2_quickSort_99 : decode cX2_quickSort 99 = .ok (.isub, 1) := dk_100 (dk_at dksX2_quickSort_4 3 rfl rfl)
theorem dX2_quickSort_100 : decode cX2_quickSort 100 = .ok (.iload 7, 2) := dk_21 7 (dk_at dksX2_quickSort_4 4 rfl rfl)
theorem dX2_quickSort_102 : decode cX2_quickSort 102 = .ok (.iload 8, 2) := dk_21 8 (dk_at dksX2_quickSort_4 6 rfl rfl)
theorem dX2_quickSort_104 : decode cX2_quickSort 104 = .ok (.isub, 1) := dk_100 (dk_at dksX2_quickSort_4 8 rfl rfl)
theorem dX2_quickSort_105 : decode cX2_quickSort 105 = .ok (.iload 7, 2) := dk_21 7 (dk_at dksX2_quickSort_4 9 rfl rfl)
theorem dX2_quickSort_107 : decode cX2_quickSort 107 = .ok (.invokestatic 16, 3) := dk_184 0 16 (dk_at dksX2_quickSort_4 11 rfl rfl)
theorem dX2_quickSort_110 : decode cX2_quickSort 110 = .ok (.istore 7, 2) := dk_54 7 (dk_at dksX2_quickSort_4 14 rfl rfl)
theorem dX2_quickSort_112 : decode cX2_quickSort 112 = .ok (.aload_n 0, 1) := dk_42 (dk_at dksX2_quickSort_4 16 rfl rfl)
theorem dX2_quickSort_113 : decode cX2_quickSort 113 = .ok (.aload_n 1, 1) := dk_43 (dk_at dksX2_quickSort_4 17 rfl rfl)
theorem dX2_quickSort_114 : decode cX2_quickSort 114 = .ok (.iload 6, 2) := dk_21 6 (dk_at dksX2_quickSort_4 18 rfl rfl)
theorem dX2_quickSort_116 : decode cX2_quickSort 116 = .ok (.iload 5, 2) := dk_21 5 (dk_at dksX2_quickSort_4 20 rfl rfl)
theorem dX2_quickSort_118 : decode cX2_quickSort 118 = .ok (.iload 7, 2) := dk_21 7 (dk_at dksX2_quickSort_4 22 rfl rfl)
theorem dX2_quickSort_120 : decode cX2_quickSort 120 = .ok (.invokestatic 16, 3) := dk_184 0 16 (dk_at dksX2_quickSort_5 0 rfl rfl)
theorem dX2_quickSort_123 : decode cX2_quickSort 123 = .ok (.istore 5, 2) := dk_54 5 (dk_at dksX2_quickSort_5 3 rfl rfl)
theorem dX2_quickSort_125 : decode cX2_quickSort 125 = .ok (.aload_n 0, 1) := dk_42 (dk_at dksX2_quickSort_5 5 rfl rfl)
theorem dX2_quickSort_126 : decode cX2_quickSort 126 = .ok (.iload 5, 2) := dk_21 5 (dk_at dksX2_quickSort_5 6 rfl rfl)
theorem dX2_quickSort_128 : decode cX2_quickSort 128 = .ok (.iaload, 1) := dk_46 (dk_at dksX2_quickSort_5 8 rfl rfl)
theorem dX2_quickSort_129 : decode cX2_quickSort 129 = .ok (.istore 8, 2) := dk_54 8 (dk_at dksX2_quickSort_5 9 rfl rfl)
theorem dX2_quickSort_131 : decode cX2_quickSort 131 = .ok (.aload_n 1, 1) := dk_43 (dk_at dksX2_quickSort_5 11 rfl rfl)
theorem dX2_quickSort_132 : decode cX2_quickSort 132 = .ok (.iload 5, 2) := dk_21 5 (dk_at dksX2_quickSort_5 12 rfl rfl)
theorem dX2_quickSort_134 : decode cX2_quickSort 134 = .ok (.iaload, 1) := dk_46 (dk_at dksX2_quickSort_5 14 rfl rfl)
theorem dX2_quickSort_135 : decode cX2_quickSort 135 = .ok (.istore 9, 2) := dk_54 9 (dk_at dksX2_quickSort_5 15 rfl rfl)
theorem dX2_quickSort_137 : decode cX2_quickSort 137 = .ok (.iload_n 2, 1) := dk_28 (dk_at dksX2_quickSort_5 17 rfl rfl)
theorem dX2_quickSort_138 : decode cX2_quickSort 138 = .ok (.istore 10, 2) := dk_54 10 (dk_at dksX2_quickSort_5 18 rfl rfl)
theorem dX2_quickSort_140 : decode cX2_quickSort 140 = .ok (.iload 10, 2) := dk_21 10 (dk_at dksX2_quickSort_5 20 rfl rfl)
theorem dX2_quickSort_142 : decode cX2_quickSort 142 = .ok (.istore 11, 2) := dk_54 11 (dk_at dksX2_quickSort_5 22 rfl rfl)
theorem dX2_quickSort_144 : decode cX2_quickSort 144 = .ok (.iload_n 3, 1) := dk_29 (dk_at dksX2_quickSort_6 0 rfl rfl)
theorem dX2_quickSort_145 : decode cX2_quickSort 145 = .ok (.iconst 1, 1) := dk_4 (dk_at dksX2_quickSort_6 1 rfl rfl)
theorem dX2_quickSort_146 : decode cX2_quickSort 146 = .ok (.isub, 1) := dk_100 (dk_at dksX2_quickSort_6 2 rfl rfl)
theorem dX2_quickSort_147 : decode cX2_quickSort 147 = .ok (.istore 12, 2) := dk_54 12 (dk_at dksX2_quickSort_6 3 rfl rfl)
theorem dX2_quickSort_149 : decode cX2_quickSort 149 = .ok (.iload 12, 2) := dk_21 12 (dk_at dksX2_quickSort_6 5 rfl rfl)
theorem dX2_quickSort_151 : decode cX2_quickSort 151 = .ok (.istore 13, 2) := dk_54 13 (dk_at dksX2_quickSort_6 7 rfl rfl)
theorem dX2_quickSort_153 : decode cX2_quickSort 153 = .ok (.iload 11, 2) := dk_21 11 (dk_at dksX2_quickSort_6 9 rfl rfl)
theorem dX2_quickSort_155 : decode cX2_quickSort 155 = .ok (.iload 12, 2) := dk_21 12 (dk_at dksX2_quickSort_6 11 rfl rfl)
theorem dX2_quickSort_157 : decode cX2_quickSort 157 = .ok (.if_icmp .gt 61, 3) := dk_163 0 61 (dk_at dksX2_quickSort_6 13 rfl rfl)
theorem dX2_quickSort_160 : decode cX2_quickSort 160 = .ok (.aload_n 0, 1) := dk_42 (dk_at dksX2_quickSort_6 16 rfl rfl)
theorem dX2_quickSort_161 : decode cX2_quickSort 161 = .ok (.iload 11, 2) := dk_21 11 (dk_at dksX2_quickSort_6 17 rfl rfl)
theorem dX2_quickSort_163 : decode cX2_quickSort 163 = .ok (.iaload, 1) := dk_46 (dk_at dksX2_quickSort_6 19 rfl rfl)
theorem dX2_quickSort_164 : decode cX2_quickSort 164 = .ok (.iload 8, 2) := dk_21 8 (dk_at dksX2_quickSort_6 20 rfl rfl)
theorem dX2_quickSort_166 : decode cX2_quickSort 166 = .ok (.invokestatic 5, 3) := dk_184 0 5 (dk_at dksX2_quickSort_7 0 rfl rfl)
theorem dX2_quickSort_169 : decode cX2_quickSort 169 = .ok (.dup, 1) := dk_89 (dk_at dksX2_quickSort_7 3 rfl rfl)
theorem dX2_quickSort_170 : decode cX2_quickSort 170 = .ok (.istore 15, 2) := dk_54 15 (dk_at dksX2_quickSort_7 4 rfl rfl)
theorem dX2_quickSort_172 : decode cX2_quickSort 172 = .ok (.ifCond .ne 15, 3) := dk_154 0 15 (dk_at dksX2_quickSort_7 6 rfl rfl)
theorem dX2_quickSort_175 : decode cX2_quickSort 175 = .ok (.aload_n 1, 1) := dk_43 (dk_at dksX2_quickSort_7 9 rfl rfl)
theorem dX2_quickSort_176 : decode cX2_quickSort 176 = .ok (.iload 11, 2) := dk_21 11 (dk_at dksX2_quickSort_7 10 rfl rfl)
theorem dX2_quickSort_178 : decode cX2_quickSort 178 = .ok (.iaload, 1) := dk_46 (dk_at dksX2_quickSort_7 12 rfl rfl)
theorem dX2_quickSort_179 : decode cX2_quickSort 179 = .ok (.iload 9, 2) := dk_21 9 (dk_at dksX2_quickSort_7 13 rfl rfl)
theorem dX2_quickSort_181 : decode cX2_quickSort 181 = .ok (.invokestatic 5, 3) := dk_184 0 5 (dk_at dksX2_quickSort_7 15 rfl rfl)
theorem dX2_quickSort_184 : decode cX2_quickSort 184 = .ok (.goto 5, 3) := dk_167 0 5 (dk_at dksX2_quickSort_7 18 rfl rfl)
theorem dX2_quickSort_187 : decode cX2_quickSort 187 = .ok (.iload 15, 2) := dk_21 15 (dk_at dksX2_quickSort_7 21 rfl rfl)
theorem dX2_quickSort_189 : decode cX2_quickSort 189 = .ok (.dup, 1) := dk_89 (dk_at dksX2_quickSort_7 23 rfl rfl)
theorem dX2_quickSort_190 : decode cX2_quickSort 190 = .ok (.istore 14, 2) := dk_54 14 (dk_at dksX2_quickSort_8 0 rfl rfl)
theorem dX2_quickSort_192 : decode cX2_quickSort 192 = .ok (.ifCond .gt 26, 3) := dk_157 0 26 (dk_at dksX2_quickSort_8 2 rfl rfl)
theorem dX2_quickSort_195 : decode cX2_quickSort 195 = .ok (.iload 14, 2) := dk_21 14 (dk_at dksX2_quickSort_8 5 rfl rfl)
theorem dX2_quickSort_197 : decode cX2_quickSort 197 = .ok (.ifCond .ne 15, 3) := dk_154 0 15 (dk_at dksX2_quickSort_8 7 rfl rfl)
theorem dX2_quickSort_200 : decode cX2_quickSort 200 = .ok (.aload_n 0, 1) := dk_42 (dk_at dksX2_quickSort_8 10 rfl rfl)
theorem dX2_quickSort_201 : decode cX2_quickSort 201 = .ok (.aload_n 1, 1) := dk_43 (dk_at dksX2_quickSort_8 11 rfl rfl)
theorem dX2_quickSort_202 : decode cX2_quickSort 202 = .ok (.iload 10, 2) := dk_21 10 (dk_at dksX2_quickSort_8 12 rfl rfl)
theorem dX2_quickSort_204 : decode cX2_quickSort 204 = .ok (.iinc 10 1, 3) := dk_132 10 1 (dk_at dksX2_quickSort_8 14 rfl rfl)
theorem dX2_quickSort_207 : decode cX2_quickSort 207 = .ok (.iload 11, 2) := dk_21 11 (dk_at dksX2_quickSort_8 17 rfl rfl)
theorem dX2_quickSort_209 : decode cX2_quickSort 209 = .ok (.invokestatic 9, 3) := dk_184 0 9 (dk_at dksX2_quickSort_8 19 rfl rfl)
theorem dX2_quickSort_212 : decode cX2_quickSort 212 = .ok (.iinc 11 1, 3) := dk_132 11 1 (dk_at dksX2_quickSort_9 0 rfl rfl)
theorem dX2_quickSort_215 : decode cX2_quickSort 215 = .ok (.goto (-62), 3) := dk_167 255 194 (dk_at dksX2_quickSort_9 3 rfl rfl)
theorem dX2_quickSort_218 : decode cX2_quickSort 218 = .ok (.iload 12, 2) := dk_21 12 (dk_at dksX2_quickSort_9 6 rfl rfl)
theorem dX2_quickSort_220 : decode cX2_quickSort 220 = .ok (.iload 11, 2) := dk_21 11 (dk_at dksX2_quickSort_9 8 rfl rfl)
theorem dX2_quickSort_222 : decode cX2_quickSort 222 = .ok (.if_icmp .lt 61, 3) := dk_161 0 61 (dk_at dksX2_quickSort_9 10 rfl rfl)
theorem dX2_quickSort_225 : decode cX2_quickSort 225 = .ok (.aload_n 0, 1) := dk_42 (dk_at dksX2_quickSort_9 13 rfl rfl)
theorem dX2_quickSort_226 : decode cX2_quickSort 226 = .ok (.iload 12, 2) := dk_21 12 (dk_at dksX2_quickSort_9 14 rfl rfl)
theorem dX2_quickSort_228 : decode cX2_quickSort 228 = .ok (.iaload, 1) := dk_46 (dk_at dksX2_quickSort_9 16 rfl rfl)
theorem dX2_quickSort_229 : decode cX2_quickSort 229 = .ok (.iload 8, 2) := dk_21 8 (dk_at dksX2_quickSort_9 17 rfl rfl)
theorem dX2_quickSort_231 : decode cX2_quickSort 231 = .ok (.invokestatic 5, 3) := dk_184 0 5 (dk_at dksX2_quickSort_9 19 rfl rfl)
theorem dX2_quickSort_234 : decode cX2_quickSort 234 = .ok (.dup, 1) := dk_89 (dk_at dksX2_quickSort_9 22 rfl rfl)
theorem dX2_quickSort_235 : decode cX2_quickSort 235 = .ok (.istore 15, 2) := dk_54 15 (dk_at dksX2_quickSort_10 0 rfl rfl)
theorem dX2_quickSort_237 : decode cX2_quickSort 237 = .ok (.ifCond .ne 15, 3) := dk_154 0 15 (dk_at dksX2_quickSort_10 2 rfl rfl)
theorem dX2_quickSort_240 : decode cX2_quickSort 240 = .ok (.aload_n 1, 1) := dk_43 (dk_at dksX2_quickSort_10 5 rfl rfl)
theorem dX2_quickSort_241 : decode cX2_quickSort 241 = .ok (.iload 12, 2) := dk_21 12 (dk_at dksX2_quickSort_10 6 rfl rfl)
theorem dX2_quickSort_243 : decode cX2_quickSort 243 = .ok (.iaload, 1) := dk_46 (dk_at dksX2_quickSort_10 8 rfl rfl)
theorem dX2_quickSort_244 : decode cX2_quickSort 244 = .ok (.iload 9, 2) := dk_21 9 (dk_at dksX2_quickSort_10 9 rfl rfl)
theorem dX2_quickSort_246 : decode cX2_quickSort 246 = .ok (.invokestatic 5, 3) := dk_184 0 5 (dk_at dksX2_quickSort_10 11 rfl rfl)
theorem dX2_quickSort_249 : decode cX2_quickSort 249 = .ok (.goto 5, 3) := dk_167 0 5 (dk_at dksX2_quickSort_10 14 rfl rfl)
theorem dX2_quickSort_252 : decode cX2_quickSort 252 = .ok (.iload 15, 2) := dk_21 15 (dk_at dksX2_quickSort_10 17 rfl rfl)
theorem dX2_quickSort_254 : decode cX2_quickSort 254 = .ok (.dup, 1) := dk_89 (dk_at dksX2_quickSort_10 19 rfl rfl)
theorem dX2_quickSort_255 : decode cX2_quickSort 255 = .ok (.istore 14, 2) := dk_54 14 (dk_at dksX2_quickSort_10 20 rfl rfl)
theorem dX2_quickSort_257 : decode cX2_quickSort 257 = .ok (.ifCond .lt 26, 3) := dk_155 0 26 (dk_at dksX2_quickSort_11 0 rfl rfl)
theorem dX2_quickSort_260 : decode cX2_quickSort 260 = .ok (.iload 14, 2) := dk_21 14 (dk_at dksX2_quickSort_11 3 rfl rfl)
theorem dX2_quickSort_262 : decode cX2_quickSort 262 = .ok (.ifCond .ne 15, 3) := dk_154 0 15 (dk_at dksX2_quickSort_11 5 rfl rfl)
theorem dX2_quickSort_265 : decode cX2_quickSort 265 = .ok (.aload_n 0, 1) := dk_42 (dk_at dksX2_quickSort_11 8 rfl rfl)
theorem dX2_quickSort_266 : decode cX2_quickSort 266 = .ok (.aload_n 1, 1) := dk_43 (dk_at dksX2_quickSort_11 9 rfl rfl)
theorem dX2_quickSort_267 : decode cX2_quickSort 267 = .ok (.iload 12, 2) := dk_21 12 (dk_at dksX2_quickSort_11 10 rfl rfl)
theorem dX2_quickSort_269 : decode cX2_quickSort 269 = .ok (.iload 13, 2) := dk_21 13 (dk_at dksX2_quickSort_11 12 rfl rfl)
theorem dX2_quickSort_271 : decode cX2_quickSort 271 = .ok (.iinc 13 (-1), 3) := dk_132 13 255 (dk_at dksX2_quickSort_11 14 rfl rfl)
theorem dX2_quickSort_274 : decode cX2_quickSort 274 = .ok (.invokestatic 9, 3) := dk_184 0 9 (dk_at dksX2_quickSort_11 17 rfl rfl)
theorem dX2_quickSort_277 : decode cX2_quickSort 277 = .ok (.iinc 12 (-1), 3) := dk_132 12 255 (dk_at dksX2_quickSort_11 20 rfl rfl)
theorem dX2_quickSort_280 : decode cX2_quickSort 280 = .ok (.goto (-62), 3) := dk_167 255 194 (dk_at dksX2_quickSort_12 0 rfl rfl)
theorem dX2_quickSort_283 : decode cX2_quickSort 283 = .ok (.iload 11, 2) := dk_21 11 (dk_at dksX2_quickSort_12 3 rfl rfl)
theorem dX2_quickSort_285 : decode cX2_quickSort 285 = .ok (.iload 12, 2) := dk_21 12 (dk_at dksX2_quickSort_12 5 rfl rfl)
theorem dX2_quickSort_287 : decode cX2_quickSort 287 = .ok (.if_icmp .le 6, 3) := dk_164 0 6 (dk_at dksX2_quickSort_12 7 rfl rfl)
theorem dX2_quickSort_290 : decode cX2_quickSort 290 = .ok (.goto 21, 3) := dk_167 0 21 (dk_at dksX2_quickSort_12 10 rfl rfl)
theorem dX2_quickSort_293 : decode cX2_quickSort 293 = .ok (.aload_n 0, 1) := dk_42 (dk_at dksX2_quickSort_12 13 rfl rfl)
theorem dX2_quickSort_294 : decode cX2_quickSort 294 = .ok (.aload_n 1, 1) := dk_43 (dk_at dksX2_quickSort_12 14 rfl rfl)
theorem dX2_quickSort_295 : decode cX2_quickSort 295 = .ok (.iload 11, 2) := dk_21 11 (dk_at dksX2_quickSort_12 15 rfl rfl)
theorem dX2_quickSort_297 : decode cX2_quickSort 297 = .ok (.iinc 11 1, 3) := dk_132 11 1 (dk_at dksX2_quickSort_12 17 rfl rfl)
theorem dX2_quickSort_300 : decode cX2_quickSort 300 = .ok (.iload 12, 2) := dk_21 12 (dk_at dksX2_quickSort_12 20 rfl rfl)
theorem dX2_quickSort_302 : decode cX2_quickSort 302 = .ok (.iinc 12 (-1), 3) := dk_132 12 255 (dk_at dksX2_quickSort_13 0 rfl rfl)
theorem dX2_quickSort_305 : decode cX2_quickSort 305 = .ok (.invokestatic 9, 3) := dk_184 0 9 (dk_at dksX2_quickSort_13 3 rfl rfl)
theorem dX2_quickSort_308 : decode cX2_quickSort 308 = .ok (.goto (-155), 3) := dk_167 255 101 (dk_at dksX2_quickSort_13 6 rfl rfl)
theorem dX2_quickSort_311 : decode cX2_quickSort 311 = .ok (.iload 10, 2) := dk_21 10 (dk_at dksX2_quickSort_13 9 rfl rfl)
theorem dX2_quickSort_313 : decode cX2_quickSort 313 = .ok (.iload_n 2, 1) := dk_28 (dk_at dksX2_quickSort_13 11 rfl rfl)
theorem dX2_quickSort_314 : decode cX2_quickSort 314 = .ok (.isub, 1) := dk_100 (dk_at dksX2_quickSort_13 12 rfl rfl)
theorem dX2_quickSort_315 : decode cX2_quickSort 315 = .ok (.iload 11, 2) := dk_21 11 (dk_at dksX2_quickSort_13 13 rfl rfl)
theorem dX2_quickSort_317 : decode cX2_quickSort 317 = .ok (.iload 10, 2) := dk_21 10 (dk_at dksX2_quickSort_13 15 rfl rfl)
theorem dX2_quickSort_319 : decode cX2_quickSort 319 = .ok (.isub, 1) := dk_100 (dk_at dksX2_quickSort_13 17 rfl rfl)
theorem dX2_quickSort_320 : decode cX2_quickSort 320 = .ok (.invokestatic 20, 3) := dk_184 0 20 (dk_at dksX2_quickSort_13 18 rfl rfl)
theorem dX2_quickSort_323 : decode cX2_quickSort 323 = .ok (.istore 14, 2) := dk_54 14 (dk_at dksX2_quickSort_13 21 rfl rfl)
theorem dX2_quickSort_325 : decode cX2_quickSort 325 = .ok (.aload_n 0, 1) := dk_42 (dk_at dksX2_quickSort_13 23 rfl rfl)
theorem dX2_quickSort_326 : decode cX2_quickSort 326 = .ok (.aload_n 1, 1) := dk_43 (dk_at dksX2_quickSort_14 0 rfl rfl)
theorem dX2_quickSort_327 : decode cX2_quickSort 327 = .ok (.iload_n 2, 1) := dk_28 (dk_at dksX2_quickSort_14 1 rfl rfl)
theorem dX2_quickSort_328 : decode cX2_quickSort 328 = .ok (.iload 11, 2) := dk_21 11 (dk_at dksX2_quickSort_14 2 rfl rfl)
theorem dX2_quickSort_330 : decode cX2_quickSort 330 = .ok (.iload 14, 2) := dk_21 14 (dk_at dksX2_quickSort_14 4 rfl rfl)
theorem dX2_quickSort_332 : decode cX2_quickSort 332 = .ok (.isub, 1) := dk_100 (dk_at dksX2_quickSort_14 6 rfl rfl)
theorem dX2_quickSort_333 : decode cX2_quickSort 333 = .ok (.iload 14, 2) := dk_21 14 (dk_at dksX2_quickSort_14 7 rfl rfl)
theorem dX2_quickSort_335 : decode cX2_quickSort 335 = .ok (.invokestatic 25, 3) := dk_184 0 25 (dk_at dksX2_quickSort_14 9 rfl rfl)
theorem dX2_quickSort_338 : decode cX2_quickSort 338 = .ok (.iload 13, 2) := dk_21 13 (dk_at dksX2_quickSort_14 12 rfl rfl)
theorem dX2_quickSort_340 : decode cX2_quickSort 340 = .ok (.iload 12, 2) := dk_21 12 (dk_at dksX2_quickSort_14 14 rfl rfl)
theorem dX2_quickSort_342 : decode cX2_quickSort 342 = .ok (.isub, 1) := dk_100 (dk_at dksX2_quickSort_14 16 rfl rfl)
theorem dX2_quickSort_343 : decode cX2_quickSort 343 = .ok (.iload_n 3, 1) := dk_29 (dk_at dksX2_quickSort_14 17 rfl rfl)
theorem dX2_quickSort_344 : decode cX2_quickSort 344 = .ok (.iload 13, 2) := dk_21 13 (dk_at dksX2_quickSort_14 18 rfl rfl)
theorem dX2_quickSort_346 : decode cX2_quickSort 346 = .ok (.isub, 1) := dk_100 (dk_at dksX2_quickSort_14 20 rfl rfl)
theorem dX2_quickSort_347 : decode cX2_quickSort 347 = .ok (.iconst 1, 1) := dk_4 (dk_at dksX2_quickSort_14 21 rfl rfl)
theorem dX2_quickSort_348 : decode cX2_quickSort 348 = .ok (.isub, 1) := dk_100 (dk_at dksX2_quickSort_14 22 rfl rfl)
theorem dX2_quickSort_349 : decode cX2_quickSort 349 = .ok (.invokestatic 20, 3) := dk_184 0 20 (dk_at dksX2_quickSort_15 0 rfl rfl)
theorem dX2_quickSort_352 : decode cX2_quickSort 352 = .ok (.istore 14, 2) := dk_54 14 (dk_at dksX2_quickSort_15 3 rfl rfl)
theorem dX2_quickSort_354 : decode cX2_quickSort 354 = .ok (.aload_n 0, 1) := dk_42 (dk_at dksX2_quickSort_15 5 rfl rfl)
theorem dX2_quickSort_355 : decode cX2_quickSort 355 = .ok (.aload_n 1, 1) := dk_43 (dk_at dksX2_quickSort_15 6 rfl rfl)
theorem dX2_quickSort_356 : decode cX2_quickSort 356 = .ok (.iload 11, 2) := dk_21 11 (dk_at dksX2_quickSort_15 7 rfl rfl)
theorem dX2_quickSort_358 : decode cX2_quickSort 358 = .ok (.iload_n 3, 1) := dk_29 (dk_at dksX2_quickSort_15 9 rfl rfl)
theorem dX2_quickSort_359 : decode cX2_quickSort 359 = .ok (.iload 14, 2) := dk_21 14 (dk_at dksX2_quickSort_15 10 rfl rfl)
theorem dX2_quickSort_361 : decode cX2_quickSort 361 = .ok (.isub, 1) := dk_100 (dk_at dksX2_quickSort_15 12 rfl rfl)
theorem dX2_quickSort_362 : decode cX2_quickSort 362 = .ok (.iload 14, 2) := dk_21 14 (dk_at dksX2_quickSort_15 13 rfl rfl)
theorem dX2_quickSort_364 : decode cX2_quickSort 364 = .ok (.invokestatic 25, 3) := dk_184 0 25 (dk_at dksX2_quickSort_15 15 rfl rfl)
theorem dX2_quickSort_367 : decode cX2_quickSort 367 = .ok (.iload 11, 2) := dk_21 11 (dk_at dksX2_quickSort_15 18 rfl rfl)
theorem dX2_quickSort_369 : decode cX2_quickSort 369 = .ok (.iload 10, 2) := dk_21 10 (dk_at dksX2_quickSort_15 20 rfl rfl)
theorem dX2_quickSort_371 : decode cX2_quickSort 371 = .ok (.isub, 1) := dk_100 (dk_at dksX2_quickSort_15 22 rfl rfl)
theorem dX2_quickSort_372 : decode cX2_quickSort 372 = .ok (.dup, 1) := dk_89 (dk_at dksX2_quickSort_15 23 rfl rfl)
theorem dX2_quickSort_373 : decode cX2_quickSort 373 = .ok (.istore 14, 2) := dk_54 14 (dk_at dksX2_quickSort_16 0 rfl rfl)
theorem dX2_quickSort_375 : decode cX2_quickSort 375 = .ok (.iconst 1, 1) := dk_4 (dk_at dksX2_quickSort_16 2 rfl rfl)
theorem dX2_quickSort_376 : decode cX2_quickSort 376 = .ok (.if_icmp .le 13, 3) := dk_164 0 13 (dk_at dksX2_quickSort_16 3 rfl rfl)
theorem dX2_quickSort_379 : decode cX2_quickSort 379 = .ok (.aload_n 0, 1) := dk_42 (dk_at dksX2_quickSort_16 6 rfl rfl)
theorem dX2_quickSort_380 : decode cX2_quickSort 380 = .ok (.aload_n 1, 1) := dk_43 (dk_at dksX2_quickSort_16 7 rfl rfl)
theorem dX2_quickSort_381 : decode cX2_quickSort 381 = .ok (.iload_n 2, 1) := dk_28 (dk_at dksX2_quickSort_16 8 rfl rfl)
theorem dX2_quickSort_382 : decode cX2_quickSort 382 = .ok (.iload_n 2, 1) := dk_28 (dk_at dksX2_quickSort_16 9 rfl rfl)
theorem dX2_quickSort_383 : decode cX2_quickSort 383 = .ok (.iload 14, 2) := dk_21 14 (dk_at dksX2_quickSort_16 10 rfl rfl)
theorem dX2_quickSort_385 : decode cX2_quickSort 385 = .ok (.iadd, 1) := dk_96 (dk_at dksX2_quickSort_16 12 rfl rfl)
theorem dX2_quickSort_386 : decode cX2_quickSort 386 = .ok (.invokestatic 28, 3) := dk_184 0 28 (dk_at dksX2_quickSort_16 13 rfl rfl)
theorem dX2_quickSort_389 : decode cX2_quickSort 389 = .ok (.iload 13, 2) := dk_21 13 (dk_at dksX2_quickSort_16 16 rfl rfl)
theorem dX2_quickSort_391 : decode cX2_quickSort 391 = .ok (.iload 12, 2) := dk_21 12 (dk_at dksX2_quickSort_16 18 rfl rfl)
theorem dX2_quickSort_393 : decode cX2_quickSort 393 = .ok (.isub, 1) := dk_100 (dk_at dksX2_quickSort_16 20 rfl rfl)
theorem dX2_quickSort_394 : decode cX2_quickSort 394 = .ok (.dup, 1) := dk_89 (dk_at dksX2_quickSort_16 21 rfl rfl)
theorem dX2_quickSort_395 : decode cX2_quickSort 395 = .ok (.istore 14, 2) := dk_54 14 (dk_at dksX2_quickSort_16 22 rfl rfl)
theorem dX2_quickSort_397 : decode cX2_quickSort 397 = .ok (.iconst 1, 1) := dk_4 (dk_at dksX2_quickSort_17 0 rfl rfl)
theorem dX2_quickSort_398 : decode cX2_quickSort 398 = .ok (.if_icmp .le 13, 3) := dk_164 0 13 (dk_at dksX2_quickSort_17 1 rfl rfl)
theorem dX2_quickSort_401 : decode cX2_quickSort 401 = .ok (.aload_n 0, 1) := dk_42 (dk_at dksX2_quickSort_17 4 rfl rfl)
theorem dX2_quickSort_402 : decode cX2_quickSort 402 = .ok (.aload_n 1, 1) := dk_43 (dk_at dksX2_quickSort_17 5 rfl rfl)
theorem dX2_quickSort_403 : decode cX2_quickSort 403 = .ok (.iload_n 3, 1) := dk_29 (dk_at dksX2_quickSort_17 6 rfl rfl)
theorem dX2_quickSort_404 : decode cX2_quickSort 404 = .ok (.iload 14, 2) := dk_21 14 (dk_at dksX2_quickSort_17 7 rfl rfl)
theorem dX2_quickSort_406 : decode cX2_quickSort 406 = .ok (.isub, 1) := dk_100 (dk_at dksX2_quickSort_17 9 rfl rfl)
theorem dX2_quickSort_407 : decode cX2_quickSort 407 = .ok (.iload_n 3, 1) := dk_29 (dk_at dksX2_quickSort_17 10 rfl rfl)
theorem dX2_quickSort_408 : decode cX2_quickSort 408 = .ok (.invokestatic 28, 3) := dk_184 0 28 (dk_at dksX2_quickSort_17 11 rfl rfl)
theorem dX2_quickSort_411 : decode cX2_quickSort 411 = .ok (.return_, 1) := dk_177 (dk_at dksX2_quickSort_17 14 rfl rfl)
abbrev cX2_selectionSort : ByteArray := prog_1_method_4_code
def yX2_selectionSort : MethodName := ⟨RX2, "selectionSort", "([I[III)V"⟩
def dkwX2_selectionSort_5 : List UInt8 := [132, 4, 1, 167, 255, 139, 177]
abbrev dktX2_selectionSort_5 : List UInt8 := dkwX2_selectionSort_5 ++ []
def dkwX2_selectionSort_4 : List UInt8 := [21, 7, 79, 43, 21, 4, 46, 54, 7, 43, 21, 4, 43, 21, 5, 46, 79, 43, 21, 5, 21, 7, 79]
abbrev dktX2_selectionSort_4 : List UInt8 := dkwX2_selectionSort_4 ++ dktX2_selectionSort_5
def dkwX2_selectionSort_3 : List UInt8 := [21, 5, 21, 4, 159, 0, 43, 42, 21, 4, 46, 54, 7, 42, 21, 4, 42, 21, 5, 46, 79, 42, 21, 5]
abbrev dktX2_selectionSort_3 : List UInt8 := dkwX2_selectionSort_3 ++ dktX2_selectionSort_4
def dkwX2_selectionSort_2 : List UInt8 := [154, 0, 18, 43, 21, 7, 46, 43, 21, 5, 46, 162, 0, 7, 21, 7, 54, 5, 132, 7, 1, 167, 255, 210]
abbrev dktX2_selectionSort_2 : List UInt8 := dkwX2_selectionSort_2 ++ dktX2_selectionSort_3
def dkwX2_selectionSort_1 : List UInt8 := [162, 0, 46, 42, 21, 7, 46, 42, 21, 5, 46, 184, 0, 5, 89, 54, 6, 155, 0, 19, 21, 6]
abbrev dktX2_selectionSort_1 : List UInt8 := dkwX2_selectionSort_1 ++ dktX2_selectionSort_2
def dkwX2_selectionSort_0 : List UInt8 := [28, 54, 4, 21, 4, 29, 4, 100, 162, 0, 115, 21, 4, 54, 5, 21, 4, 4, 96, 54, 7, 21, 7, 29]
abbrev dktX2_selectionSort_0 : List UInt8 := dkwX2_selectionSort_0 ++ dktX2_selectionSort_1
theorem dksX2_selectionSort_0 : cX2_selectionSort.data.toList.drop 0 = dktX2_selectionSort_0 := by decide +kernel
theorem dksX2_selectionSort_1 : cX2_selectionSort.data.toList.drop 24 = dktX2_selectionSort_1 := dk_seg dksX2_selectionSort_0 24 rfl rfl
theorem dksX2_selectionSort_2 : cX2_selectionSort.data.toList.drop 46 = dktX2_selectionSort_2 := dk_seg dksX2_selectionSort_1 22 rfl rfl
theorem dksX2_selectionSort_3 : cX2_selectionSort.data.toList.drop 70 = dktX2_selectionSort_3 := dk_seg dksX2_selectionSort_2 24 rfl rfl
theorem dksX2_selectionSort_4 : cX2_selectionSort.data.toList.drop 94 = dktX2_selectionSort_4 := dk_seg dksX2_selectionSort_3 24 rfl rfl
theorem dksX2_selectionSort_5 : cX2_selectionSort.data.toList.drop 117 = dktX2_selectionSort_5 := dk_seg dksX2_selectionSort_4 23 rfl rfl
theorem dX2_selectionSort_0 : decode cX2_selectionSort 0 = .ok (.iload_n 2, 1) := dk_28 (dk_at dksX2_selectionSort_0 0 rfl rfl)
theorem dX2_selectionSort_1 : decode cX2_selectionSort 1 = .ok (.istore 4, 2) := dk_54 4 (dk_at dksX2_selectionSort_0 1 rfl rfl)
theorem dX2_selectionSort_3 : decode cX2_selectionSort 3 = .ok (.iload 4, 2) := dk_21 4 (dk_at dksX2_selectionSort_0 3 rfl rfl)
theorem dX2_selectionSort_5 : decode cX2_selectionSort 5 = .ok (.iload_n 3, 1) := dk_29 (dk_at dksX2_selectionSort_0 5 rfl rfl)
theorem dX2_selectionSort_6 : decode cX2_selectionSort 6 = .ok (.iconst 1, 1) := dk_4 (dk_at dksX2_selectionSort_0 6 rfl rfl)
theorem dX2_selectionSort_7 : decode cX2_selectionSort 7 = .ok (.isub, 1) := dk_100 (dk_at dksX2_selectionSort_0 7 rfl rfl)
theorem dX2_selectionSort_8 : decode cX2_selectionSort 8 = .ok (.if_icmp .ge 115, 3) := dk_162 0 115 (dk_at dksX2_selectionSort_0 8 rfl rfl)
theorem dX2_selectionSort_11 : decode cX2_selectionSort 11 = .ok (.iload 4, 2) := dk_21 4 (dk_at dksX2_selectionSort_0 11 rfl rfl)
theorem dX2_selectionSort_13 : decode cX2_selectionSort 13 = .ok (.istore 5, 2) := dk_54 5 (dk_at dksX2_selectionSort_0 13 rfl rfl)
theorem dX2_selectionSort_15 : decode cX2_selectionSort 15 = .ok (.iload 4, 2) := dk_21 4 (dk_at dksX2_selectionSort_0 15 rfl rfl)
theorem dX2_selectionSort_17 : decode cX2_selectionSort 17 = .ok (.iconst 1, 1) := dk_4 (dk_at dksX2_selectionSort_0 17 rfl rfl)
theorem dX2_selectionSort_18 : decode cX2_selectionSort 18 = .ok (.iadd, 1) := dk_96 (dk_at dksX2_selectionSort_0 18 rfl rfl)
theorem dX2_selectionSort_19 : decode cX2_selectionSort 19 = .ok (.istore 7, 2) := dk_54 7 (dk_at dksX2_selectionSort_0 19 rfl rfl)
theorem dX2_selectionSort_21 : decode cX2_selectionSort 21 = .ok (.iload 7, 2) := dk_21 7 (dk_at dksX2_selectionSort_0 21 rfl rfl)
theorem dX2_selectionSort_23 : decode cX2_selectionSort 23 = .ok (.iload_n 3, 1) := dk_29 (dk_at dksX2_selectionSort_0 23 rfl rfl)
theorem dX2_selectionSort_24 : decode cX2_selectionSort 24 = .ok (.if_icmp .ge 46, 3) := dk_162 0 46 (dk_at dksX2_selectionSort_1 0 rfl rfl)
theorem dX2_selectionSort_27 : decode cX2_selectionSort 27 = .ok (.aload_n 0, 1) := dk_42 (dk_at dksX2_selectionSort_1 3 rfl rfl)
theorem dX2_selectionSort_28 : decode cX2_selectionSort 28 = .ok (.iload 7, 2) := dk_21 7 (dk_at dksX2_selectionSort_1 4 rfl rfl)
theorem dX2_selectionSort_30 : decode cX2_selectionSort 30 = .ok (.iaload, 1) := dk_46 (dk_at dksX2_selectionSort_1 6 rfl rfl)
theorem dX2_selectionSort_31 : decode cX2_selectionSort 31 = .ok (.aload_n 0, 1) := dk_42 (dk_at dksX2_selectionSort_1 7 rfl rfl)
theorem dX2_selectionSort_32 : decode cX2_selectionSort 32 = .ok (.iload 5, 2) := dk_21 5 (dk_at dksX2_selectionSort_1 8 rfl rfl)
theorem dX2_selectionSort_34 : decode cX2_selectionSort 34 = .ok (.iaload, 1) := dk_46 (dk_at dksX2_selectionSort_1 10 rfl rfl)
theorem dX2_selectionSort_35 : decode cX2_selectionSort 35 = .ok (.invokestatic 5, 3) := dk_184 0 5 (dk_at dksX2_selectionSort_1 11 rfl rfl)
theorem dX2_selectionSort_38 : decode cX2_selectionSort 38 = .ok (.dup, 1) := dk_89 (dk_at dksX2_selectionSort_1 14 rfl rfl)
theorem dX2_selectionSort_39 : decode cX2_selectionSort 39 = .ok (.istore 6, 2) := dk_54 6 (dk_at dksX2_selectionSort_1 15 rfl rfl)
theorem dX2_selectionSort_41 : decode cX2_selectionSort 41 = .ok (.ifCond .lt 19, 3) := dk_155 0 19 (dk_at dksX2_selectionSort_1 17 rfl rfl)
theorem dX2_selectionSort_44 : decode cX2_selectionSort 44 = .ok (.iload 6, 2) := dk_21 6 (dk_at dksX2_selectionSort_1 20 rfl rfl)
theorem dX2_selectionSort_46 : decode cX2_selectionSort 46 = .ok (.ifCond .ne 18, 3) := dk_154 0 18 (dk_at dksX2_selectionSort_2 0 rfl rfl)
theorem dX2_selectionSort_49 : decode cX2_selectionSort 49 = .ok (.aload_n 1, 1) := dk_43 (dk_at dksX2_selectionSort_2 3 rfl rfl)
theorem dX2_selectionSort_50 : decode cX2_selectionSort 50 = .ok (.iload 7, 2) := dk_21 7 (dk_at dksX2_selectionSort_2 4 rfl rfl)
theorem dX2_selectionSort_52 : decode cX2_selectionSort 52 = .ok (.iaload, 1) := dk_46 (dk_at dksX2_selectionSort_2 6 rfl rfl)
theorem dX2_selectionSort_53 : decode cX2_selectionSort 53 = .ok (.aload_n 1, 1) := dk_43 (dk_at dksX2_selectionSort_2 7 rfl rfl)
theorem dX2_selectionSort_54 : decode cX2_selectionSort 54 = .ok (.iload 5, 2) := dk_21 5 (dk_at dksX2_selectionSort_2 8 rfl rfl)
theorem dX2_selectionSort_56 : decode cX2_selectionSort 56 = .ok (.iaload, 1) := dk_46 (dk_at dksX2_selectionSort_2 10 rfl rfl)
theorem dX2_selectionSort_57 : decode cX2_selectionSort 57 = .ok (.if_icmp .ge 7, 3) := dk_162 0 7 (dk_at dksX2_selectionSort_2 11 rfl rfl)
theorem dX2_selectionSort_60 : decode cX2_selectionSort 60 = .ok (.iload 7, 2) := dk_21 7 (dk_at dksX2_selectionSort_2 14 rfl rfl)
theorem dX2_selectionSort_62 : decode cX2_selectionSort 62 = .ok (.istore 5, 2) := dk_54 5 (dk_at dksX2_selectionSort_2 16 rfl rfl)
theorem dX2_selectionSort_64 : decode cX2_selectionSort 64 = .ok (.iinc 7 1, 3) := dk_132 7 1 (dk_at dksX2_selectionSort_2 18 rfl rfl)
theorem dX2_selectionSort_67 : decode cX2_selectionSort 67 = .ok (.goto (-46), 3) := dk_167 255 210 (dk_at dksX2_selectionSort_2 21 rfl rfl)
theorem dX2_selectionSort_70 : decode cX2_selectionSort 70 = .ok (.iload 5, 2) := dk_21 5 (dk_at dksX2_selectionSort_3 0 rfl rfl)
theorem dX2_selectionSort_72 : decode cX2_selectionSort 72 = .ok (.iload 4, 2) := dk_21 4 (dk_at dksX2_selectionSort_3 2 rfl rfl)
theorem dX2_selectionSort_74 : decode cX2_selectionSort 74 = .ok (.if_icmp .eq 43, 3) := dk_159 0 43 (dk_at dksX2_selectionSort_3 4 rfl rfl)
theorem dX2_selectionSort_77 : decode cX2_selectionSort 77 = .ok (.aload_n 0, 1) := dk_42 (dk_at dksX2_selectionSort_3 7 rfl rfl)
theorem dX2_selectionSort_78 : decode cX2_selectionSort 78 = .ok (.iload 4, 2) := dk_21 4 (dk_at dksX2_selectionSort_3 8 rfl rfl)
theorem dX2_selectionSort_80 : decode cX2_selectionSort 80 = .ok (.iaload, 1) := dk_46 (dk_at dksX2_selectionSort_3 10 rfl rfl)
theorem dX2_selectionSort_81 : decode cX2_selectionSort 81 = .ok (.istore 7, 2) := dk_54 7 (dk_at dksX2_selectionSort_3 11 rfl rfl)
theorem dX2_selectionSort_83 : decode cX2_selectionSort 83 = .ok (.aload_n 0, 1) := dk_42 (dk_at dksX2_selectionSort_3 13 rfl rfl)
theorem dX2_selectionSort_84 : decode cX2_selectionSort 84 = .ok (.iload 4, 2) := dk_21 4 (dk_at dksX2_selectionSort_3 14 rfl rfl)
theorem dX2_selectionSort_86 : decode cX2_selectionSort 86 = .ok (.aload_n 0, 1) := dk_42 (dk_at dksX2_selectionSort_3 16 rfl rfl)
theorem dX2_selectionSort_87 : decode cX2_selectionSort 87 = .ok (.iload 5, 2) := dk_21 5 (dk_at dksX2_selectionSort_3 17 rfl rfl)
theorem dX2_selectionSort_89 : decode cX2_selectionSort 89 = .ok (.iaload, 1) := dk_46 (dk_at dksX2_selectionSort_3 19 rfl rfl)
theorem dX2_selectionSort_90 : decode cX2_selectionSort 90 = .ok (.iastore, 1) := dk_79 (dk_at dksX2_selectionSort_3 20 rfl rfl)
theorem dX2_selectionSort_91 : decode cX2_selectionSort 91 = .ok (.aload_n 0, 1) := dk_42 (dk_at dksX2_selectionSort_3 21 rfl rfl)
theorem dX2_selectionSort_92 : decode cX2_selectionSort 92 = .ok (.iload 5, 2) := dk_21 5 (dk_at dksX2_selectionSort_3 22 rfl rfl)
theorem dX2_selectionSort_94 : decode cX2_selectionSort 94 = .ok (.iload 7, 2) := dk_21 7 (dk_at dksX2_selectionSort_4 0 rfl rfl)
theorem dX2_selectionSort_96 : decode cX2_selectionSort 96 = .ok (.iastore, 1) := dk_79 (dk_at dksX2_selectionSort_4 2 rfl rfl)
theorem dX2_selectionSort_97 : decode cX2_selectionSort 97 = .ok (.aload_n 1, 1) := dk_43 (dk_at dksX2_selectionSort_4 3 rfl rfl)
theorem dX2_selectionSort_98 : decode cX2_selectionSort 98 = .ok (.iload 4, 2) := dk_21 4 (dk_at dksX2_selectionSort_4 4 rfl rfl)
theorem dX2_selectionSort_100 : decode cX2_selectionSort 100 = .ok (.iaload, 1) := dk_46 (dk_at dksX2_selectionSort_4 6 rfl rfl)
theorem dX2_selectionSort_101 : decode cX2_selectionSort 101 = .ok (.istore 7, 2) := dk_54 7 (dk_at dksX2_selectionSort_4 7 rfl rfl)
theorem dX2_selectionSort_103 : decode cX2_selectionSort 103 = .ok (.aload_n 1, 1) := dk_43 (dk_at dksX2_selectionSort_4 9 rfl rfl)
theorem dX2_selectionSort_104 : decode cX2_selectionSort 104 = .ok (.iload 4, 2) := dk_21 4 (dk_at dksX2_selectionSort_4 10 rfl rfl)
theorem dX2_selectionSort_106 : decode cX2_selectionSort 106 = .ok (.aload_n 1, 1) := dk_43 (dk_at dksX2_selectionSort_4 12 rfl rfl)
theorem dX2_selectionSort_107 : decode cX2_selectionSort 107 = .ok (.iload 5, 2) := dk_21 5 (dk_at dksX2_selectionSort_4 13 rfl rfl)
theorem dX2_selectionSort_109 : decode cX2_selectionSort 109 = .ok (.iaload, 1) := dk_46 (dk_at dksX2_selectionSort_4 15 rfl rfl)
theorem dX2_selectionSort_110 : decode cX2_selectionSort 110 = .ok (.iastore, 1) := dk_79 (dk_at dksX2_selectionSort_4 16 rfl rfl)
theorem dX2_selectionSort_111 : decode cX2_selectionSort 111 = .ok (.aload_n 1, 1) := dk_43 (dk_at dksX2_selectionSort_4 17 rfl rfl)
theorem dX2_selectionSort_112 : decode cX2_selectionSort 112 = .ok (.iload 5, 2) := dk_21 5 (dk_at dksX2_selectionSort_4 18 rfl rfl)
theorem dX2_selectionSort_114 : decode cX2_selectionSort 114 = .ok (.iload 7, 2) := dk_21 7 (dk_at dksX2_selectionSort_4 20 rfl rfl)
theorem dX2_selectionSort_116 : decode cX2_selectionSort 116 = .ok (.iastore, 1) := dk_79 (dk_at dksX2_selectionSort_4 22 rfl rfl)
theorem dX2_selectionSort_117 : decode cX2_selectionSort 117 = .ok (.iinc 4 1, 3) := dk_132 4 1 (dk_at dksX2_selectionSort_5 0 rfl rfl)
theorem dX2_selectionSort_120 : decode cX2_selectionSort 120 = .ok (.goto (-117), 3) := dk_167 255 139 (dk_at dksX2_selectionSort_5 3 rfl rfl)
theorem dX2_selectionSort_123 : decode cX2_selectionSort 123 = .ok (.return_, 1) := dk_177 (dk_at dksX2_selectionSort_5 6 rfl rfl)
abbrev cX2_med3 : ByteArray := prog_1_method_1_code
def yX2_med3 : MethodName := ⟨RX2, "med3", "([I[IIII)I"⟩
def dkwX2_med3_6 : List UInt8 := [167, 0, 4, 28, 172]
abbrev dktX2_med3_6 : List UInt8 := dkwX2_med3_6 ++ []
def dkwX2_med3_5 : List UInt8 := [167, 0, 27, 28, 167, 0, 23, 21, 8, 158, 0, 7, 29, 167, 0, 14, 21, 7, 158, 0, 8, 21, 4]
abbrev dktX2_med3_5 : List UInt8 := dkwX2_med3_5 ++ dktX2_med3_6
def dkwX2_med3_4 : List UInt8 := [54, 8, 21, 6, 156, 0, 26, 21, 8, 156, 0, 7, 29, 167, 0, 37, 21, 7, 156, 0, 8, 21, 4]
abbrev dktX2_med3_4 : List UInt8 := dkwX2_med3_4 ++ dktX2_med3_5
def dkwX2_med3_3 : List UInt8 := [184, 0, 5, 89, 54, 5, 154, 0, 16, 43, 29, 46, 43, 21, 4, 46, 184, 0, 5, 167, 0, 5, 21, 5]
abbrev dktX2_med3_3 : List UInt8 := dkwX2_med3_3 ++ dktX2_med3_4
def dkwX2_med3_2 : List UInt8 := [28, 46, 43, 21, 4, 46, 184, 0, 5, 167, 0, 5, 21, 5, 54, 7, 42, 29, 46, 42, 21, 4, 46]
abbrev dktX2_med3_2 : List UInt8 := dkwX2_med3_2 ++ dktX2_med3_3
def dkwX2_med3_1 : List UInt8 := [167, 0, 5, 21, 5, 54, 6, 42, 28, 46, 42, 21, 4, 46, 184, 0, 5, 89, 54, 5, 154, 0, 16, 43]
abbrev dktX2_med3_1 : List UInt8 := dkwX2_med3_1 ++ dktX2_med3_2
def dkwX2_med3_0 : List UInt8 := [42, 28, 46, 42, 29, 46, 184, 0, 5, 89, 54, 5, 154, 0, 15, 43, 28, 46, 43, 29, 46, 184, 0, 5]
abbrev dktX2_med3_0 : List UInt8 := dkwX2_med3_0 ++ dktX2_med3_1
theorem dksX2_med3_0 : cX2_med3.data.toList.drop 0 = dktX2_med3_0 := by decide +kernel
theorem dksX2_med3_1 : cX2_med3.data.toList.drop 24 = dktX2_med3_1 := dk_seg dksX2_med3_0 24 rfl rfl
theorem dksX2_med3_2 : cX2_med3.data.toList.drop 48 = dktX2_med3_2 := dk_seg dksX2_med3_1 24 rfl rfl
theorem dksX2_med3_3 : cX2_med3.data.toList.drop 71 = dktX2_med3_3 := dk_seg dksX2_med3_2 23 rfl rfl
theorem dksX2_med3_4 : cX2_med3.data.toList.drop 95 = dktX2_med3_4 := dk_seg dksX2_med3_3 24 rfl rfl
theorem dksX2_med3_5 : cX2_med3.data.toList.drop 118 = dktX2_med3_5 := dk_seg dksX2_med3_4 23 rfl rfl
theorem dksX2_med3_6 : cX2_med3.data.toList.drop 141 = dktX2_med3_6 := dk_seg dksX2_med3_5 23 rfl rfl
theorem dX2_med3_0 : decode cX2_med3 0 = .ok (.aload_n 0, 1) := dk_42 (dk_at dksX2_med3_0 0 rfl rfl)
theorem dX2_med3_1 : decode cX2_med3 1 = .ok (.iload_n 2, 1) := dk_28 (dk_at dksX2_med3_0 1 rfl rfl)
theorem dX2_med3_2 : decode cX2_med3 2 = .ok (.iaload, 1) := dk_46 (dk_at dksX2_med3_0 2 rfl rfl)
theorem dX2_med3_3 : decode cX2_med3 3 = .ok (.aload_n 0, 1) := dk_42 (dk_at dksX2_med3_0 3 rfl rfl)
theorem dX2_med3_4 : decode cX2_med3 4 = .ok (.iload_n 3, 1) := dk_29 (dk_at dksX2_med3_0 4 rfl rfl)
theorem dX2_med3_5 : decode cX2_med3 5 = .ok (.iaload, 1) := dk_46 (dk_at dksX2_med3_0 5 rfl rfl)
theorem dX2_med3_6 : decode cX2_med3 6 = .ok (.invokestatic 5, 3) := dk_184 0 5 (dk_at dksX2_med3_0 6 rfl rfl)
theorem dX2_med3_9 : decode cX2_med3 9 = .ok (.dup, 1) := dk_89 (dk_at dksX2_med3_0 9 rfl rfl)
theorem dX2_med3_10 : decode cX2_med3 10 = .ok (.istore 5, 2) := dk_54 5 (dk_at dksX2_med3_0 10 rfl rfl)
theorem dX2_med3_12 : decode cX2_med3 12 = .ok (.ifCond .ne 15, 3) := dk_154 0 15 (dk_at dksX2_med3_0 12 rfl rfl)
theorem dX2_med3_15 : decode cX2_med3 15 = .ok (.aload_n 1, 1) := dk_43 (dk_at dksX2_med3_0 15 rfl rfl)
theorem dX2_med3_16 : decode cX2_med3 16 = .ok (.iload_n 2, 1) := dk_28 (dk_at dksX2_med3_0 16 rfl rfl)
theorem dX2_med3_17 : decode cX2_med3 17 = .ok (.iaload, 1) := dk_46 (dk_at dksX2_med3_0 17 rfl rfl)
theorem dX2_med3_18 : decode cX2_med3 18 = .ok (.aload_n 1, 1) := dk_43 (dk_at dksX2_med3_0 18 rfl rfl)
theorem dX2_med3_19 : decode cX2_med3 19 = .ok (.iload_n 3, 1) := dk_29 (dk_at dksX2_med3_0 19 rfl rfl)
theorem dX2_med3_20 : decode cX2_med3 20 = .ok (.iaload, 1) := dk_46 (dk_at dksX2_med3_0 20 rfl rfl)
theorem dX2_med3_21 : decode cX2_med3 21 = .ok (.invokestatic 5, 3) := dk_184 0 5 (dk_at dksX2_med3_0 21 rfl rfl)
theorem dX2_med3_24 : decode cX2_med3 24 = .ok (.goto 5, 3) := dk_167 0 5 (dk_at dksX2_med3_1 0 rfl rfl)
theorem dX2_med3_27 : decode cX2_med3 27 = .ok (.iload 5, 2) := dk_21 5 (dk_at dksX2_med3_1 3 rfl rfl)
theorem dX2_med3_29 : decode cX2_med3 29 = .ok (.istore 6, 2) := dk_54 6 (dk_at dksX2_med3_1 5 rfl rfl)
theorem dX2_med3_31 : decode cX2_med3 31 = .ok (.aload_n 0, 1) := dk_42 (dk_at dksX2_med3_1 7 rfl rfl)
theorem dX2_med3_32 : decode cX2_med3 32 = .ok (.iload_n 2, 1) := dk_28 (dk_at dksX2_med3_1 8 rfl rfl)
theorem dX2_med3_33 : decode cX2_med3 33 = .ok (.iaload, 1) := dk_46 (dk_at dksX2_med3_1 9 rfl rfl)
theorem dX2_med3_34 : decode cX2_med3 34 = .ok (.aload_n 0, 1) := dk_42 (dk_at dksX2_med3_1 10 rfl rfl)
theorem dX2_med3_35 : decode cX2_med3 35 = .ok (.iload 4, 2) := dk_21 4 (dk_at dksX2_med3_1 11 rfl rfl)
theorem dX2_med3_37 : decode cX2_med3 37 = .ok (.iaload, 1) := dk_46 (dk_at dksX2_med3_1 13 rfl rfl)
theorem dX2_med3_38 : decode cX2_med3 38 = .ok (.invokestatic 5, 3) := dk_184 0 5 (dk_at dksX2_med3_1 14 rfl rfl)
theorem dX2_med3_41 : decode cX2_med3 41 = .ok (.dup, 1) := dk_89 (dk_at dksX2_med3_1 17 rfl rfl)
theorem dX2_med3_42 : decode cX2_med3 42 = .ok (.istore 5, 2) := dk_54 5 (dk_at dksX2_med3_1 18 rfl rfl)
theorem dX2_med3_44 : decode cX2_med3 44 = .ok (.ifCond .ne 16, 3) := dk_154 0 16 (dk_at dksX2_med3_1 20 rfl rfl)
theorem dX2_med3_47 : decode cX2_med3 47 = .ok (.aload_n 1, 1) := dk_43 (dk_at dksX2_med3_1 23 rfl rfl)
theorem dX2_med3_48 : decode cX2_med3 48 = .ok (.iload_n 2, 1) := dk_28 (dk_at dksX2_med3_2 0 rfl rfl)
theorem dX2_med3_49 : decode cX2_med3 49 = .ok (.iaload, 1) := dk_46 (dk_at dksX2_med3_2 1 rfl rfl)
theorem dX2_med3_50 : decode cX2_med3 50 = .ok (.aload_n 1, 1) := dk_43 (dk_at dksX2_med3_2 2 rfl rfl)
theorem dX2_med3_51 : decode cX2_med3 51 = .ok (.iload 4, 2) := dk_21 4 (dk_at dksX2_med3_2 3 rfl rfl)
theorem dX2_med3_53 : decode cX2_med3 53 = .ok (.iaload, 1) := dk_46 (dk_at dksX2_med3_2 5 rfl rfl)
theorem dX2_med3_54 : decode cX2_med3 54 = .ok (.invokestatic 5, 3) := dk_184 0 5 (dk_at dksX2_med3_2 6 rfl rfl)
theorem dX2_med3_57 : decode cX2_med3 57 = .ok (.goto 5, 3) := dk_167 0 5 (dk_at dksX2_med3_2 9 rfl rfl)
theorem dX2_med3_60 : decode cX2_med3 60 = .ok (.iload 5, 2) := dk_21 5 (dk_at dksX2_med3_2 12 rfl rfl)
theorem dX2_med3_62 : decode cX2_med3 62 = .ok (.istore 7, 2) := dk_54 7 (dk_at dksX2_med3_2 14 rfl rfl)
theorem dX2_med3_64 : decode cX2_med3 64 = .ok (.aload_n 0, 1) := dk_42 (dk_at dksX2_med3_2 16 rfl rfl)
theorem dX2_med3_65 : decode cX2_med3 65 = .ok (.iload_n 3, 1) := dk_29 (dk_at dksX2_med3_2 17 rfl rfl)
theorem dX2_med3_66 : decode cX2_med3 66 = .ok (.iaload, 1) := dk_46 (dk_at dksX2_med3_2 18 rfl rfl)
theorem dX2_med3_67 : decode cX2_med3 67 = .ok (.aload_n 0, 1) := dk_42 (dk_at dksX2_med3_2 19 rfl rfl)
theorem dX2_med3_68 : decode cX2_med3 68 = .ok (.iload 4, 2) := dk_21 4 (dk_at dksX2_med3_2 20 rfl rfl)
theorem dX2_med3_70 : decode cX2_med3 70 = .ok (.iaload, 1) := dk_46 (dk_at dksX2_med3_2 22 rfl rfl)
theorem dX2_med3_71 : decode cX2_med3 71 = .ok (.invokestatic 5, 3) := dk_184 0 5 (dk_at dksX2_med3_3 0 rfl rfl)
theorem dX2_med3_74 : decode cX2_med3 74 = .ok (.dup, 1) := dk_89 (dk_at dksX2_med3_3 3 rfl rfl)
theorem dX2_med3_75 : decode cX2_med3 75 = .ok (.istore 5, 2) := dk_54 5 (dk_at dksX2_med3_3 4 rfl rfl)
theorem dX2_med3_77 : decode cX2_med3 77 = .ok (.ifCond .ne 16, 3) := dk_154 0 16 (dk_at dksX2_med3_3 6 rfl rfl)
theorem dX2_med3_80 : decode cX2_med3 80 = .ok (.aload_n 1, 1) := dk_43 (dk_at dksX2_med3_3 9 rfl rfl)
theorem dX2_med3_81 : decode cX2_med3 81 = .ok (.iload_n 3, 1) := dk_29 (dk_at dksX2_med3_3 10 rfl rfl)
theorem dX2_med3_82 : decode cX2_med3 82 = .ok (.iaload, 1) := dk_46 (dk_at dksX2_med3_3 11 rfl rfl)
theorem dX2_med3_83 : decode cX2_med3 83 = .ok (.aload_n 1, 1) := dk_43 (dk_at dksX2_med3_3 12 rfl rfl)
theorem dX2_med3_84 : decode cX2_med3 84 = .ok (.iload 4, 2) := dk_21 4 (dk_at dksX2_med3_3 13 rfl rfl)
theorem dX2_med3_86 : decode cX2_med3 86 = .ok (.iaload, 1) := dk_46 (dk_at dksX2_med3_3 15 rfl rfl)
theorem dX2_med3_87 : decode cX2_med3 87 = .ok (.invokestatic 5, 3) := dk_184 0 5 (dk_at dksX2_med3_3 16 rfl rfl)
theorem dX2_med3_90 : decode cX2_med3 90 = .ok (.goto 5, 3) := dk_167 0 5 (dk_at dksX2_med3_3 19 rfl rfl)
theorem dX2_med3_93 : decode cX2_med3 93 = .ok (.iload 5, 2) := dk_21 5 (dk_at dksX2_med3_3 22 rfl rfl)
theorem dX2_med3_95 : decode cX2_med3 95 = .ok (.istore 8, 2) := dk_54 8 (dk_at dksX2_med3_4 0 rfl rfl)
theorem dX2_med3_97 : decode cX2_med3 97 = .ok (.iload 6, 2) := dk_21 6 (dk_at dksX2_med3_4 2 rfl rfl)
theorem dX2_med3_99 : decode cX2_med3 99 = .ok (.ifCond .ge 26, 3) := dk_156 0 26 (dk_at dksX2_med3_4 4 rfl rfl)
theorem dX2_med3_102 : decode cX2_med3 102 = .ok (.iload 8, 2) := dk_21 8 (dk_at dksX2_med3_4 7 rfl rfl)
theorem dX2_med3_104 : decode cX2_med3 104 = .ok (.ifCond .ge 7, 3) := dk_156 0 7 (dk_at dksX2_med3_4 9 rfl rfl)
theorem dX2_med3_107 : decode cX2_med3 107 = .ok (.iload_n 3, 1) := dk_29 (dk_at dksX2_med3_4 12 rfl rfl)
theorem dX2_med3_108 : decode cX2_med3 108 = .ok (.goto 37, 3) := dk_167 0 37 (dk_at dksX2_med3_4 13 rfl rfl)
theorem dX2_med3_111 : decode cX2_med3 111 = .ok (.iload 7, 2) := dk_21 7 (dk_at dksX2_med3_4 16 rfl rfl)
theorem dX2_med3_113 : decode cX2_med3 113 = .ok (.ifCond .ge 8, 3) := dk_156 0 8 (dk_at dksX2_med3_4 18 rfl rfl)
theorem dX2_med3_116 : decode cX2_med3 116 = .ok (.iload 4, 2) := dk_21 4 (dk_at dksX2_med3_4 21 rfl rfl)
theorem dX2_med3_118 : decode cX2_med3 118 = .ok (.goto 27, 3) := dk_167 0 27 (dk_at dksX2_med3_5 0 rfl rfl)
theorem dX2_med3_121 : decode cX2_med3 121 = .ok (.iload_n 2, 1) := dk_28 (dk_at dksX2_med3_5 3 rfl rfl)
theorem dX2_med3_122 : decode cX2_med3 122 = .ok (.goto 23, 3) := dk_167 0 23 (dk_at dksX2_med3_5 4 rfl rfl)
theorem dX2_med3_125 : decode cX2_med3 125 = .ok (.iload 8, 2) := dk_21 8 (dk_at dksX2_med3_5 7 rfl rfl)
theorem dX2_med3_127 : decode cX2_med3 127 = .ok (.ifCond .le 7, 3) := dk_158 0 7 (dk_at dksX2_med3_5 9 rfl rfl)
theorem dX2_med3_130 : decode cX2_med3 130 = .ok (.iload_n 3, 1) := dk_29 (dk_at dksX2_med3_5 12 rfl rfl)
theorem dX2_med3_131 : decode cX2_med3 131 = .ok (.goto 14, 3) := dk_167 0 14 (dk_at dksX2_med3_5 13 rfl rfl)
theorem dX2_med3_134 : decode cX2_med3 134 = .ok (.iload 7, 2) := dk_21 7 (dk_at dksX2_med3_5 16 rfl rfl)
theorem dX2_med3_136 : decode cX2_med3 136 = .ok (.ifCond .le 8, 3) := dk_158 0 8 (dk_at dksX2_med3_5 18 rfl rfl)
theorem dX2_med3_139 : decode cX2_med3 139 = .ok (.iload 4, 2) := dk_21 4 (dk_at dksX2_med3_5 21 rfl rfl)
theorem dX2_med3_141 : decode cX2_med3 141 = .ok (.goto 4, 3) := dk_167 0 4 (dk_at dksX2_med3_6 0 rfl rfl)
theorem dX2_med3_144 : decode cX2_med3 144 = .ok (.iload_n 2, 1) := dk_28 (dk_at dksX2_med3_6 3 rfl rfl)
theorem dX2_med3_145 : decode cX2_med3 145 = .ok (.ireturn, 1) := dk_172 (dk_at dksX2_med3_6 4 rfl rfl)
abbrev cX2_swap : ByteArray := prog_1_method_2_code
def yX2_swap : MethodName := ⟨RX2, "swap", "([I[III)V"⟩
def dkwX2_swap_1 : List UInt8 := [21, 4, 79, 43, 29, 21, 5, 79, 177]
abbrev dktX2_swap_1 : List UInt8 := dkwX2_swap_1 ++ []
def dkwX2_swap_0 : List UInt8 := [42, 28, 46, 54, 4, 43, 28, 46, 54, 5, 42, 28, 42, 29, 46, 79, 43, 28, 43, 29, 46, 79, 42, 29]
abbrev dktX2_swap_0 : List UInt8 := dkwX2_swap_0 ++ dktX2_swap_1
theorem dksX2_swap_0 : cX2_swap.data.toList.drop 0 = dktX2_swap_0 := by decide +kernel
theorem dksX2_swap_1 : cX2_swap.data.toList.drop 24 = dktX2_swap_1 := dk_seg dksX2_swap_0 24 rfl rfl
theorem dX2_swap_0 : decode cX2_swap 0 = .ok (.aload_n 0, 1) := dk_42 (dk_at dksX2_swap_0 0 rfl rfl)
theorem dX2_swap_1 : decode cX2_swap 1 = .ok (.iload_n 2, 1) := dk_28 (dk_at dksX2_swap_0 1 rfl rfl)
theorem dX2_swap_2 : decode cX2_swap 2 = .ok (.iaload, 1) := dk_46 (dk_at dksX2_swap_0 2 rfl rfl)
theorem dX2_swap_3 : decode cX2_swap 3 = .ok (.istore 4, 2) := dk_54 4 (dk_at dksX2_swap_0 3 rfl rfl)
theorem dX2_swap_5 : decode cX2_swap 5 = .ok (.aload_n 1, 1) := dk_43 (dk_at dksX2_swap_0 5 rfl rfl)
theorem dX2_swap_6 : decode cX2_swap 6 = .ok (.iload_n 2, 1) := dk_28 (dk_at dksX2_swap_0 6 rfl rfl)
theorem dX2_swap_7 : decode cX2_swap 7 = .ok (.iaload, 1) := dk_46 (dk_at dksX2_swap_0 7 rfl rfl)
theorem dX2_swap_8 : decode cX2_swap 8 = .ok (.istore 5, 2) := dk_54 5 (dk_at dksX2_swap_0 8 rfl rfl)
theorem dX2_swap_10 : decode cX2_swap 10 = .ok (.aload_n 0, 1) := dk_42 (dk_at dksX2_swap_0 10 rfl rfl)
theorem dX2_swap_11 : decode cX2_swap 11 = .ok (.iload_n 2, 1) := dk_28 (dk_at dksX2_swap_0 11 rfl rfl)
theorem dX2_swap_12 : decode cX2_swap 12 = .ok (.aload_n 0, 1) := dk_42 (dk_at dksX2_swap_0 12 rfl rfl)
theorem dX2_swap_13 : decode cX2_swap 13 = .ok (.iload_n 3, 1) := dk_29 (dk_at dksX2_swap_0 13 rfl rfl)
theorem dX2_swap_14 : decode cX2_swap 14 = .ok (.iaload, 1) := dk_46 (dk_at dksX2_swap_0 14 rfl rfl)
theorem dX2_swap_15 : decode cX2_swap 15 = .ok (.iastore, 1) := dk_79 (dk_at dksX2_swap_0 15 rfl rfl)
theorem dX2_swap_16 : decode cX2_swap 16 = .ok (.aload_n 1, 1) := dk_43 (dk_at dksX2_swap_0 16 rfl rfl)
theorem dX2_swap_17 : decode cX2_swap 17 = .ok (.iload_n 2, 1) := dk_28 (dk_at dksX2_swap_0 17 rfl rfl)
theorem dX2_swap_18 : decode cX2_swap 18 = .ok (.aload_n 1, 1) := dk_43 (dk_at dksX2_swap_0 18 rfl rfl)
theorem dX2_swap_19 : decode cX2_swap 19 = .ok (.iload_n 3, 1) := dk_29 (dk_at dksX2_swap_0 19 rfl rfl)
theorem dX2_swap_20 : decode cX2_swap 20 = .ok (.iaload, 1) := dk_46 (dk_at dksX2_swap_0 20 rfl rfl)
theorem dX2_swap_21 : decode cX2_swap 21 = .ok (.iastore, 1) := dk_79 (dk_at dksX2_swap_0 21 rfl rfl)
theorem dX2_swap_22 : decode cX2_swap 22 = .ok (.aload_n 0, 1) := dk_42 (dk_at dksX2_swap_0 22 rfl rfl)
theorem dX2_swap_23 : decode cX2_swap 23 = .ok (.iload_n 3, 1) := dk_29 (dk_at dksX2_swap_0 23 rfl rfl)
theorem dX2_swap_24 : decode cX2_swap 24 = .ok (.iload 4, 2) := dk_21 4 (dk_at dksX2_swap_1 0 rfl rfl)
theorem dX2_swap_26 : decode cX2_swap 26 = .ok (.iastore, 1) := dk_79 (dk_at dksX2_swap_1 2 rfl rfl)
theorem dX2_swap_27 : decode cX2_swap 27 = .ok (.aload_n 1, 1) := dk_43 (dk_at dksX2_swap_1 3 rfl rfl)
theorem dX2_swap_28 : decode cX2_swap 28 = .ok (.iload_n 3, 1) := dk_29 (dk_at dksX2_swap_1 4 rfl rfl)
theorem dX2_swap_29 : decode cX2_swap 29 = .ok (.iload 5, 2) := dk_21 5 (dk_at dksX2_swap_1 5 rfl rfl)
theorem dX2_swap_31 : decode cX2_swap 31 = .ok (.iastore, 1) := dk_79 (dk_at dksX2_swap_1 7 rfl rfl)
theorem dX2_swap_32 : decode cX2_swap 32 = .ok (.return_, 1) := dk_177 (dk_at dksX2_swap_1 8 rfl rfl)
abbrev cX2_swap_2 : ByteArray := prog_1_method_3_code
def yX2_swap_2 : MethodName := ⟨RX2, "swap", "([I[IIII)V"⟩
def dkwX2_swap_2_1 : List UInt8 := [132, 3, 1, 167, 255, 233, 177]
abbrev dktX2_swap_2_1 : List UInt8 := dkwX2_swap_2_1 ++ []
def dkwX2_swap_2_0 : List UInt8 := [3, 54, 5, 21, 5, 21, 4, 162, 0, 22, 42, 43, 28, 29, 184, 0, 9, 132, 5, 1, 132, 2, 1]
abbrev dktX2_swap_2_0 : List UInt8 := dkwX2_swap_2_0 ++ dktX2_swap_2_1
theorem dksX2_swap_2_0 : cX2_swap_2.data.toList.drop 0 = dktX2_swap_2_0 := by decide +kernel
theorem dksX2_swap_2_1 : cX2_swap_2.data.toList.drop 23 = dktX2_swap_2_1 := dk_seg dksX2_swap_2_0 23 rfl rfl
theorem dX2_swap_2_0 : decode cX2_swap_2 0 = .ok (.iconst 0, 1) := dk_3 (dk_at dksX2_swap_2_0 0 rfl rfl)
theorem dX2_swap_2_1 : decode cX2_swap_2 1 = .ok (.istore 5, 2) := dk_54 5 (dk_at dksX2_swap_2_0 1 rfl rfl)
theorem dX2_swap_2_3 : decode cX2_swap_2 3 = .ok (.iload 5, 2) := dk_21 5 (dk_at dksX2_swap_2_0 3 rfl rfl)
theorem dX2_swap_2_5 : decode cX2_swap_2 5 = .ok (.iload 4, 2) := dk_21 4 (dk_at dksX2_swap_2_0 5 rfl rfl)
theorem dX2_swap_2_7 : decode cX2_swap_2 7 = .ok (.if_icmp .ge 22, 3) := dk_162 0 22 (dk_at dksX2_swap_2_0 7 rfl rfl)
theorem dX2_swap_2_10 : decode cX2_swap_2 10 = .ok (.aload_n 0, 1) := dk_42 (dk_at dksX2_swap_2_0 10 rfl rfl)
theorem dX2_swap_2_11 : decode cX2_swap_2 11 = .ok (.aload_n 1, 1) := dk_43 (dk_at dksX2_swap_2_0 11 rfl rfl)
theorem dX2_swap_2_12 : decode cX2_swap_2 12 = .ok (.iload_n 2, 1) := dk_28 (dk_at dksX2_swap_2_0 12 rfl rfl)
theorem dX2_swap_2_13 : decode cX2_swap_2 13 = .ok (.iload_n 3, 1) := dk_29 (dk_at dksX2_swap_2_0 13 rfl rfl)
theorem dX2_swap_2_14 : decode cX2_swap_2 14 = .ok (.invokestatic 9, 3) := dk_184 0 9 (dk_at dksX2_swap_2_0 14 rfl rfl)
theorem dX2_swap_2_17 : decode cX2_swap_2 17 = .ok (.iinc 5 1, 3) := dk_132 5 1 (dk_at dksX2_swap_2_0 17 rfl rfl)
theorem dX2_swap_2_20 : decode cX2_swap_2 20 = .ok (.iinc 2 1, 3) := dk_132 2 1 (dk_at dksX2_swap_2_0 20 rfl rfl)
theorem dX2_swap_2_23 : decode cX2_swap_2 23 = .ok (.iinc 3 1, 3) := dk_132 3 1 (dk_at dksX2_swap_2_1 0 rfl rfl)
theorem dX2_swap_2_26 : decode cX2_swap_2 26 = .ok (.goto (-23), 3) := dk_167 255 233 (dk_at dksX2_swap_2_1 3 rfl rfl)
theorem dX2_swap_2_29 : decode cX2_swap_2 29 = .ok (.return_, 1) := dk_177 (dk_at dksX2_swap_2_1 6 rfl rfl)
abbrev cX2_radixSort : ByteArray := prog_1_method_6_code
def yX2_radixSort : MethodName := ⟨RX2, "radixSort", "([I[III)V"⟩
def dkwX2_radixSort_20 : List UInt8 := [54, 18, 25, 8, 21, 19, 3, 79, 167, 255, 41, 167, 254, 111, 177]
abbrev dktX2_radixSort_20 : List UInt8 := dkwX2_radixSort_20 ++ []
def dkwX2_radixSort_19 : List UInt8 := [21, 19, 46, 79, 25, 7, 21, 4, 132, 4, 1, 21, 12, 4, 96, 79, 21, 18, 25, 8, 21, 19, 46, 96]
abbrev dktX2_radixSort_19 : List UInt8 := dkwX2_radixSort_19 ++ dktX2_radixSort_20
def dkwX2_radixSort_18 : List UInt8 := [21, 19, 46, 96, 184, 0, 28, 167, 0, 32, 25, 5, 21, 4, 21, 18, 79, 25, 6, 21, 4, 25, 8]
abbrev dktX2_radixSort_18 : List UInt8 := dkwX2_radixSort_18 ++ dktX2_radixSort_19
def dkwX2_radixSort_17 : List UInt8 := [4, 164, 0, 61, 25, 8, 21, 19, 46, 17, 4, 0, 162, 0, 21, 42, 43, 21, 18, 21, 18, 25, 8]
abbrev dktX2_radixSort_17 : List UInt8 := dkwX2_radixSort_17 ++ dktX2_radixSort_18
def dkwX2_radixSort_16 : List UInt8 := [42, 21, 18, 21, 21, 79, 43, 21, 18, 21, 22, 79, 21, 12, 16, 7, 162, 0, 70, 25, 8, 21, 19, 46]
abbrev dktX2_radixSort_16 : List UInt8 := dkwX2_radixSort_16 ++ dktX2_radixSort_17
def dkwX2_radixSort_15 : List UInt8 := [21, 20, 21, 23, 79, 21, 22, 54, 23, 43, 21, 20, 46, 54, 22, 43, 21, 20, 21, 23, 79, 167, 255, 189]
abbrev dktX2_radixSort_15 : List UInt8 := dkwX2_radixSort_15 ++ dktX2_radixSort_16
def dkwX2_radixSort_14 : List UInt8 := [21, 15, 124, 17, 0, 255, 126, 21, 13, 130, 54, 19, 21, 21, 54, 23, 42, 21, 20, 46, 54, 21, 42]
abbrev dktX2_radixSort_14 : List UInt8 := dkwX2_radixSort_14 ++ dktX2_radixSort_15
def dkwX2_radixSort_13 : List UInt8 := [25, 9, 21, 19, 92, 46, 4, 100, 91, 79, 89, 54, 20, 21, 18, 164, 0, 55, 25, 14, 21, 20, 46]
abbrev dktX2_radixSort_13 : List UInt8 := dkwX2_radixSort_13 ++ dktX2_radixSort_14
def dkwX2_radixSort_12 : List UInt8 := [25, 14, 21, 18, 46, 21, 15, 124, 17, 0, 255, 126, 21, 13, 130, 54, 19, 21, 18, 21, 17, 162, 0, 85]
abbrev dktX2_radixSort_12 : List UInt8 := dkwX2_radixSort_12 ++ dktX2_radixSort_13
def dkwX2_radixSort_11 : List UInt8 := [54, 18, 2, 54, 19, 21, 18, 21, 17, 163, 0, 214, 42, 21, 18, 46, 54, 21, 43, 21, 18, 46, 54, 22]
abbrev dktX2_radixSort_11 : List UInt8 := dkwX2_radixSort_11 ++ dktX2_radixSort_12
def dkwX2_radixSort_10 : List UInt8 := [54, 18, 79, 132, 17, 1, 167, 255, 217, 21, 10, 21, 11, 96, 25, 8, 21, 16, 46, 100, 54, 17, 21, 10]
abbrev dktX2_radixSort_10 : List UInt8 := dkwX2_radixSort_10 ++ dktX2_radixSort_11
def dkwX2_radixSort_9 : List UInt8 := [21, 17, 46, 153, 0, 7, 21, 17, 54, 16, 25, 9, 21, 17, 21, 18, 25, 8, 21, 17, 46, 96, 89]
abbrev dktX2_radixSort_9 : List UInt8 := dkwX2_radixSort_9 ++ dktX2_radixSort_10
def dkwX2_radixSort_8 : List UInt8 := [167, 255, 224, 2, 54, 16, 3, 54, 17, 21, 10, 54, 18, 21, 17, 17, 1, 0, 162, 0, 37, 25, 8]
abbrev dktX2_radixSort_8 : List UInt8 := dkwX2_radixSort_8 ++ dktX2_radixSort_9
def dkwX2_radixSort_7 : List UInt8 := [25, 8, 25, 14, 21, 16, 46, 21, 15, 124, 17, 0, 255, 126, 21, 13, 130, 92, 46, 4, 96, 79]
abbrev dktX2_radixSort_7 : List UInt8 := dkwX2_radixSort_7 ++ dktX2_radixSort_8
def dkwX2_radixSort_6 : List UInt8 := [100, 16, 8, 104, 54, 15, 21, 10, 21, 11, 96, 54, 16, 21, 16, 132, 16, 255, 21, 10, 159, 0, 28]
abbrev dktX2_radixSort_6 : List UInt8 := dkwX2_radixSort_6 ++ dktX2_radixSort_7
def dkwX2_radixSort_5 : List UInt8 := [167, 0, 4, 3, 54, 13, 21, 12, 7, 162, 0, 7, 42, 167, 0, 4, 43, 58, 14, 6, 21, 12, 7, 112]
abbrev dktX2_radixSort_5 : List UInt8 := dkwX2_radixSort_5 ++ dktX2_radixSort_6
def dkwX2_radixSort_4 : List UInt8 := [21, 4, 46, 54, 11, 25, 7, 21, 4, 46, 54, 12, 21, 12, 7, 112, 154, 0, 9, 17, 0, 128]
abbrev dktX2_radixSort_4 : List UInt8 := dkwX2_radixSort_4 ++ dktX2_radixSort_5
def dkwX2_radixSort_3 : List UInt8 := [17, 1, 0, 188, 10, 58, 9, 21, 4, 158, 1, 146, 25, 5, 132, 4, 255, 21, 4, 46, 54, 10, 25, 6]
abbrev dktX2_radixSort_3 : List UInt8 := dkwX2_radixSort_3 ++ dktX2_radixSort_4
def dkwX2_radixSort_2 : List UInt8 := [25, 6, 21, 4, 29, 28, 100, 79, 25, 7, 21, 4, 132, 4, 1, 3, 79, 17, 1, 0, 188, 10, 58, 8]
abbrev dktX2_radixSort_2 : List UInt8 := dkwX2_radixSort_2 ++ dktX2_radixSort_3
def dkwX2_radixSort_1 : List UInt8 := [188, 10, 58, 5, 17, 6, 250, 188, 10, 58, 6, 17, 6, 250, 188, 10, 58, 7, 25, 5, 21, 4, 28, 79]
abbrev dktX2_radixSort_1 : List UInt8 := dkwX2_radixSort_1 ++ dktX2_radixSort_2
def dkwX2_radixSort_0 : List UInt8 := [29, 28, 100, 17, 4, 0, 162, 0, 11, 42, 43, 28, 29, 184, 0, 28, 177, 3, 54, 4, 17, 6, 250]
abbrev dktX2_radixSort_0 : List UInt8 := dkwX2_radixSort_0 ++ dktX2_radixSort_1
theorem dksX2_radixSort_0 : cX2_radixSort.data.toList.drop 0 = dktX2_radixSort_0 := by decide +kernel
theorem dksX2_radixSort_1 : cX2_radixSort.data.toList.drop 23 = dktX2_radixSort_1 := dk_seg dksX2_radixSort_0 23 rfl rfl
theorem dksX2_radixSort_2 : cX2_radixSort.data.toList.drop 47 = dktX2_radixSort_2 := dk_seg dksX2_radixSort_1 24 rfl rfl
theorem dksX2_radixSort_3 : cX2_radixSort.data.toList.drop 71 = dktX2_radixSort_3 := dk_seg dksX2_radixSort_2 24 rfl rfl
theorem dksX2_radixSort_4 : cX2_radixSort.data.toList.drop 95 = dktX2_radixSort_4 := dk_seg dksX2_radixSort_3 24 rfl rfl
theorem dksX2_radixSort_5 : cX2_radixSort.data.toList.drop 117 = dktX2_radixSort_5 := dk_seg dksX2_radixSort_4 22 rfl rfl
theorem dksX2_radixSort_6 : cX2_radixSort.data.toList.drop 141 = dktX2_radixSort_6 := dk_seg dksX2_radixSort_5 24 rfl rfl
theorem dksX2_radixSort_7 : cX2_radixSort.data.toList.drop 164 = dktX2_radixSort_7 := dk_seg dksX2_radixSort_6 23 rfl rfl
theorem dksX2_radixSort_8 : cX2_radixSort.data.toList.drop 186 = dktX2_radixSort_8 := dk_seg dksX2_radixSort_7 22 rfl rfl
theorem dksX2_radixSort_9 : cX2_radixSort.data.toList.drop 209 = dktX2_radixSort_9 := dk_seg dksX2_radixSort_8 23 rfl rfl
theorem dksX2_radixSort_10 : cX2_radixSort.data.toList.drop 232 = dktX2_radixSort_10 := dk_seg dksX2_radixSort_9 23 rfl rfl
theorem dksX2_radixSort_11 : cX2_radixSort.data.toList.drop 256 = dktX2_radixSort_11 := dk_seg dksX2_radixSort_10 24 rfl rfl
theorem dksX2_radixSort_12 : cX2_radixSort.data.toList.drop 280 = dktX2_radixSort_12 := dk_seg dksX2_radixSort_11 24 rfl rfl
theorem dksX2_radixSort_13 : cX2_radixSort.data.toList.drop 304 = dktX2_radixSort_13 := dk_seg dksX2_radixSort_12 24 rfl rfl
theorem dksX2_radixSort_14 : cX2_radixSort.data.toList.drop 327 = dktX2_radixSort_14 := dk_seg dksX2_radixSort_13 23 rfl rfl
theorem dksX2_radixSort_15 : cX2_radixSort.data.toList.drop 350 = dktX2_radixSort_15 := dk_seg dksX2_radixSort_14 23 rfl rfl
theorem dksX2_radixSort_16 : cX2_radixSort.data.toList.drop 374 = dktX2_radixSort_16 := dk_seg dksX2_radixSort_15 24 rfl rfl
theorem dksX2_radixSort_17 : cX2_radixSort.data.toList.drop 398 = dktX2_radixSort_17 := dk_seg dksX2_radixSort_16 24 rfl rfl
theorem dksX2_radixSort_18 : cX2_radixSort.data.toList.drop 421 = dktX2_radixSort_18 := dk_seg dksX2_radixSort_17 23 rfl rfl
theorem dksX2_radixSort_19 : cX2_radixSort.data.toList.drop 444 = dktX2_radixSort_19 := dk_seg dksX2_radixSort_18 23 rfl rfl
theorem dksX2_radixSort_20 : cX2_radixSort.data.toList.drop 468 = dktX2_radixSort_20 := dk_seg dksX2_radixSort_19 24 rfl rfl
theorem dX2_radixSort_0 : decode cX2_radixSort 0 = .ok (.iload_n 3, 1) := dk_29 (dk_at dksX2_radixSort_0 0 rfl rfl)
theorem dX2_radixSort_1 : decode cX2_radixSort 1 = .ok (.iload_n 2, 1) := dk_28 (dk_at dksX2_radixSort_0 1 rfl rfl)
theorem dX2_radixSort_2 : decode cX2_radixSort 2 = .ok (.isub, 1) := dk_100 (dk_at dksX2_radixSort_0 2 rfl rfl)
theorem dX2_radixSort_3 : decode cX2_radixSort 3 = .ok (.sipush 1024, 3) := dk_17 4 0 (dk_at dksX2_radixSort_0 3 rfl rfl)
theorem dX2_radixSort_6 : decode cX2_radixSort 6 = .ok (.if_icmp .ge 11, 3) := dk_162 0 11 (dk_at dksX2_radixSort_0 6 rfl rfl)
theorem dX2_radixSort_9 : decode cX2_radixSort 9 = .ok (.aload_n 0, 1) := dk_42 (dk_at dksX2_radixSort_0 9 rfl rfl)
theorem dX2_radixSort_10 : decode cX2_radixSort 10 = .ok (.aload_n 1, 1) := dk_43 (dk_at dksX2_radixSort_0 10 rfl rfl)
theorem dX2_radixSort_11 : decode cX2_radixSort 11 = .ok (.iload_n 2, 1) := dk_28 (dk_at dksX2_radixSort_0 11 rfl rfl)
theorem dX2_radixSort_12 : decode cX2_radixSort 12 = .ok (.iload_n 3, 1) := dk_29 (dk_at dksX2_radixSort_0 12 rfl rfl)
theorem dX2_radixSort_13 : decode cX2_radixSort 13 = .ok (.invokestatic 28, 3) := dk_184 0 28 (dk_at dksX2_radixSort_0 13 rfl rfl)
theorem dX2_radixSort_16 : decode cX2_radixSort 16 = .ok (.return_, 1) := dk_177 (dk_at dksX2_radixSort_0 16 rfl rfl)
abbrev cX2_radixSortIndirect : ByteArray := prog_1_method_8_code
def yX2_radixSortIndirect : MethodName := ⟨RX2, "radixSortIndirect", "([I[I[IIIZ)V"⟩
def dkwX2_radixSortIndirect_28 : List UInt8 := [25, 10, 21, 22, 3, 79, 167, 255, 69, 167, 253, 202, 177]
abbrev dktX2_radixSortIndirect_28 : List UInt8 := dkwX2_radixSortIndirect_28 ++ []
def dkwX2_radixSortIndirect_27 : List UInt8 := [79, 25, 9, 21, 6, 132, 6, 1, 21, 15, 4, 96, 79, 21, 21, 25, 10, 21, 22, 46, 96, 54, 21]
abbrev dktX2_radixSortIndirect_27 : List UInt8 := dkwX2_radixSortIndirect_27 ++ dktX2_radixSortIndirect_28
def dkwX2_radixSortIndirect_26 : List UInt8 := [46, 96, 184, 0, 31, 167, 0, 32, 25, 7, 21, 6, 21, 21, 79, 25, 8, 21, 6, 25, 10, 21, 22, 46]
abbrev dktX2_radixSortIndirect_26 : List UInt8 := dkwX2_radixSortIndirect_26 ++ dktX2_radixSortIndirect_27
def dkwX2_radixSortIndirect_25 : List UInt8 := [164, 0, 61, 25, 10, 21, 22, 46, 16, 64, 162, 0, 22, 42, 43, 44, 21, 21, 21, 21, 25, 10, 21, 22]
abbrev dktX2_radixSortIndirect_25 : List UInt8 := dkwX2_radixSortIndirect_25 ++ dktX2_radixSortIndirect_26
def dkwX2_radixSortIndirect_24 : List UInt8 := [167, 255, 205, 42, 21, 21, 21, 24, 79, 21, 15, 16, 7, 162, 0, 70, 25, 10, 21, 22, 46, 4]
abbrev dktX2_radixSortIndirect_24 : List UInt8 := dkwX2_radixSortIndirect_24 ++ dktX2_radixSortIndirect_25
def dkwX2_radixSortIndirect_23 : List UInt8 := [21, 23, 21, 25, 79, 25, 17, 21, 24, 46, 21, 18, 124, 17, 0, 255, 126, 21, 16, 130, 54, 22]
abbrev dktX2_radixSortIndirect_23 : List UInt8 := dkwX2_radixSortIndirect_23 ++ dktX2_radixSortIndirect_24
def dkwX2_radixSortIndirect_22 : List UInt8 := [46, 4, 100, 91, 79, 89, 54, 23, 21, 21, 164, 0, 39, 21, 24, 54, 25, 42, 21, 23, 46, 54, 24, 42]
abbrev dktX2_radixSortIndirect_22 : List UInt8 := dkwX2_radixSortIndirect_22 ++ dktX2_radixSortIndirect_23
def dkwX2_radixSortIndirect_21 : List UInt8 := [21, 18, 124, 17, 0, 255, 126, 21, 16, 130, 54, 22, 21, 21, 21, 20, 162, 0, 63, 25, 11, 21, 22, 92]
abbrev dktX2_radixSortIndirect_21 : List UInt8 := dkwX2_radixSortIndirect_21 ++ dktX2_radixSortIndirect_22
def dkwX2_radixSortIndirect_20 : List UInt8 := [54, 21, 2, 54, 22, 21, 21, 21, 20, 163, 0, 186, 42, 21, 21, 46, 54, 24, 25, 17, 21, 24, 46]
abbrev dktX2_radixSortIndirect_20 : List UInt8 := dkwX2_radixSortIndirect_20 ++ dktX2_radixSortIndirect_21
def dkwX2_radixSortIndirect_19 : List UInt8 := [25, 10, 3, 184, 0, 41, 167, 0, 213, 21, 13, 21, 14, 96, 25, 10, 21, 19, 46, 100, 54, 20, 21, 13]
abbrev dktX2_radixSortIndirect_19 : List UInt8 := dkwX2_radixSortIndirect_19 ++ dktX2_radixSortIndirect_20
def dkwX2_radixSortIndirect_18 : List UInt8 := [132, 6, 1, 21, 15, 4, 96, 79, 21, 21, 25, 10, 21, 20, 46, 96, 54, 21, 132, 20, 1, 167, 255, 161]
abbrev dktX2_radixSortIndirect_18 : List UInt8 := dkwX2_radixSortIndirect_18 ++ dktX2_radixSortIndirect_19
def dkwX2_radixSortIndirect_17 : List UInt8 := [167, 0, 32, 25, 7, 21, 6, 21, 21, 79, 25, 8, 21, 6, 25, 10, 21, 20, 46, 79, 25, 9, 21, 6]
abbrev dktX2_radixSortIndirect_17 : List UInt8 := dkwX2_radixSortIndirect_17 ++ dktX2_radixSortIndirect_18
def dkwX2_radixSortIndirect_16 : List UInt8 := [21, 20, 46, 16, 64, 162, 0, 22, 42, 43, 44, 21, 21, 21, 21, 25, 10, 21, 20, 46, 96, 184, 0, 31]
abbrev dktX2_radixSortIndirect_16 : List UInt8 := dkwX2_radixSortIndirect_16 ++ dktX2_radixSortIndirect_17
def dkwX2_radixSortIndirect_15 : List UInt8 := [17, 1, 0, 162, 0, 93, 21, 15, 16, 7, 162, 0, 70, 25, 10, 21, 20, 46, 4, 164, 0, 61, 25, 10]
abbrev dktX2_radixSortIndirect_15 : List UInt8 := dkwX2_radixSortIndirect_15 ++ dktX2_radixSortIndirect_16
def dkwX2_radixSortIndirect_14 : List UInt8 := [167, 255, 214, 25, 12, 3, 42, 21, 13, 21, 14, 184, 0, 35, 3, 54, 20, 21, 13, 54, 21, 21, 20]
abbrev dktX2_radixSortIndirect_14 : List UInt8 := dkwX2_radixSortIndirect_14 ++ dktX2_radixSortIndirect_15
def dkwX2_radixSortIndirect_13 : List UInt8 := [46, 46, 21, 18, 124, 17, 0, 255, 126, 21, 16, 130, 92, 46, 4, 100, 91, 79, 42, 21, 20, 46, 79]
abbrev dktX2_radixSortIndirect_13 : List UInt8 := dkwX2_radixSortIndirect_13 ++ dktX2_radixSortIndirect_14
def dkwX2_radixSortIndirect_12 : List UInt8 := [21, 14, 96, 54, 20, 21, 20, 132, 20, 255, 21, 13, 159, 0, 38, 25, 12, 25, 11, 25, 17, 42, 21, 20]
abbrev dktX2_radixSortIndirect_12 : List UInt8 := dkwX2_radixSortIndirect_12 ++ dktX2_radixSortIndirect_13
def dkwX2_radixSortIndirect_11 : List UInt8 := [25, 10, 21, 20, 46, 96, 89, 54, 21, 79, 132, 20, 1, 167, 255, 217, 21, 5, 153, 0, 180, 21, 13]
abbrev dktX2_radixSortIndirect_11 : List UInt8 := dkwX2_radixSortIndirect_11 ++ dktX2_radixSortIndirect_12
def dkwX2_radixSortIndirect_10 : List UInt8 := [17, 1, 0, 162, 0, 37, 25, 10, 21, 20, 46, 153, 0, 7, 21, 20, 54, 19, 25, 11, 21, 20, 21, 21]
abbrev dktX2_radixSortIndirect_10 : List UInt8 := dkwX2_radixSortIndirect_10 ++ dktX2_radixSortIndirect_11
def dkwX2_radixSortIndirect_9 : List UInt8 := [167, 255, 222, 2, 54, 19, 3, 54, 20, 21, 5, 153, 0, 7, 3, 167, 0, 5, 21, 13, 54, 21, 21, 20]
abbrev dktX2_radixSortIndirect_9 : List UInt8 := dkwX2_radixSortIndirect_9 ++ dktX2_radixSortIndirect_10
def dkwX2_radixSortIndirect_8 : List UInt8 := [25, 10, 25, 17, 42, 21, 19, 46, 46, 21, 18, 124, 17, 0, 255, 126, 21, 16, 130, 92, 46, 4, 96, 79]
abbrev dktX2_radixSortIndirect_8 : List UInt8 := dkwX2_radixSortIndirect_8 ++ dktX2_radixSortIndirect_9
def dkwX2_radixSortIndirect_7 : List UInt8 := [100, 16, 8, 104, 54, 18, 21, 13, 21, 14, 96, 54, 19, 21, 19, 132, 19, 255, 21, 13, 159, 0, 30]
abbrev dktX2_radixSortIndirect_7 : List UInt8 := dkwX2_radixSortIndirect_7 ++ dktX2_radixSortIndirect_8
def dkwX2_radixSortIndirect_6 : List UInt8 := [167, 0, 4, 3, 54, 16, 21, 15, 7, 162, 0, 7, 43, 167, 0, 4, 44, 58, 17, 6, 21, 15, 7, 112]
abbrev dktX2_radixSortIndirect_6 : List UInt8 := dkwX2_radixSortIndirect_6 ++ dktX2_radixSortIndirect_7
def dkwX2_radixSortIndirect_5 : List UInt8 := [21, 6, 46, 54, 14, 25, 9, 21, 6, 46, 54, 15, 21, 15, 7, 112, 154, 0, 9, 17, 0, 128]
abbrev dktX2_radixSortIndirect_5 : List UInt8 := dkwX2_radixSortIndirect_5 ++ dktX2_radixSortIndirect_6
def dkwX2_radixSortIndirect_4 : List UInt8 := [167, 0, 4, 1, 58, 12, 21, 6, 158, 2, 55, 25, 7, 132, 6, 255, 21, 6, 46, 54, 13, 25, 8]
abbrev dktX2_radixSortIndirect_4 : List UInt8 := dkwX2_radixSortIndirect_4 ++ dktX2_radixSortIndirect_5
def dkwX2_radixSortIndirect_3 : List UInt8 := [17, 1, 0, 188, 10, 58, 10, 17, 1, 0, 188, 10, 58, 11, 21, 5, 153, 0, 10, 42, 190, 188, 10]
abbrev dktX2_radixSortIndirect_3 : List UInt8 := dkwX2_radixSortIndirect_3 ++ dktX2_radixSortIndirect_4
def dkwX2_radixSortIndirect_2 : List UInt8 := [21, 6, 29, 79, 25, 8, 21, 6, 21, 4, 29, 100, 79, 25, 9, 21, 6, 132, 6, 1, 3, 79]
abbrev dktX2_radixSortIndirect_2 : List UInt8 := dkwX2_radixSortIndirect_2 ++ dktX2_radixSortIndirect_3
def dkwX2_radixSortIndirect_1 : List UInt8 := [17, 6, 250, 188, 10, 58, 7, 17, 6, 250, 188, 10, 58, 8, 17, 6, 250, 188, 10, 58, 9, 25, 7]
abbrev dktX2_radixSortIndirect_1 : List UInt8 := dkwX2_radixSortIndirect_1 ++ dktX2_radixSortIndirect_2
def dkwX2_radixSortIndirect_0 : List UInt8 := [21, 4, 29, 100, 16, 64, 162, 0, 13, 42, 43, 44, 29, 21, 4, 184, 0, 31, 177, 3, 54, 6]
abbrev dktX2_radixSortIndirect_0 : List UInt8 := dkwX2_radixSortIndirect_0 ++ dktX2_radixSortIndirect_1
theorem dksX2_radixSortIndirect_0 : cX2_radixSortIndirect.data.toList.drop 0 = dktX2_radixSortIndirect_0 := by decide +kernel
theorem dksX2_radixSortIndirect_1 : cX2_radixSortIndirect.data.toList.drop 22 = dktX2_radixSortIndirect_1 := dk_seg dksX2_radixSortIndirect_0 22 rfl rfl
theorem dksX2_radixSortIndirect_2 : cX2_radixSortIndirect.data.toList.drop 45 = dktX2_radixSortIndirect_2 := dk_seg dksX2_radixSortIndirect_1 23 rfl rfl
theorem dksX2_radixSortIndirect_3 : cX2_radixSortIndirect.data.toList.drop 67 = dktX2_radixSortIndirect_3 := dk_seg dksX2_radixSortIndirect_2 22 rfl rfl
theorem dksX2_radixSortIndirect_4 : cX2_radixSortIndirect.data.toList.drop 90 = dktX2_radixSortIndirect_4 := dk_seg dksX2_radixSortIndirect_3 23 rfl rfl
theorem dksX2_radixSortIndirect_5 : cX2_radixSortIndirect.data.toList.drop 113 = dktX2_radixSortIndirect_5 := dk_seg dksX2_radixSortIndirect_4 23 rfl rfl
theorem dksX2_radixSortIndirect_6 : cX2_radixSortIndirect.data.toList.drop 135 = dktX2_radixSortIndirect_6 := dk_seg dksX2_radixSortIndirect_5 22 rfl rfl
theorem dksX2_radixSortIndirect_7 : cX2_radixSortIndirect.data.toList.drop 159 = dktX2_radixSortIndirect_7 := dk_seg dksX2_radixSortIndirect_6 24 rfl rfl
theorem dksX2_radixSortIndirect_8 : cX2_radixSortIndirect.data.toList.drop 182 = dktX2_radixSortIndirect_8 := dk_seg dksX2_radixSortIndirect_7 23 rfl rfl
theorem dksX2_radixSortIndirect_9 : cX2_radixSortIndirect.data.toList.drop 206 = dktX2_radixSortIndirect_9 := dk_seg dksX2_radixSortIndirect_8 24 rfl rfl
theorem dksX2_radixSortIndirect_10 : cX2_radixSortIndirect.data.toList.drop 230 = dktX2_radixSortIndirect_10 := dk_seg dksX2_radixSortIndirect_9 24 rfl rfl
theorem dksX2_radixSortIndirect_11 : cX2_radixSortIndirect.data.toList.drop 254 = dktX2_radixSortIndirect_11 := dk_seg dksX2_radixSortIndirect_10 24 rfl rfl
theorem dksX2_radixSortIndirect_12 : cX2_radixSortIndirect.data.toList.drop 277 = dktX2_radixSortIndirect_12 := dk_seg dksX2_radixSortIndirect_11 23 rfl rfl
theorem dksX2_radixSortIndirect_13 : cX2_radixSortIndirect.data.toList.drop 301 = dktX2_radixSortIndirect_13 := dk_seg dksX2_radixSortIndirect_12 24 rfl rfl
theorem dksX2_radixSortIndirect_14 : cX2_radixSortIndirect.data.toList.drop 324 = dktX2_radixSortIndirect_14 := dk_seg dksX2_radixSortIndirect_13 23 rfl rfl
theorem dksX2_radixSortIndirect_15 : cX2_radixSortIndirect.data.toList.drop 347 = dktX2_radixSortIndirect_15 := dk_seg dksX2_radixSortIndirect_14 23 rfl rfl
theorem dksX2_radixSortIndirect_16 : cX2_radixSortIndirect.data.toList.drop 371 = dktX2_radixSortIndirect_16 := dk_seg dksX2_radixSortIndirect_15 24 rfl rfl
theorem dksX2_radixSortIndirect_17 : cX2_radixSortIndirect.data.toList.drop 395 = dktX2_radixSortIndirect_17 := dk_seg dksX2_radixSortIndirect_16 24 rfl rfl
theorem dksX2_radixSortIndirect_18 : cX2_radixSortIndirect.data.toList.drop 419 = dktX2_radixSortIndirect_18 := dk_seg dksX2_radixSortIndirect_17 24 rfl rfl
theorem dksX2_radixSortIndirect_19 : cX2_radixSortIndirect.data.toList.drop 443 = dktX2_radixSortIndirect_19 := dk_seg dksX2_radixSortIndirect_18 24 rfl rfl
theorem dksX2_radixSortIndirect_20 : cX2_radixSortIndirect.data.toList.drop 467 = dktX2_radixSortIndirect_20 := dk_seg dksX2_radixSortIndirect_19 24 rfl rfl
theorem dksX2_radixSortIndirect_21 : cX2_radixSortIndirect.data.toList.drop 490 = dktX2_radixSortIndirect_21 := dk_seg dksX2_radixSortIndirect_20 23 rfl rfl
theorem dksX2_radixSortIndirect_22 : cX2_radixSortIndirect.data.toList.drop 514 = dktX2_radixSortIndirect_22 := dk_seg dksX2_radixSortIndirect_21 24 rfl rfl
theorem dksX2_radixSortIndirect_23 : cX2_radixSortIndirect.data.toList.drop 538 = dktX2_radixSortIndirect_23 := dk_seg dksX2_radixSortIndirect_22 24 rfl rfl
theorem dksX2_radixSortIndirect_24 : cX2_radixSortIndirect.data.toList.drop 560 = dktX2_radixSortIndirect_24 := dk_seg dksX2_radixSortIndirect_23 22 rfl rfl
theorem dksX2_radixSortIndirect_25 : cX2_radixSortIndirect.data.toList.drop 582 = dktX2_radixSortIndirect_25 := dk_seg dksX2_radixSortIndirect_24 22 rfl rfl
theorem dksX2_radixSortIndirect_26 : cX2_radixSortIndirect.data.toList.drop 606 = dktX2_radixSortIndirect_26 := dk_seg dksX2_radixSortIndirect_25 24 rfl rfl
theorem dksX2_radixSortIndirect_27 : cX2_radixSortIndirect.data.toList.drop 630 = dktX2_radixSortIndirect_27 := dk_seg dksX2_radixSortIndirect_26 24 rfl rfl
theorem dksX2_radixSortIndirect_28 : cX2_radixSortIndirect.data.toList.drop 653 = dktX2_radixSortIndirect_28 := dk_seg dksX2_radixSortIndirect_27 23 rfl rfl
theorem dX2_radixSortIndirect_0 : decode cX2_radixSortIndirect 0 = .ok (.iload 4, 2) := dk_21 4 (dk_at dksX2_radixSortIndirect_0 0 rfl rfl)
theorem dX2_radixSortIndirect_2 : decode cX2_radixSortIndirect 2 = .ok (.iload_n 3, 1) := dk_29 (dk_at dksX2_radixSortIndirect_0 2 rfl rfl)
theorem dX2_radixSortIndirect_3 : decode cX2_radixSortIndirect 3 = .ok (.isub, 1) := dk_100 (dk_at dksX2_radixSortIndirect_0 3 rfl rfl)
theorem dX2_radixSortIndirect_4 : decode cX2_radixSortIndirect 4 = .ok (.bipush 64, 2) := dk_16 64 (dk_at dksX2_radixSortIndirect_0 4 rfl rfl)
theorem dX2_radixSortIndirect_6 : decode cX2_radixSortIndirect 6 = .ok (.if_icmp .ge 13, 3) := dk_162 0 13 (dk_at dksX2_radixSortIndirect_0 6 rfl rfl)
theorem dX2_radixSortIndirect_9 : decode cX2_radixSortIndirect 9 = .ok (.aload_n 0, 1) := dk_42 (dk_at dksX2_radixSortIndirect_0 9 rfl rfl)
theorem dX2_radixSortIndirect_10 : decode cX2_radixSortIndirect 10 = .ok (.aload_n 1, 1) := dk_43 (dk_at dksX2_radixSortIndirect_0 10 rfl rfl)
theorem dX2_radixSortIndirect_11 : decode cX2_radixSortIndirect 11 = .ok (.aload_n 2, 1) := dk_44 (dk_at dksX2_radixSortIndirect_0 11 rfl rfl)
theorem dX2_radixSortIndirect_12 : decode cX2_radixSortIndirect 12 = .ok (.iload_n 3, 1) := dk_29 (dk_at dksX2_radixSortIndirect_0 12 rfl rfl)
theorem dX2_radixSortIndirect_13 : decode cX2_radixSortIndirect 13 = .ok (.iload 4, 2) := dk_21 4 (dk_at dksX2_radixSortIndirect_0 13 rfl rfl)
theorem dX2_radixSortIndirect_15 : decode cX2_radixSortIndirect 15 = .ok (.invokestatic 31, 3) := dk_184 0 31 (dk_at dksX2_radixSortIndirect_0 15 rfl rfl)
theorem dX2_radixSortIndirect_18 : decode cX2_radixSortIndirect 18 = .ok (.return_, 1) := dk_177 (dk_at dksX2_radixSortIndirect_0 18 rfl rfl)
abbrev cX2_insertionSortIndirect : ByteArray := prog_1_method_7_code
def yX2_insertionSortIndirect : MethodName := ⟨RX2, "insertionSortIndirect", "([I[I[III)V"⟩
def dkwX2_insertionSortIndirect_4 : List UInt8 := [167, 255, 192, 42, 21, 7, 21, 6, 79, 167, 255, 155, 177]
abbrev dktX2_insertionSortIndirect_4 : List UInt8 := dkwX2_insertionSortIndirect_4 ++ []
def dkwX2_insertionSortIndirect_3 : List UInt8 := [21, 7, 4, 100, 160, 0, 9, 132, 7, 255, 167, 0, 17, 42, 132, 7, 255, 21, 7, 4, 100, 46, 54, 8]
abbrev dktX2_insertionSortIndirect_3 : List UInt8 := dkwX2_insertionSortIndirect_3 ++ dktX2_insertionSortIndirect_4
def dkwX2_insertionSortIndirect_2 : List UInt8 := [21, 8, 46, 160, 0, 48, 44, 21, 6, 46, 44, 21, 8, 46, 162, 0, 37, 42, 21, 7, 21, 8, 79, 29]
abbrev dktX2_insertionSortIndirect_2 : List UInt8 := dkwX2_insertionSortIndirect_2 ++ dktX2_insertionSortIndirect_3
def dkwX2_insertionSortIndirect_1 : List UInt8 := [21, 7, 4, 100, 46, 54, 8, 43, 21, 6, 46, 43, 21, 8, 46, 161, 0, 25, 43, 21, 6, 46, 43]
abbrev dktX2_insertionSortIndirect_1 : List UInt8 := dkwX2_insertionSortIndirect_1 ++ dktX2_insertionSortIndirect_2
def dkwX2_insertionSortIndirect_0 : List UInt8 := [29, 54, 5, 132, 5, 1, 21, 5, 21, 4, 162, 0, 97, 42, 21, 5, 46, 54, 6, 21, 5, 54, 7, 42]
abbrev dktX2_insertionSortIndirect_0 : List UInt8 := dkwX2_insertionSortIndirect_0 ++ dktX2_insertionSortIndirect_1
theorem dksX2_insertionSortIndirect_0 : cX2_insertionSortIndirect.data.toList.drop 0 = dktX2_insertionSortIndirect_0 := by decide +kernel
theorem dksX2_insertionSortIndirect_1 : cX2_insertionSortIndirect.data.toList.drop 24 = dktX2_insertionSortIndirect_1 := dk_seg dksX2_insertionSortIndirect_0 24 rfl rfl
theorem dksX2_insertionSortIndirect_2 : cX2_insertionSortIndirect.data.toList.drop 47 = dktX2_insertionSortIndirect_2 := dk_seg dksX2_insertionSortIndirect_1 23 rfl rfl
theorem dksX2_insertionSortIndirect_3 : cX2_insertionSortIndirect.data.toList.drop 71 = dktX2_insertionSortIndirect_3 := dk_seg dksX2_insertionSortIndirect_2 24 rfl rfl
theorem dksX2_insertionSortIndirect_4 : cX2_insertionSortIndirect.data.toList.drop 95 = dktX2_insertionSortIndirect_4 := dk_seg dksX2_insertionSortIndirect_3 24 rfl rfl
theorem dX2_insertionSortIndirect_0 : decode cX2_insertionSortIndirect 0 = .ok (.iload_n 3, 1) := dk_29 (dk_at dksX2_insertionSortIndirect_0 0 rfl rfl)
theorem dX2_insertionSortIndirect_1 : decode cX2_insertionSortIndirect 1 = .ok (.istore 5, 2) := dk_54 5 (dk_at dksX2_insertionSortIndirect_0 1 rfl rfl)
theorem dX2_insertionSortIndirect_3 : decode cX2_insertionSortIndirect 3 = .ok (.iinc 5 1, 3) := dk_132 5 1 (dk_at dksX2_insertionSortIndirect_0 3 rfl rfl)
theorem dX2_insertionSortIndirect_6 : decode cX2_insertionSortIndirect 6 = .ok (.iload 5, 2) := dk_21 5 (dk_at dksX2_insertionSortIndirect_0 6 rfl rfl)
theorem dX2_insertionSortIndirect_8 : decode cX2_insertionSortIndirect 8 = .ok (.iload 4, 2) := dk_21 4 (dk_at dksX2_insertionSortIndirect_0 8 rfl rfl)
theorem dX2_insertionSortIndirect_10 : decode cX2_insertionSortIndirect 10 = .ok (.if_icmp .ge 97, 3) := dk_162 0 97 (dk_at dksX2_insertionSortIndirect_0 10 rfl rfl)
theorem dX2_insertionSortIndirect_13 : decode cX2_insertionSortIndirect 13 = .ok (.aload_n 0, 1) := dk_42 (dk_at dksX2_insertionSortIndirect_0 13 rfl rfl)
theorem dX2_insertionSortIndirect_14 : decode cX2_insertionSortIndirect 14 = .ok (.iload 5, 2) := dk_21 5 (dk_at dksX2_insertionSortIndirect_0 14 rfl rfl)
theorem dX2_insertionSortIndirect_16 : decode cX2_insertionSortIndirect 16 = .ok (.iaload, 1) := dk_46 (dk_at dksX2_insertionSortIndirect_0 16 rfl rfl)
theorem dX2_insertionSortIndirect_17 : decode cX2_insertionSortIndirect 17 = .ok (.istore 6, 2) := dk_54 6 (dk_at dksX2_insertionSortIndirect_0 17 rfl rfl)
theorem dX2_insertionSortIndirect_19 : decode cX2_insertionSortIndirect 19 = .ok (.iload 5, 2) := dk_21 5 (dk_at dksX2_insertionSortIndirect_0 19 rfl rfl)
theorem dX2_insertionSortIndirect_21 : decode cX2_insertionSortIndirect 21 = .ok (.istore 7, 2) := dk_54 7 (dk_at dksX2_insertionSortIndirect_0 21 rfl rfl)
theorem dX2_insertionSortIndirect_23 : decode cX2_insertionSortIndirect 23 = .ok (.aload_n 0, 1) := dk_42 (dk_at dksX2_insertionSortIndirect_0 23 rfl rfl)
theorem dX2_insertionSortIndirect_24 : decode cX2_insertionSortIndirect 24 = .ok (.iload 7, 2) := dk_21 7 (dk_at dksX2_insertionSortIndirect_1 0 rfl rfl)
theorem dX2_insertionSortIndirect_26 : decode cX2_insertionSortIndirect 26 = .ok (.iconst 1, 1) := dk_4 (dk_at dksX2_insertionSortIndirect_1 2 rfl rfl)
theorem dX2_insertionSortIndirect_27 : decode cX2_insertionSortIndirect 27 = .ok (.isub, 1) := dk_100 (dk_at dksX2_insertionSortIndirect_1 3 rfl rfl)
theorem dX2_insertionSortIndirect_28 : decode cX2_insertionSortIndirect 28 = .ok (.iaload, 1) := dk_46 (dk_at dksX2_insertionSortIndirect_1 4 rfl rfl)
theorem dX2_insertionSortIndirect_29 : decode cX2_insertionSortIndirect 29 = .ok (.istore 8, 2) := dk_54 8 (dk_at dksX2_insertionSortIndirect_1 5 rfl rfl)
theorem dX2_insertionSortIndirect_31 : decode cX2_insertionSortIndirect 31 = .ok (.aload_n 1, 1) := dk_43 (dk_at dksX2_insertionSortIndirect_1 7 rfl rfl)
theorem dX2_insertionSortIndirect_32 : decode cX2_insertionSortIndirect 32 = .ok (.iload 6, 2) := dk_21 6 (dk_at dksX2_insertionSortIndirect_1 8 rfl rfl)
theorem dX2_insertionSortIndirect_34 : decode cX2_insertionSortIndirect 34 = .ok (.iaload, 1) := dk_46 (dk_at dksX2_insertionSortIndirect_1 10 rfl rfl)
theorem dX2_insertionSortIndirect_35 : decode cX2_insertionSortIndirect 35 = .ok (.aload_n 1, 1) := dk_43 (dk_at dksX2_insertionSortIndirect_1 11 rfl rfl)
theorem dX2_insertionSortIndirect_36 : decode cX2_insertionSortIndirect 36 = .ok (.iload 8, 2) := dk_21 8 (dk_at dksX2_insertionSortIndirect_1 12 rfl rfl)
theorem dX2_insertionSortIndirect_38 : decode cX2_insertionSortIndirect 38 = .ok (.iaload, 1) := dk_46 (dk_at dksX2_insertionSortIndirect_1 14 rfl rfl)
theorem dX2_insertionSortIndirect_39 : decode cX2_insertionSortIndirect 39 = .ok (.if_icmp .lt 25, 3) := dk_161 0 25 (dk_at dksX2_insertionSortIndirect_1 15 rfl rfl)
theorem dX2_insertionSortIndirect_42 : decode cX2_insertionSortIndirect 42 = .ok (.aload_n 1, 1) := dk_43 (dk_at dksX2_insertionSortIndirect_1 18 rfl rfl)
theorem dX2_insertionSortIndirect_43 : decode cX2_insertionSortIndirect 43 = .ok (.iload 6, 2) := dk_21 6 (dk_at dksX2_insertionSortIndirect_1 19 rfl rfl)
theorem dX2_insertionSortIndirect_45 : decode cX2_insertionSortIndirect 45 = .ok (.iaload, 1) := dk_46 (dk_at dksX2_insertionSortIndirect_1 21 rfl rfl)
theorem dX2_insertionSortIndirect_46 : decode cX2_insertionSortIndirect 46 = .ok (.aload_n 1, 1) := dk_43 (dk_at dksX2_insertionSortIndirect_1 22 rfl rfl)
theorem dX2_insertionSortIndirect_47 : decode cX2_insertionSortIndirect 47 = .ok (.iload 8, 2) := dk_21 8 (dk_at dksX2_insertionSortIndirect_2 0 rfl rfl)
theorem dX2_insertionSortIndirect_49 : decode cX2_insertionSortIndirect 49 = .ok (.iaload, 1) := dk_46 (dk_at dksX2_insertionSortIndirect_2 2 rfl rfl)
theorem dX2_insertionSortIndirect_50 : decode cX2_insertionSortIndirect 50 = .ok (.if_icmp .ne 48, 3) := dk_160 0 48 (dk_at dksX2_insertionSortIndirect_2 3 rfl rfl)
theorem dX2_insertionSortIndirect_53 : decode cX2_insertionSortIndirect 53 = .ok (.aload_n 2, 1) := dk_44 (dk_at dksX2_insertionSortIndirect_2 6 rfl rfl)
theorem dX2_insertionSortIndirect_54 : decode cX2_insertionSortIndirect 54 = .ok (.iload 6, 2) := dk_21 6 (dk_at dksX2_insertionSortIndirect_2 7 rfl rfl)
theorem dX2_insertionSortIndirect_56 : decode cX2_insertionSortIndirect 56 = .ok (.iaload, 1) := dk_46 (dk_at dksX2_insertionSortIndirect_2 9 rfl rfl)
theorem dX2_insertionSortIndirect_57 : decode cX2_insertionSortIndirect 57 = .ok (.aload_n 2, 1) := dk_44 (dk_at dksX2_insertionSortIndirect_2 10 rfl rfl)
theorem dX2_insertionSortIndirect_58 : decode cX2_insertionSortIndirect 58 = .ok (.iload 8, 2) := dk_21 8 (dk_at dksX2_insertionSortIndirect_2 11 rfl rfl)
theorem dX2_insertionSortIndirect_60 : decode cX2_insertionSortIndirect 60 = .ok (.iaload, 1) := dk_46 (dk_at dksX2_insertionSortIndirect_2 13 rfl rfl)
theorem dX2_insertionSortIndirect_61 : decode cX2_insertionSortIndirect 61 = .ok (.if_icmp .ge 37, 3) := dk_162 0 37 (dk_at dksX2_insertionSortIndirect_2 14 rfl rfl)
theorem dX2_insertionSortIndirect_64 : decode cX2_insertionSortIndirect 64 = .ok (.aload_n 0, 1) := dk_42 (dk_at dksX2_insertionSortIndirect_2 17 rfl rfl)
theorem dX2_insertionSortIndirect_65 : decode cX2_insertionSortIndirect 65 = .ok (.iload 7, 2) := dk_21 7 (dk_at dksX2_insertionSortIndirect_2 18 rfl rfl)
theorem dX2_insertionSortIndirect_67 : decode cX2_insertionSortIndirect 67 = .ok (.iload 8, 2) := dk_21 8 (dk_at dksX2_insertionSortIndirect_2 20 rfl rfl)
theorem dX2_insertionSortIndirect_69 : decode cX2_insertionSortIndirect 69 = .ok (.iastore, 1) := dk_79 (dk_at dksX2_insertionSortIndirect_2 22 rfl rfl)
theorem dX2_insertionSortIndirect_70 : decode cX2_insertionSortIndirect 70 = .ok (.iload_n 3, 1) := dk_29 (dk_at dksX2_insertionSortIndirect_2 23 rfl rfl)
theorem dX2_insertionSortIndirect_71 : decode cX2_insertionSortIndirect 71 = .ok (.iload 7, 2) := dk_21 7 (dk_at dksX2_insertionSortIndirect_3 0 rfl rfl)
theorem dX2_insertionSortIndirect_73 : decode cX2_insertionSortIndirect 73 = .ok (.iconst 1, 1) := dk_4 (dk_at dksX2_insertionSortIndirect_3 2 rfl rfl)
theorem dX2_insertionSortIndirect_74 : decode cX2_insertionSortIndirect 74 = .ok (.isub, 1) := dk_100 (dk_at dksX2_insertionSortIndirect_3 3 rfl rfl)
theorem dX2_insertionSortIndirect_75 : decode cX2_insertionSortIndirect 75 = .ok (.if_icmp .ne 9, 3) := dk_160 0 9 (dk_at dksX2_insertionSortIndirect_3 4 rfl rfl)
theorem dX2_insertionSortIndirect_78 : decode cX2_insertionSortIndirect 78 = .ok (.iinc 7 (-1), 3) := dk_132 7 255 (dk_at dksX2_insertionSortIndirect_3 7 rfl rfl)
theorem dX2_insertionSortIndirect_81 : decode cX2_insertionSortIndirect 81 = .ok (.goto 17, 3) := dk_167 0 17 (dk_at dksX2_insertionSortIndirect_3 10 rfl rfl)
theorem dX2_insertionSortIndirect_84 : decode cX2_insertionSortIndirect 84 = .ok (.aload_n 0, 1) := dk_42 (dk_at dksX2_insertionSortIndirect_3 13 rfl rfl)
theorem dX2_insertionSortIndirect_85 : decode cX2_insertionSortIndirect 85 = .ok (.iinc 7 (-1), 3) := dk_132 7 255 (dk_at dksX2_insertionSortIndirect_3 14 rfl rfl)
theorem dX2_insertionSortIndirect_88 : decode cX2_insertionSortIndirect 88 = .ok (.iload 7, 2) := dk_21 7 (dk_at dksX2_insertionSortIndirect_3 17 rfl rfl)
theorem dX2_insertionSortIndirect_90 : decode cX2_insertionSortIndirect 90 = .ok (.iconst 1, 1) := dk_4 (dk_at dksX2_insertionSortIndirect_3 19 rfl rfl)
theorem dX2_insertionSortIndirect_91 : decode cX2_insertionSortIndirect 91 = .ok (.isub, 1) := dk_100 (dk_at dksX2_insertionSortIndirect_3 20 rfl rfl)
theorem dX2_insertionSortIndirect_92 : decode cX2_insertionSortIndirect 92 = .ok (.iaload, 1) := dk_46 (dk_at dksX2_insertionSortIndirect_3 21 rfl rfl)
theorem dX2_insertionSortIndirect_93 : decode cX2_insertionSortIndirect 93 = .ok (.istore 8, 2) := dk_54 8 (dk_at dksX2_insertionSortIndirect_3 22 rfl rfl)
theorem dX2_insertionSortIndirect_95 : decode cX2_insertionSortIndirect 95 = .ok (.goto (-64), 3) := dk_167 255 192 (dk_at dksX2_insertionSortIndirect_4 0 rfl rfl)
theorem dX2_insertionSortIndirect_98 : decode cX2_insertionSortIndirect 98 = .ok (.aload_n 0, 1) := dk_42 (dk_at dksX2_insertionSortIndirect_4 3 rfl rfl)
theorem dX2_insertionSortIndirect_99 : decode cX2_insertionSortIndirect 99 = .ok (.iload 7, 2) := dk_21 7 (dk_at dksX2_insertionSortIndirect_4 4 rfl rfl)
theorem dX2_insertionSortIndirect_101 : decode cX2_insertionSortIndirect 101 = .ok (.iload 6, 2) := dk_21 6 (dk_at dksX2_insertionSortIndirect_4 6 rfl rfl)
theorem dX2_insertionSortIndirect_103 : decode cX2_insertionSortIndirect 103 = .ok (.iastore, 1) := dk_79 (dk_at dksX2_insertionSortIndirect_4 8 rfl rfl)
theorem dX2_insertionSortIndirect_104 : decode cX2_insertionSortIndirect 104 = .ok (.goto (-101), 3) := dk_167 255 155 (dk_at dksX2_insertionSortIndirect_4 9 rfl rfl)
theorem dX2_insertionSortIndirect_107 : decode cX2_insertionSortIndirect 107 = .ok (.return_, 1) := dk_177 (dk_at dksX2_insertionSortIndirect_4 12 rfl rfl)
theorem q7 : (Jvm.Cond.initialized "IntArrays") ∈ lw_all := lw_g (lw_at lw_m0 3 rfl) rfl
theorem q70 : (Jvm.Cond.static ({ cls := "IntArrays", name := "quickSort", desc := "([I[III)V" } : Jvm.MethodName)) ∈ lw_all := lw_g (lw_at lw_m0 66 rfl) rfl
theorem q71 : (Jvm.Cond.code ({ cls := "IntArrays", name := "quickSort", desc := "([I[III)V" } : Jvm.MethodName) prog_1_method_5_code (16 : Nat) (Option.none : Option Jvm.ClassFile.FieldType)) ∈ lw_all := lw_g (lw_at lw_m0 67 rfl) rfl
theorem q72 : (Jvm.Cond.methodLink "IntArrays" (13 : Nat) ({ cls := "IntArrays", name := "selectionSort", desc := "([I[III)V" } : Jvm.MethodName)) ∈ lw_all := lw_g (lw_at lw_m0 68 rfl) rfl
theorem q73 : (Jvm.Cond.static ({ cls := "IntArrays", name := "selectionSort", desc := "([I[III)V" } : Jvm.MethodName)) ∈ lw_all := lw_g (lw_at lw_m0 69 rfl) rfl
theorem q74 : (Jvm.Cond.code ({ cls := "IntArrays", name := "selectionSort", desc := "([I[III)V" } : Jvm.MethodName) prog_1_method_4_code (8 : Nat) (Option.none : Option Jvm.ClassFile.FieldType)) ∈ lw_all := lw_g (lw_at lw_m0 70 rfl) rfl
theorem q75 : (Jvm.Cond.methodLink "IntArrays" (5 : Nat) ({ cls := "java/lang/Integer", name := "compare", desc := "(II)I" } : Jvm.MethodName)) ∈ lw_all := lw_g (lw_at lw_m0 71 rfl) rfl
theorem q78 : (Jvm.Cond.methodLink "IntArrays" (16 : Nat) ({ cls := "IntArrays", name := "med3", desc := "([I[IIII)I" } : Jvm.MethodName)) ∈ lw_all := lw_g (lw_at lw_m0 74 rfl) rfl
theorem q79 : (Jvm.Cond.static ({ cls := "IntArrays", name := "med3", desc := "([I[IIII)I" } : Jvm.MethodName)) ∈ lw_all := lw_g (lw_at lw_m0 75 rfl) rfl
theorem q80 : (Jvm.Cond.code ({ cls := "IntArrays", name := "med3", desc := "([I[IIII)I" } : Jvm.MethodName) prog_1_method_1_code (9 : Nat) (Option.some Jvm.ClassFile.FieldType.int)) ∈ lw_all := lw_g (lw_at lw_m0 76 rfl) rfl
theorem q81 : (Jvm.Cond.methodLink "IntArrays" (9 : Nat) ({ cls := "IntArrays", name := "swap", desc := "([I[III)V" } : Jvm.MethodName)) ∈ lw_all := lw_g (lw_at lw_m0 77 rfl) rfl
theorem q82 : (Jvm.Cond.static ({ cls := "IntArrays", name := "swap", desc := "([I[III)V" } : Jvm.MethodName)) ∈ lw_all := lw_g (lw_at lw_m0 78 rfl) rfl
theorem q83 : (Jvm.Cond.code ({ cls := "IntArrays", name := "swap", desc := "([I[III)V" } : Jvm.MethodName) prog_1_method_2_code (6 : Nat) (Option.none : Option Jvm.ClassFile.FieldType)) ∈ lw_all := lw_g (lw_at lw_m0 79 rfl) rfl
theorem q84 : (Jvm.Cond.methodLink "IntArrays" (20 : Nat) ({ cls := "java/lang/Math", name := "min", desc := "(II)I" } : Jvm.MethodName)) ∈ lw_all := lw_g (lw_at lw_m0 80 rfl) rfl
theorem q87 : (Jvm.Cond.methodLink "IntArrays" (25 : Nat) ({ cls := "IntArrays", name := "swap", desc := "([I[IIII)V" } : Jvm.MethodName)) ∈ lw_all := lw_g (lw_at lw_m0 83 rfl) rfl
theorem q88 : (Jvm.Cond.static ({ cls := "IntArrays", name := "swap", desc := "([I[IIII)V" } : Jvm.MethodName)) ∈ lw_all := lw_g (lw_at lw_m0 84 rfl) rfl
theorem q89 : (Jvm.Cond.code ({ cls := "IntArrays", name := "swap", desc := "([I[IIII)V" } : Jvm.MethodName) prog_1_method_3_code (6 : Nat) (Option.none : Option Jvm.ClassFile.FieldType)) ∈ lw_all := lw_g (lw_at lw_m0 85 rfl) rfl
theorem q90 : (Jvm.Cond.methodLink "IntArrays" (28 : Nat) ({ cls := "IntArrays", name := "quickSort", desc := "([I[III)V" } : Jvm.MethodName)) ∈ lw_all := lw_g (lw_at lw_m0 86 rfl) rfl
theorem q96 : (Jvm.Cond.static ({ cls := "IntArrays", name := "radixSort", desc := "([I[III)V" } : Jvm.MethodName)) ∈ lw_all := lw_g (lw_at lw_m0 92 rfl) rfl
theorem q97 : (Jvm.Cond.code ({ cls := "IntArrays", name := "radixSort", desc := "([I[III)V" } : Jvm.MethodName) prog_1_method_6_code (24 : Nat) (Option.none : Option Jvm.ClassFile.FieldType)) ∈ lw_all := lw_g (lw_at lw_m0 93 rfl) rfl
theorem q103 : (Jvm.Cond.static ({ cls := "IntArrays", name := "radixSortIndirect", desc := "([I[I[IIIZ)V" } : Jvm.MethodName)) ∈ lw_all := lw_g (lw_at lw_m0 99 rfl) rfl
theorem q104 : (Jvm.Cond.code ({ cls := "IntArrays", name := "radixSortIndirect", desc := "([I[I[IIIZ)V" } : Jvm.MethodName) prog_1_method_8_code (26 : Nat) (Option.none : Option Jvm.ClassFile.FieldType)) ∈ lw_all := lw_g (lw_at lw_m0 100 rfl) rfl
theorem q105 : (Jvm.Cond.methodLink "IntArrays" (31 : Nat) ({ cls := "IntArrays", name := "insertionSortIndirect", desc := "([I[I[III)V" } : Jvm.MethodName)) ∈ lw_all := lw_g (lw_at lw_m0 101 rfl) rfl
theorem q106 : (Jvm.Cond.static ({ cls := "IntArrays", name := "insertionSortIndirect", desc := "([I[I[III)V" } : Jvm.MethodName)) ∈ lw_all := lw_g (lw_at lw_m0 102 rfl) rfl
theorem q107 : (Jvm.Cond.code ({ cls := "IntArrays", name := "insertionSortIndirect", desc := "([I[I[III)V" } : Jvm.MethodName) prog_1_method_7_code (9 : Nat) (Option.none : Option Jvm.ClassFile.FieldType)) ∈ lw_all := lw_g (lw_at lw_m0 103 rfl) rfl
theorem q108 : (Jvm.Cond.methodLink "IntArrays" (35 : Nat) ({ cls := "java/lang/System", name := "arraycopy", desc := "(Ljava/lang/Object;ILjava/lang/Object;II)V" } : Jvm.MethodName)) ∈ lw_all := lw_g (lw_at lw_m0 104 rfl) rfl
theorem q111 : (Jvm.Cond.methodLink "IntArrays" (41 : Nat) ({ cls := "java/util/Arrays", name := "fill", desc := "([II)V" } : Jvm.MethodName)) ∈ lw_all := lw_g (lw_at lw_m0 107 rfl) rfl

theorem q4 : (Jvm.Cond.initialized "PairSortDeskLaw") ∈ lw_all := lw_g (lw_at lw_m0 0 rfl) rfl
set_option maxRecDepth 100000
theorem q12 : (Jvm.Cond.classLink "PairSortDeskLaw" (7 : Nat) "PairSortDesk") ∈ lw_all := lw_g (lw_at lw_m0 8 rfl) rfl
theorem q14 : (Jvm.Cond.methodLink "PairSortDeskLaw" (9 : Nat) ({ cls := "PairSortDesk", name := "<init>", desc := "()V" } : Jvm.MethodName)) ∈ lw_all := lw_g (lw_at lw_m0 10 rfl) rfl
theorem q35 : (Jvm.Cond.methodLink "PairSortDeskLaw" (13 : Nat) ({ cls := "PairSortDesk", name := "anew", desc := "()V" } : Jvm.MethodName)) ∈ lw_all := lw_g (lw_at lw_m0 31 rfl) rfl
theorem q36 : (Jvm.Cond.methodLink "PairSortDeskLaw" (17 : Nat) ({ cls := "PairSortDesk", name := "set", desc := "(III)V" } : Jvm.MethodName)) ∈ lw_all := lw_g (lw_at lw_m0 32 rfl) rfl
theorem q41 : (Jvm.Cond.methodLink "PairSortDeskLaw" (22 : Nat) ({ cls := "PairSortDesk", name := "few", desc := "(III)V" } : Jvm.MethodName)) ∈ lw_all := lw_g (lw_at lw_m0 37 rfl) rfl
theorem q45 : (Jvm.Cond.methodLink "PairSortDeskLaw" (26 : Nat) ({ cls := "PairSortDesk", name := "first", desc := "(I)I" } : Jvm.MethodName)) ∈ lw_all := lw_g (lw_at lw_m0 41 rfl) rfl
theorem q49 : (Jvm.Cond.methodLink "PairSortDeskLaw" (31 : Nat) ({ cls := "PairSortDesk", name := "second", desc := "(I)I" } : Jvm.MethodName)) ∈ lw_all := lw_g (lw_at lw_m0 45 rfl) rfl
theorem q53 : (Jvm.Cond.methodLink "PairSortDeskLaw" (35 : Nat) ({ cls := "PairSortDesk", name := "place", desc := "(I)I" } : Jvm.MethodName)) ∈ lw_all := lw_g (lw_at lw_m0 49 rfl) rfl
theorem q57 : (Jvm.Cond.methodLink "PairSortDeskLaw" (39 : Nat) ({ cls := "PairSortDesk", name := "quick", desc := "(II)V" } : Jvm.MethodName)) ∈ lw_all := lw_g (lw_at lw_m0 53 rfl) rfl
theorem q91 : (Jvm.Cond.methodLink "PairSortDeskLaw" (44 : Nat) ({ cls := "PairSortDesk", name := "radix", desc := "(II)V" } : Jvm.MethodName)) ∈ lw_all := lw_g (lw_at lw_m0 87 rfl) rfl
theorem q98 : (Jvm.Cond.methodLink "PairSortDeskLaw" (48 : Nat) ({ cls := "PairSortDesk", name := "indirect", desc := "(II)V" } : Jvm.MethodName)) ∈ lw_all := lw_g (lw_at lw_m0 94 rfl) rfl
theorem q114 : (Jvm.Cond.classLink "PairSortDeskLaw" (10 : Nat) "PairSortDeskModel") ∈ lw_all := lw_g (lw_at lw_m0 110 rfl) rfl
theorem q116 : (Jvm.Cond.methodLink "PairSortDeskLaw" (12 : Nat) ({ cls := "PairSortDeskModel", name := "<init>", desc := "()V" } : Jvm.MethodName)) ∈ lw_all := lw_g (lw_at lw_m0 112 rfl) rfl
theorem q134 : (Jvm.Cond.methodLink "PairSortDeskLaw" (16 : Nat) ({ cls := "PairSortDeskModel", name := "anew", desc := "()V" } : Jvm.MethodName)) ∈ lw_all := lw_g (lw_at lw_m0 130 rfl) rfl
theorem q135 : (Jvm.Cond.methodLink "PairSortDeskLaw" (21 : Nat) ({ cls := "PairSortDeskModel", name := "set", desc := "(III)V" } : Jvm.MethodName)) ∈ lw_all := lw_g (lw_at lw_m0 131 rfl) rfl
theorem q143 : (Jvm.Cond.methodLink "PairSortDeskLaw" (25 : Nat) ({ cls := "PairSortDeskModel", name := "few", desc := "(III)V" } : Jvm.MethodName)) ∈ lw_all := lw_g (lw_at lw_m0 139 rfl) rfl
theorem q148 : (Jvm.Cond.methodLink "PairSortDeskLaw" (30 : Nat) ({ cls := "PairSortDeskModel", name := "first", desc := "(I)I" } : Jvm.MethodName)) ∈ lw_all := lw_g (lw_at lw_m0 144 rfl) rfl
theorem q152 : (Jvm.Cond.methodLink "PairSortDeskLaw" (34 : Nat) ({ cls := "PairSortDeskModel", name := "second", desc := "(I)I" } : Jvm.MethodName)) ∈ lw_all := lw_g (lw_at lw_m0 148 rfl) rfl
theorem q156 : (Jvm.Cond.methodLink "PairSortDeskLaw" (38 : Nat) ({ cls := "PairSortDeskModel", name := "place", desc := "(I)I" } : Jvm.MethodName)) ∈ lw_all := lw_g (lw_at lw_m0 152 rfl) rfl
theorem q160 : (Jvm.Cond.methodLink "PairSortDeskLaw" (43 : Nat) ({ cls := "PairSortDeskModel", name := "quick", desc := "(II)V" } : Jvm.MethodName)) ∈ lw_all := lw_g (lw_at lw_m0 156 rfl) rfl
theorem q178 : (Jvm.Cond.methodLink "PairSortDeskLaw" (47 : Nat) ({ cls := "PairSortDeskModel", name := "radix", desc := "(II)V" } : Jvm.MethodName)) ∈ lw_all := lw_g (lw_at lw_m0 174 rfl) rfl
theorem q182 : (Jvm.Cond.methodLink "PairSortDeskLaw" (51 : Nat) ({ cls := "PairSortDeskModel", name := "indirect", desc := "(II)V" } : Jvm.MethodName)) ∈ lw_all := lw_g (lw_at lw_m0 178 rfl) rfl

theorem q34 : (Jvm.Cond.arrayClass Jvm.ClassFile.FieldType.int) ∈ lw_all := lw_g (lw_at lw_m0 30 rfl) rfl
set_option maxRecDepth 100000

/-! the law's own entry -/
set_option maxRecDepth 100000
abbrev cL_law : ByteArray := code
def dkwL_law_14 : List UInt8 := [167, 254, 188, 4, 172]
abbrev dktL_law_14 : List UInt8 := dkwL_law_14 ++ []
def dkwL_law_13 : List UInt8 := [46, 182, 0, 48, 44, 42, 29, 4, 96, 46, 42, 29, 5, 96, 46, 182, 0, 51, 167, 0, 3, 132, 3, 6]
abbrev dktL_law_13 : List UInt8 := dkwL_law_13 ++ dktL_law_14
def dkwL_law_12 : List UInt8 := [4, 96, 46, 42, 29, 5, 96, 46, 182, 0, 47, 167, 0, 34, 43, 42, 29, 4, 96, 46, 42, 29, 5, 96]
abbrev dktL_law_12 : List UInt8 := dkwL_law_12 ++ dktL_law_13
def dkwL_law_11 : List UInt8 := [46, 182, 0, 43, 167, 0, 65, 43, 42, 29, 4, 96, 46, 42, 29, 5, 96, 46, 182, 0, 44, 44, 42, 29]
abbrev dktL_law_11 : List UInt8 := dkwL_law_11 ++ dktL_law_12
def dkwL_law_10 : List UInt8 := [43, 42, 29, 4, 96, 46, 42, 29, 5, 96, 46, 182, 0, 39, 44, 42, 29, 4, 96, 46, 42, 29, 5, 96]
abbrev dktL_law_10 : List UInt8 := dkwL_law_10 ++ dktL_law_11
def dkwL_law_9 : List UInt8 := [172, 43, 42, 29, 4, 96, 46, 182, 0, 35, 44, 42, 29, 4, 96, 46, 182, 0, 38, 159, 0, 98, 3, 172]
abbrev dktL_law_9 : List UInt8 := dkwL_law_9 ++ dktL_law_10
def dkwL_law_8 : List UInt8 := [3, 172, 43, 42, 29, 4, 96, 46, 182, 0, 31, 44, 42, 29, 4, 96, 46, 182, 0, 34, 159, 0, 121, 3]
abbrev dktL_law_8 : List UInt8 := dkwL_law_8 ++ dktL_law_9
def dkwL_law_7 : List UInt8 := [167, 0, 165, 43, 42, 29, 4, 96, 46, 182, 0, 26, 44, 42, 29, 4, 96, 46, 182, 0, 30, 159, 0, 144]
abbrev dktL_law_7 : List UInt8 := dkwL_law_7 ++ dktL_law_8
def dkwL_law_6 : List UInt8 := [182, 0, 22, 44, 42, 29, 4, 96, 46, 42, 29, 5, 96, 46, 42, 29, 6, 96, 46, 182, 0, 25]
abbrev dktL_law_6 : List UInt8 := dkwL_law_6 ++ dktL_law_7
def dkwL_law_5 : List UInt8 := [182, 0, 21, 167, 0, 206, 43, 42, 29, 4, 96, 46, 42, 29, 5, 96, 46, 42, 29, 6, 96, 46]
abbrev dktL_law_5 : List UInt8 := dkwL_law_5 ++ dktL_law_6
def dkwL_law_4 : List UInt8 := [6, 96, 46, 182, 0, 17, 44, 42, 29, 4, 96, 46, 42, 29, 5, 96, 46, 42, 29, 6, 96, 46]
abbrev dktL_law_4 : List UInt8 := dkwL_law_4 ++ dktL_law_5
def dkwL_law_3 : List UInt8 := [43, 182, 0, 13, 44, 182, 0, 16, 167, 0, 247, 43, 42, 29, 4, 96, 46, 42, 29, 5, 96, 46, 42, 29]
abbrev dktL_law_3 : List UInt8 := dkwL_law_3 ++ dktL_law_4
def dkwL_law_2 : List UInt8 := [170, 0, 0, 0, 0, 1, 50, 0, 0, 0, 0, 0, 0, 0, 8, 0, 0, 0, 51, 0, 0, 0, 62, 0, 0, 0, 103, 0, 0, 0, 144, 0, 0, 0, 167, 0, 0, 0, 190, 0, 0, 0, 213, 0, 0, 0, 244, 0, 0, 1, 19]
abbrev dktL_law_2 : List UInt8 := dkwL_law_2 ++ dktL_law_3
def dkwL_law_1 : List UInt8 := [163, 1, 65, 42, 29, 46, 16, 15, 126]
abbrev dktL_law_1 : List UInt8 := dkwL_law_1 ++ dktL_law_2
def dkwL_law_0 : List UInt8 := [187, 0, 7, 89, 183, 0, 9, 76, 187, 0, 10, 89, 183, 0, 12, 77, 3, 62, 29, 42, 190, 16, 6, 100]
abbrev dktL_law_0 : List UInt8 := dkwL_law_0 ++ dktL_law_1
theorem dksL_law_0 : cL_law.data.toList.drop 0 = dktL_law_0 := by decide +kernel
theorem dksL_law_1 : cL_law.data.toList.drop 24 = dktL_law_1 := dk_seg dksL_law_0 24 rfl rfl
theorem dksL_law_2 : cL_law.data.toList.drop 33 = dktL_law_2 := dk_seg dksL_law_1 9 rfl rfl
theorem dksL_law_3 : cL_law.data.toList.drop 84 = dktL_law_3 := dk_seg dksL_law_2 51 rfl rfl
theorem dksL_law_4 : cL_law.data.toList.drop 108 = dktL_law_4 := dk_seg dksL_law_3 24 rfl rfl
theorem dksL_law_5 : cL_law.data.toList.drop 130 = dktL_law_5 := dk_seg dksL_law_4 22 rfl rfl
theorem dksL_law_6 : cL_law.data.toList.drop 152 = dktL_law_6 := dk_seg dksL_law_5 22 rfl rfl
theorem dksL_law_7 : cL_law.data.toList.drop 174 = dktL_law_7 := dk_seg dksL_law_6 22 rfl rfl
theorem dksL_law_8 : cL_law.data.toList.drop 198 = dktL_law_8 := dk_seg dksL_law_7 24 rfl rfl
theorem dksL_law_9 : cL_law.data.toList.drop 222 = dktL_law_9 := dk_seg dksL_law_8 24 rfl rfl
theorem dksL_law_10 : cL_law.data.toList.drop 246 = dktL_law_10 := dk_seg dksL_law_9 24 rfl rfl
theorem dksL_law_11 : cL_law.data.toList.drop 270 = dktL_law_11 := dk_seg dksL_law_10 24 rfl rfl
theorem dksL_law_12 : cL_law.data.toList.drop 294 = dktL_law_12 := dk_seg dksL_law_11 24 rfl rfl
theorem dksL_law_13 : cL_law.data.toList.drop 318 = dktL_law_13 := dk_seg dksL_law_12 24 rfl rfl
theorem dksL_law_14 : cL_law.data.toList.drop 342 = dktL_law_14 := dk_seg dksL_law_13 24 rfl rfl
theorem dL_law_0 : decode cL_law 0 = .ok (.new 7, 3) := dk_187 0 7 (dk_at dksL_law_0 0 rfl rfl)
theorem dL_law_3 : decode cL_law 3 = .ok (.dup, 1) := dk_89 (dk_at dksL_law_0 3 rfl rfl)
theorem dL_law_4 : decode cL_law 4 = .ok (.invokespecial 9, 3) := dk_183 0 9 (dk_at dksL_law_0 4 rfl rfl)
theorem dL_law_7 : decode cL_law 7 = .ok (.astore_n 1, 1) := dk_76 (dk_at dksL_law_0 7 rfl rfl)
theorem dL_law_8 : decode cL_law 8 = .ok (.new 10, 3) := dk_187 0 10 (dk_at dksL_law_0 8 rfl rfl)
theorem dL_law_11 : decode cL_law 11 = .ok (.dup, 1) := dk_89 (dk_at dksL_law_0 11 rfl rfl)
theorem dL_law_12 : decode cL_law 12 = .ok (.invokespecial 12, 3) := dk_183 0 12 (dk_at dksL_law_0 12 rfl rfl)
theorem dL_law_15 : decode cL_law 15 = .ok (.astore_n 2, 1) := dk_77 (dk_at dksL_law_0 15 rfl rfl)
theorem dL_law_16 : decode cL_law 16 = .ok (.iconst 0, 1) := dk_3 (dk_at dksL_law_0 16 rfl rfl)
theorem dL_law_17 : decode cL_law 17 = .ok (.istore_n 3, 1) := dk_62 (dk_at dksL_law_0 17 rfl rfl)
theorem dL_law_18 : decode cL_law 18 = .ok (.iload_n 3, 1) := dk_29 (dk_at dksL_law_0 18 rfl rfl)
theorem dL_law_19 : decode cL_law 19 = .ok (.aload_n 0, 1) := dk_42 (dk_at dksL_law_0 19 rfl rfl)
theorem dL_law_20 : decode cL_law 20 = .ok (.arraylength, 1) := dk_190 (dk_at dksL_law_0 20 rfl rfl)
theorem dL_law_21 : decode cL_law 21 = .ok (.bipush 6, 2) := dk_16 6 (dk_at dksL_law_0 21 rfl rfl)
theorem dL_law_23 : decode cL_law 23 = .ok (.isub, 1) := dk_100 (dk_at dksL_law_0 23 rfl rfl)
theorem dL_law_24 : decode cL_law 24 = .ok (.if_icmp .gt 321, 3) := dk_163 1 65 (dk_at dksL_law_1 0 rfl rfl)
theorem dL_law_27 : decode cL_law 27 = .ok (.aload_n 0, 1) := dk_42 (dk_at dksL_law_1 3 rfl rfl)
theorem dL_law_28 : decode cL_law 28 = .ok (.iload_n 3, 1) := dk_29 (dk_at dksL_law_1 4 rfl rfl)
theorem dL_law_29 : decode cL_law 29 = .ok (.iaload, 1) := dk_46 (dk_at dksL_law_1 5 rfl rfl)
theorem dL_law_30 : decode cL_law 30 = .ok (.bipush 15, 2) := dk_16 15 (dk_at dksL_law_1 6 rfl rfl)
theorem dL_law_32 : decode cL_law 32 = .ok (.iand, 1) := dk_126 (dk_at dksL_law_1 8 rfl rfl)
theorem dL_law_33 : decode cL_law 33 = .ok (.tableswitch 306 0 8 #[51, 62, 103, 144, 167, 190, 213, 244, 275], 51) := by decide +kernel
theorem dL_law_84 : decode cL_law 84 = .ok (.aload_n 1, 1) := dk_43 (dk_at dksL_law_3 0 rfl rfl)
theorem dL_law_85 : decode cL_law 85 = .ok (.invokevirtual 13, 3) := dk_182 0 13 (dk_at dksL_law_3 1 rfl rfl)
theorem dL_law_88 : decode cL_law 88 = .ok (.aload_n 2, 1) := dk_44 (dk_at dksL_law_3 4 rfl rfl)
theorem dL_law_89 : decode cL_law 89 = .ok (.invokevirtual 16, 3) := dk_182 0 16 (dk_at dksL_law_3 5 rfl rfl)
theorem dL_law_92 : decode cL_law 92 = .ok (.goto 247, 3) := dk_167 0 247 (dk_at dksL_law_3 8 rfl rfl)
theorem dL_law_95 : decode cL_law 95 = .ok (.aload_n 1, 1) := dk_43 (dk_at dksL_law_3 11 rfl rfl)
theorem dL_law_96 : decode cL_law 96 = .ok (.aload_n 0, 1) := dk_42 (dk_at dksL_law_3 12 rfl rfl)
theorem dL_law_97 : decode cL_law 97 = .ok (.iload_n 3, 1) := dk_29 (dk_at dksL_law_3 13 rfl rfl)
theorem dL_law_98 : decode cL_law 98 = .ok (.iconst 1, 1) := dk_4 (dk_at dksL_law_3 14 rfl rfl)
theorem dL_law_99 : decode cL_law 99 = .ok (.iadd, 1) := dk_96 (dk_at dksL_law_3 15 rfl rfl)
theorem dL_law_100 : decode cL_law 100 = .ok (.iaload, 1) := dk_46 (dk_at dksL_law_3 16 rfl rfl)
theorem dL_law_101 : decode cL_law 101 = .ok (.aload_n 0, 1) := dk_42 (dk_at dksL_law_3 17 rfl rfl)
theorem dL_law_102 : decode cL_law 102 = .ok (.iload_n 3, 1) := dk_29 (dk_at dksL_law_3 18 rfl rfl)
theorem dL_law_103 : decode cL_law 103 = .ok (.iconst 2, 1) := dk_5 (dk_at dksL_law_3 19 rfl rfl)
theorem dL_law_104 : decode cL_law 104 = .ok (.iadd, 1) := dk_96 (dk_at dksL_law_3 20 rfl rfl)
theorem dL_law_105 : decode cL_law 105 = .ok (.iaload, 1) := dk_46 (dk_at dksL_law_3 21 rfl rfl)
theorem dL_law_106 : decode cL_law 106 = .ok (.aload_n 0, 1) := dk_42 (dk_at dksL_law_3 22 rfl rfl)
theorem dL_law_107 : decode cL_law 107 = .ok (.iload_n 3, 1) := dk_29 (dk_at dksL_law_3 23 rfl rfl)
theorem dL_law_108 : decode cL_law 108 = .ok (.iconst 3, 1) := dk_6 (dk_at dksL_law_4 0 rfl rfl)
theorem dL_law_109 : decode cL_law 109 = .ok (.iadd, 1) := dk_96 (dk_at dksL_law_4 1 rfl rfl)
theorem dL_law_110 : decode cL_law 110 = .ok (.iaload, 1) := dk_46 (dk_at dksL_law_4 2 rfl rfl)
theorem dL_law_111 : decode cL_law 111 = .ok (.invokevirtual 17, 3) := dk_182 0 17 (dk_at dksL_law_4 3 rfl rfl)
theorem dL_law_114 : decode cL_law 114 = .ok (.aload_n 2, 1) := dk_44 (dk_at dksL_law_4 6 rfl rfl)
theorem dL_law_115 : decode cL_law 115 = .ok (.aload_n 0, 1) := dk_42 (dk_at dksL_law_4 7 rfl rfl)
theorem dL_law_116 : decode cL_law 116 = .ok (.iload_n 3, 1) := dk_29 (dk_at dksL_law_4 8 rfl rfl)
theorem dL_law_117 : decode cL_law 117 = .ok (.iconst 1, 1) := dk_4 (dk_at dksL_law_4 9 rfl rfl)
theorem dL_law_118 : decode cL_law 118 = .ok (.iadd, 1) := dk_96 (dk_at dksL_law_4 10 rfl rfl)
theorem dL_law_119 : decode cL_law 119 = .ok (.iaload, 1) := dk_46 (dk_at dksL_law_4 11 rfl rfl)
theorem dL_law_120 : decode cL_law 120 = .ok (.aload_n 0, 1) := dk_42 (dk_at dksL_law_4 12 rfl rfl)
theorem dL_law_121 : decode cL_law 121 = .ok (.iload_n 3, 1) := dk_29 (dk_at dksL_law_4 13 rfl rfl)
theorem dL_law_122 : decode cL_law 122 = .ok (.iconst 2, 1) := dk_5 (dk_at dksL_law_4 14 rfl rfl)
theorem dL_law_123 : decode cL_law 123 = .ok (.iadd, 1) := dk_96 (dk_at dksL_law_4 15 rfl rfl)
theorem dL_law_124 : decode cL_law 124 = .ok (.iaload, 1) := dk_46 (dk_at dksL_law_4 16 rfl rfl)
theorem dL_law_125 : decode cL_law 125 = .ok (.aload_n 0, 1) := dk_42 (dk_at dksL_law_4 17 rfl rfl)
theorem dL_law_126 : decode cL_law 126 = .ok (.iload_n 3, 1) := dk_29 (dk_at dksL_law_4 18 rfl rfl)
theorem dL_law_127 : decode cL_law 127 = .ok (.iconst 3, 1) := dk_6 (dk_at dksL_law_4 19 rfl rfl)
theorem dL_law_128 : decode cL_law 128 = .ok (.iadd, 1) := dk_96 (dk_at dksL_law_4 20 rfl rfl)
theorem dL_law_129 : decode cL_law 129 = .ok (.iaload, 1) := dk_46 (dk_at dksL_law_4 21 rfl rfl)
theorem dL_law_130 : decode cL_law 130 = .ok (.invokevirtual 21, 3) := dk_182 0 21 (dk_at dksL_law_5 0 rfl rfl)
theorem dL_law_133 : decode cL_law 133 = .ok (.goto 206, 3) := dk_167 0 206 (dk_at dksL_law_5 3 rfl rfl)
theorem dL_law_136 : decode cL_law 136 = .ok (.aload_n 1, 1) := dk_43 (dk_at dksL_law_5 6 rfl rfl)
theorem dL_law_137 : decode cL_law 137 = .ok (.aload_n 0, 1) := dk_42 (dk_at dksL_law_5 7 rfl rfl)
theorem dL_law_138 : decode cL_law 138 = .ok (.iload_n 3, 1) := dk_29 (dk_at dksL_law_5 8 rfl rfl)
theorem dL_law_139 : decode cL_law 139 = .ok (.iconst 1, 1) := dk_4 (dk_at dksL_law_5 9 rfl rfl)
theorem dL_law_140 : decode cL_law 140 = .ok (.iadd, 1) := dk_96 (dk_at dksL_law_5 10 rfl rfl)
theorem dL_law_141 : decode cL_law 141 = .ok (.iaload, 1) := dk_46 (dk_at dksL_law_5 11 rfl rfl)
theorem dL_law_142 : decode cL_law 142 = .ok (.aload_n 0, 1) := dk_42 (dk_at dksL_law_5 12 rfl rfl)
theorem dL_law_143 : decode cL_law 143 = .ok (.iload_n 3, 1) := dk_29 (dk_at dksL_law_5 13 rfl rfl)
theorem dL_law_144 : decode cL_law 144 = .ok (.iconst 2, 1) := dk_5 (dk_at dksL_law_5 14 rfl rfl)
theorem dL_law_145 : decode cL_law 145 = .ok (.iadd, 1) := dk_96 (dk_at dksL_law_5 15 rfl rfl)
theorem dL_law_146 : decode cL_law 146 = .ok (.iaload, 1) := dk_46 (dk_at dksL_law_5 16 rfl rfl)
theorem dL_law_147 : decode cL_law 147 = .ok (.aload_n 0, 1) := dk_42 (dk_at dksL_law_5 17 rfl rfl)
theorem dL_law_148 : decode cL_law 148 = .ok (.iload_n 3, 1) := dk_29 (dk_at dksL_law_5 18 rfl rfl)
theorem dL_law_149 : decode cL_law 149 = .ok (.iconst 3, 1) := dk_6 (dk_at dksL_law_5 19 rfl rfl)
theorem dL_law_150 : decode cL_law 150 = .ok (.iadd, 1) := dk_96 (dk_at dksL_law_5 20 rfl rfl)
theorem dL_law_151 : decode cL_law 151 = .ok (.iaload, 1) := dk_46 (dk_at dksL_law_5 21 rfl rfl)
theorem dL_law_152 : decode cL_law 152 = .ok (.invokevirtual 22, 3) := dk_182 0 22 (dk_at dksL_law_6 0 rfl rfl)
theorem dL_law_155 : decode cL_law 155 = .ok (.aload_n 2, 1) := dk_44 (dk_at dksL_law_6 3 rfl rfl)
theorem dL_law_156 : decode cL_law 156 = .ok (.aload_n 0, 1) := dk_42 (dk_at dksL_law_6 4 rfl rfl)
theorem dL_law_157 : decode cL_law 157 = .ok (.iload_n 3, 1) := dk_29 (dk_at dksL_law_6 5 rfl rfl)
theorem dL_law_158 : decode cL_law 158 = .ok (.iconst 1, 1) := dk_4 (dk_at dksL_law_6 6 rfl rfl)
theorem dL_law_159 : decode cL_law 159 = .ok (.iadd, 1) := dk_96 (dk_at dksL_law_6 7 rfl rfl)
theorem dL_law_160 : decode cL_law 160 = .ok (.iaload, 1) := dk_46 (dk_at dksL_law_6 8 rfl rfl)
theorem dL_law_161 : decode cL_law 161 = .ok (.aload_n 0, 1) := dk_42 (dk_at dksL_law_6 9 rfl rfl)
theorem dL_law_162 : decode cL_law 162 = .ok (.iload_n 3, 1) := dk_29 (dk_at dksL_law_6 10 rfl rfl)
theorem dL_law_163 : decode cL_law 163 = .ok (.iconst 2, 1) := dk_5 (dk_at dksL_law_6 11 rfl rfl)
theorem dL_law_164 : decode cL_law 164 = .ok (.iadd, 1) := dk_96 (dk_at dksL_law_6 12 rfl rfl)
theorem dL_law_165 : decode cL_law 165 = .ok (.iaload, 1) := dk_46 (dk_at dksL_law_6 13 rfl rfl)
theorem dL_law_166 : decode cL_law 166 = .ok (.aload_n 0, 1) := dk_42 (dk_at dksL_law_6 14 rfl rfl)
theorem dL_law_167 : decode cL_law 167 = .ok (.iload_n 3, 1) := dk_29 (dk_at dksL_law_6 15 rfl rfl)
theorem dL_law_168 : decode cL_law 168 = .ok (.iconst 3, 1) := dk_6 (dk_at dksL_law_6 16 rfl rfl)
theorem dL_law_169 : decode cL_law 169 = .ok (.iadd, 1) := dk_96 (dk_at dksL_law_6 17 rfl rfl)
theorem dL_law_170 : decode cL_law 170 = .ok (.iaload, 1) := dk_46 (dk_at dksL_law_6 18 rfl rfl)
theorem dL_law_171 : decode cL_law 171 = .ok (.invokevirtual 25, 3) := dk_182 0 25 (dk_at dksL_law_6 19 rfl rfl)
theorem dL_law_174 : decode cL_law 174 = .ok (.goto 165, 3) := dk_167 0 165 (dk_at dksL_law_7 0 rfl rfl)
theorem dL_law_177 : decode cL_law 177 = .ok (.aload_n 1, 1) := dk_43 (dk_at dksL_law_7 3 rfl rfl)
theorem dL_law_178 : decode cL_law 178 = .ok (.aload_n 0, 1) := dk_42 (dk_at dksL_law_7 4 rfl rfl)
theorem dL_law_179 : decode cL_law 179 = .ok (.iload_n 3, 1) := dk_29 (dk_at dksL_law_7 5 rfl rfl)
theorem dL_law_180 : decode cL_law 180 = .ok (.iconst 1, 1) := dk_4 (dk_at dksL_law_7 6 rfl rfl)
theorem dL_law_181 : decode cL_law 181 = .ok (.iadd, 1) := dk_96 (dk_at dksL_law_7 7 rfl rfl)
theorem dL_law_182 : decode cL_law 182 = .ok (.iaload, 1) := dk_46 (dk_at dksL_law_7 8 rfl rfl)
theorem dL_law_183 : decode cL_law 183 = .ok (.invokevirtual 26, 3) := dk_182 0 26 (dk_at dksL_law_7 9 rfl rfl)
theorem dL_law_186 : decode cL_law 186 = .ok (.aload_n 2, 1) := dk_44 (dk_at dksL_law_7 12 rfl rfl)
theorem dL_law_187 : decode cL_law 187 = .ok (.aload_n 0, 1) := dk_42 (dk_at dksL_law_7 13 rfl rfl)
theorem dL_law_188 : decode cL_law 188 = .ok (.iload_n 3, 1) := dk_29 (dk_at dksL_law_7 14 rfl rfl)
theorem dL_law_189 : decode cL_law 189 = .ok (.iconst 1, 1) := dk_4 (dk_at dksL_law_7 15 rfl rfl)
theorem dL_law_190 : decode cL_law 190 = .ok (.iadd, 1) := dk_96 (dk_at dksL_law_7 16 rfl rfl)
theorem dL_law_191 : decode cL_law 191 = .ok (.iaload, 1) := dk_46 (dk_at dksL_law_7 17 rfl rfl)
theorem dL_law_192 : decode cL_law 192 = .ok (.invokevirtual 30, 3) := dk_182 0 30 (dk_at dksL_law_7 18 rfl rfl)
theorem dL_law_195 : decode cL_law 195 = .ok (.if_icmp .eq 144, 3) := dk_159 0 144 (dk_at dksL_law_7 21 rfl rfl)
theorem dL_law_198 : decode cL_law 198 = .ok (.iconst 0, 1) := dk_3 (dk_at dksL_law_8 0 rfl rfl)
theorem dL_law_199 : decode cL_law 199 = .ok (.ireturn, 1) := dk_172 (dk_at dksL_law_8 1 rfl rfl)
theorem dL_law_200 : decode cL_law 200 = .ok (.aload_n 1, 1) := dk_43 (dk_at dksL_law_8 2 rfl rfl)
theorem dL_law_201 : decode cL_law 201 = .ok (.aload_n 0, 1) := dk_42 (dk_at dksL_law_8 3 rfl rfl)
theorem dL_law_202 : decode cL_law 202 = .ok (.iload_n 3, 1) := dk_29 (dk_at dksL_law_8 4 rfl rfl)
theorem dL_law_203 : decode cL_law 203 = .ok (.iconst 1, 1) := dk_4 (dk_at dksL_law_8 5 rfl rfl)
theorem dL_law_204 : decode cL_law 204 = .ok (.iadd, 1) := dk_96 (dk_at dksL_law_8 6 rfl rfl)
theorem dL_law_205 : decode cL_law 205 = .ok (.iaload, 1) := dk_46 (dk_at dksL_law_8 7 rfl rfl)
theorem dL_law_206 : decode cL_law 206 = .ok (.invokevirtual 31, 3) := dk_182 0 31 (dk_at dksL_law_8 8 rfl rfl)
theorem dL_law_209 : decode cL_law 209 = .ok (.aload_n 2, 1) := dk_44 (dk_at dksL_law_8 11 rfl rfl)
theorem dL_law_210 : decode cL_law 210 = .ok (.aload_n 0, 1) := dk_42 (dk_at dksL_law_8 12 rfl rfl)
theorem dL_law_211 : decode cL_law 211 = .ok (.iload_n 3, 1) := dk_29 (dk_at dksL_law_8 13 rfl rfl)
theorem dL_law_212 : decode cL_law 212 = .ok (.iconst 1, 1) := dk_4 (dk_at dksL_law_8 14 rfl rfl)
theorem dL_law_213 : decode cL_law 213 = .ok (.iadd, 1) := dk_96 (dk_at dksL_law_8 15 rfl rfl)
theorem dL_law_214 : decode cL_law 214 = .ok (.iaload, 1) := dk_46 (dk_at dksL_law_8 16 rfl rfl)
theorem dL_law_215 : decode cL_law 215 = .ok (.invokevirtual 34, 3) := dk_182 0 34 (dk_at dksL_law_8 17 rfl rfl)
theorem dL_law_218 : decode cL_law 218 = .ok (.if_icmp .eq 121, 3) := dk_159 0 121 (dk_at dksL_law_8 20 rfl rfl)
theorem dL_law_221 : decode cL_law 221 = .ok (.iconst 0, 1) := dk_3 (dk_at dksL_law_8 23 rfl rfl)
theorem dL_law_222 : decode cL_law 222 = .ok (.ireturn, 1) := dk_172 (dk_at dksL_law_9 0 rfl rfl)
theorem dL_law_223 : decode cL_law 223 = .ok (.aload_n 1, 1) := dk_43 (dk_at dksL_law_9 1 rfl rfl)
theorem dL_law_224 : decode cL_law 224 = .ok (.aload_n 0, 1) := dk_42 (dk_at dksL_law_9 2 rfl rfl)
theorem dL_law_225 : decode cL_law 225 = .ok (.iload_n 3, 1) := dk_29 (dk_at dksL_law_9 3 rfl rfl)
theorem dL_law_226 : decode cL_law 226 = .ok (.iconst 1, 1) := dk_4 (dk_at dksL_law_9 4 rfl rfl)
theorem dL_law_227 : decode cL_law 227 = .ok (.iadd, 1) := dk_96 (dk_at dksL_law_9 5 rfl rfl)
theorem dL_law_228 : decode cL_law 228 = .ok (.iaload, 1) := dk_46 (dk_at dksL_law_9 6 rfl rfl)
theorem dL_law_229 : decode cL_law 229 = .ok (.invokevirtual 35, 3) := dk_182 0 35 (dk_at dksL_law_9 7 rfl rfl)
theorem dL_law_232 : decode cL_law 232 = .ok (.aload_n 2, 1) := dk_44 (dk_at dksL_law_9 10 rfl rfl)
theorem dL_law_233 : decode cL_law 233 = .ok (.aload_n 0, 1) := dk_42 (dk_at dksL_law_9 11 rfl rfl)
theorem dL_law_234 : decode cL_law 234 = .ok (.iload_n 3, 1) := dk_29 (dk_at dksL_law_9 12 rfl rfl)
theorem dL_law_235 : decode cL_law 235 = .ok (.iconst 1, 1) := dk_4 (dk_at dksL_law_9 13 rfl rfl)
theorem dL_law_236 : decode cL_law 236 = .ok (.iadd, 1) := dk_96 (dk_at dksL_law_9 14 rfl rfl)
theorem dL_law_237 : decode cL_law 237 = .ok (.iaload, 1) := dk_46 (dk_at dksL_law_9 15 rfl rfl)
theorem dL_law_238 : decode cL_law 238 = .ok (.invokevirtual 38, 3) := dk_182 0 38 (dk_at dksL_law_9 16 rfl rfl)
theorem dL_law_241 : decode cL_law 241 = .ok (.if_icmp .eq 98, 3) := dk_159 0 98 (dk_at dksL_law_9 19 rfl rfl)
theorem dL_law_244 : decode cL_law 244 = .ok (.iconst 0, 1) := dk_3 (dk_at dksL_law_9 22 rfl rfl)
theorem dL_law_245 : decode cL_law 245 = .ok (.ireturn, 1) := dk_172 (dk_at dksL_law_9 23 rfl rfl)
theorem dL_law_246 : decode cL_law 246 = .ok (.aload_n 1, 1) := dk_43 (dk_at dksL_law_10 0 rfl rfl)
theorem dL_law_247 : decode cL_law 247 = .ok (.aload_n 0, 1) := dk_42 (dk_at dksL_law_10 1 rfl rfl)
theorem dL_law_248 : decode cL_law 248 = .ok (.iload_n 3, 1) := dk_29 (dk_at dksL_law_10 2 rfl rfl)
theorem dL_law_249 : decode cL_law 249 = .ok (.iconst 1, 1) := dk_4 (dk_at dksL_law_10 3 rfl rfl)
theorem dL_law_250 : decode cL_law 250 = .ok (.iadd, 1) := dk_96 (dk_at dksL_law_10 4 rfl rfl)
theorem dL_law_251 : decode cL_law 251 = .ok (.iaload, 1) := dk_46 (dk_at dksL_law_10 5 rfl rfl)
theorem dL_law_252 : decode cL_law 252 = .ok (.aload_n 0, 1) := dk_42 (dk_at dksL_law_10 6 rfl rfl)
theorem dL_law_253 : decode cL_law 253 = .ok (.iload_n 3, 1) := dk_29 (dk_at dksL_law_10 7 rfl rfl)
theorem dL_law_254 : decode cL_law 254 = .ok (.iconst 2, 1) := dk_5 (dk_at dksL_law_10 8 rfl rfl)
theorem dL_law_255 : decode cL_law 255 = .ok (.iadd, 1) := dk_96 (dk_at dksL_law_10 9 rfl rfl)
theorem dL_law_256 : decode cL_law 256 = .ok (.iaload, 1) := dk_46 (dk_at dksL_law_10 10 rfl rfl)
theorem dL_law_257 : decode cL_law 257 = .ok (.invokevirtual 39, 3) := dk_182 0 39 (dk_at dksL_law_10 11 rfl rfl)
theorem dL_law_260 : decode cL_law 260 = .ok (.aload_n 2, 1) := dk_44 (dk_at dksL_law_10 14 rfl rfl)
theorem dL_law_261 : decode cL_law 261 = .ok (.aload_n 0, 1) := dk_42 (dk_at dksL_law_10 15 rfl rfl)
theorem dL_law_262 : decode cL_law 262 = .ok (.iload_n 3, 1) := dk_29 (dk_at dksL_law_10 16 rfl rfl)
theorem dL_law_263 : decode cL_law 263 = .ok (.iconst 1, 1) := dk_4 (dk_at dksL_law_10 17 rfl rfl)
theorem dL_law_264 : decode cL_law 264 = .ok (.iadd, 1) := dk_96 (dk_at dksL_law_10 18 rfl rfl)
theorem dL_law_265 : decode cL_law 265 = .ok (.iaload, 1) := dk_46 (dk_at dksL_law_10 19 rfl rfl)
theorem dL_law_266 : decode cL_law 266 = .ok (.aload_n 0, 1) := dk_42 (dk_at dksL_law_10 20 rfl rfl)
theorem dL_law_267 : decode cL_law 267 = .ok (.iload_n 3, 1) := dk_29 (dk_at dksL_law_10 21 rfl rfl)
theorem dL_law_268 : decode cL_law 268 = .ok (.iconst 2, 1) := dk_5 (dk_at dksL_law_10 22 rfl rfl)
theorem dL_law_269 : decode cL_law 269 = .ok (.iadd, 1) := dk_96 (dk_at dksL_law_10 23 rfl rfl)
theorem dL_law_270 : decode cL_law 270 = .ok (.iaload, 1) := dk_46 (dk_at dksL_law_11 0 rfl rfl)
theorem dL_law_271 : decode cL_law 271 = .ok (.invokevirtual 43, 3) := dk_182 0 43 (dk_at dksL_law_11 1 rfl rfl)
theorem dL_law_274 : decode cL_law 274 = .ok (.goto 65, 3) := dk_167 0 65 (dk_at dksL_law_11 4 rfl rfl)
theorem dL_law_277 : decode cL_law 277 = .ok (.aload_n 1, 1) := dk_43 (dk_at dksL_law_11 7 rfl rfl)
theorem dL_law_278 : decode cL_law 278 = .ok (.aload_n 0, 1) := dk_42 (dk_at dksL_law_11 8 rfl rfl)
theorem dL_law_279 : decode cL_law 279 = .ok (.iload_n 3, 1) := dk_29 (dk_at dksL_law_11 9 rfl rfl)
theorem dL_law_280 : decode cL_law 280 = .ok (.iconst 1, 1) := dk_4 (dk_at dksL_law_11 10 rfl rfl)
theorem dL_law_281 : decode cL_law 281 = .ok (.iadd, 1) := dk_96 (dk_at dksL_law_11 11 rfl rfl)
theorem dL_law_282 : decode cL_law 282 = .ok (.iaload, 1) := dk_46 (dk_at dksL_law_11 12 rfl rfl)
theorem dL_law_283 : decode cL_law 283 = .ok (.aload_n 0, 1) := dk_42 (dk_at dksL_law_11 13 rfl rfl)
theorem dL_law_284 : decode cL_law 284 = .ok (.iload_n 3, 1) := dk_29 (dk_at dksL_law_11 14 rfl rfl)
theorem dL_law_285 : decode cL_law 285 = .ok (.iconst 2, 1) := dk_5 (dk_at dksL_law_11 15 rfl rfl)
theorem dL_law_286 : decode cL_law 286 = .ok (.iadd, 1) := dk_96 (dk_at dksL_law_11 16 rfl rfl)
theorem dL_law_287 : decode cL_law 287 = .ok (.iaload, 1) := dk_46 (dk_at dksL_law_11 17 rfl rfl)
theorem dL_law_288 : decode cL_law 288 = .ok (.invokevirtual 44, 3) := dk_182 0 44 (dk_at dksL_law_11 18 rfl rfl)
theorem dL_law_291 : decode cL_law 291 = .ok (.aload_n 2, 1) := dk_44 (dk_at dksL_law_11 21 rfl rfl)
theorem dL_law_292 : decode cL_law 292 = .ok (.aload_n 0, 1) := dk_42 (dk_at dksL_law_11 22 rfl rfl)
theorem dL_law_293 : decode cL_law 293 = .ok (.iload_n 3, 1) := dk_29 (dk_at dksL_law_11 23 rfl rfl)
theorem dL_law_294 : decode cL_law 294 = .ok (.iconst 1, 1) := dk_4 (dk_at dksL_law_12 0 rfl rfl)
theorem dL_law_295 : decode cL_law 295 = .ok (.iadd, 1) := dk_96 (dk_at dksL_law_12 1 rfl rfl)
theorem dL_law_296 : decode cL_law 296 = .ok (.iaload, 1) := dk_46 (dk_at dksL_law_12 2 rfl rfl)
theorem dL_law_297 : decode cL_law 297 = .ok (.aload_n 0, 1) := dk_42 (dk_at dksL_law_12 3 rfl rfl)
theorem dL_law_298 : decode cL_law 298 = .ok (.iload_n 3, 1) := dk_29 (dk_at dksL_law_12 4 rfl rfl)
theorem dL_law_299 : decode cL_law 299 = .ok (.iconst 2, 1) := dk_5 (dk_at dksL_law_12 5 rfl rfl)
theorem dL_law_300 : decode cL_law 300 = .ok (.iadd, 1) := dk_96 (dk_at dksL_law_12 6 rfl rfl)
theorem dL_law_301 : decode cL_law 301 = .ok (.iaload, 1) := dk_46 (dk_at dksL_law_12 7 rfl rfl)
theorem dL_law_302 : decode cL_law 302 = .ok (.invokevirtual 47, 3) := dk_182 0 47 (dk_at dksL_law_12 8 rfl rfl)
theorem dL_law_305 : decode cL_law 305 = .ok (.goto 34, 3) := dk_167 0 34 (dk_at dksL_law_12 11 rfl rfl)
theorem dL_law_308 : decode cL_law 308 = .ok (.aload_n 1, 1) := dk_43 (dk_at dksL_law_12 14 rfl rfl)
theorem dL_law_309 : decode cL_law 309 = .ok (.aload_n 0, 1) := dk_42 (dk_at dksL_law_12 15 rfl rfl)
theorem dL_law_310 : decode cL_law 310 = .ok (.iload_n 3, 1) := dk_29 (dk_at dksL_law_12 16 rfl rfl)
theorem dL_law_311 : decode cL_law 311 = .ok (.iconst 1, 1) := dk_4 (dk_at dksL_law_12 17 rfl rfl)
theorem dL_law_312 : decode cL_law 312 = .ok (.iadd, 1) := dk_96 (dk_at dksL_law_12 18 rfl rfl)
theorem dL_law_313 : decode cL_law 313 = .ok (.iaload, 1) := dk_46 (dk_at dksL_law_12 19 rfl rfl)
theorem dL_law_314 : decode cL_law 314 = .ok (.aload_n 0, 1) := dk_42 (dk_at dksL_law_12 20 rfl rfl)
theorem dL_law_315 : decode cL_law 315 = .ok (.iload_n 3, 1) := dk_29 (dk_at dksL_law_12 21 rfl rfl)
theorem dL_law_316 : decode cL_law 316 = .ok (.iconst 2, 1) := dk_5 (dk_at dksL_law_12 22 rfl rfl)
theorem dL_law_317 : decode cL_law 317 = .ok (.iadd, 1) := dk_96 (dk_at dksL_law_12 23 rfl rfl)
theorem dL_law_318 : decode cL_law 318 = .ok (.iaload, 1) := dk_46 (dk_at dksL_law_13 0 rfl rfl)
theorem dL_law_319 : decode cL_law 319 = .ok (.invokevirtual 48, 3) := dk_182 0 48 (dk_at dksL_law_13 1 rfl rfl)
theorem dL_law_322 : decode cL_law 322 = .ok (.aload_n 2, 1) := dk_44 (dk_at dksL_law_13 4 rfl rfl)
theorem dL_law_323 : decode cL_law 323 = .ok (.aload_n 0, 1) := dk_42 (dk_at dksL_law_13 5 rfl rfl)
theorem dL_law_324 : decode cL_law 324 = .ok (.iload_n 3, 1) := dk_29 (dk_at dksL_law_13 6 rfl rfl)
theorem dL_law_325 : decode cL_law 325 = .ok (.iconst 1, 1) := dk_4 (dk_at dksL_law_13 7 rfl rfl)
theorem dL_law_326 : decode cL_law 326 = .ok (.iadd, 1) := dk_96 (dk_at dksL_law_13 8 rfl rfl)
theorem dL_law_327 : decode cL_law 327 = .ok (.iaload, 1) := dk_46 (dk_at dksL_law_13 9 rfl rfl)
theorem dL_law_328 : decode cL_law 328 = .ok (.aload_n 0, 1) := dk_42 (dk_at dksL_law_13 10 rfl rfl)
theorem dL_law_329 : decode cL_law 329 = .ok (.iload_n 3, 1) := dk_29 (dk_at dksL_law_13 11 rfl rfl)
theorem dL_law_330 : decode cL_law 330 = .ok (.iconst 2, 1) := dk_5 (dk_at dksL_law_13 12 rfl rfl)
theorem dL_law_331 : decode cL_law 331 = .ok (.iadd, 1) := dk_96 (dk_at dksL_law_13 13 rfl rfl)
theorem dL_law_332 : decode cL_law 332 = .ok (.iaload, 1) := dk_46 (dk_at dksL_law_13 14 rfl rfl)
theorem dL_law_333 : decode cL_law 333 = .ok (.invokevirtual 51, 3) := dk_182 0 51 (dk_at dksL_law_13 15 rfl rfl)
theorem dL_law_336 : decode cL_law 336 = .ok (.goto 3, 3) := dk_167 0 3 (dk_at dksL_law_13 18 rfl rfl)
theorem dL_law_339 : decode cL_law 339 = .ok (.iinc 3 6, 3) := dk_132 3 6 (dk_at dksL_law_13 21 rfl rfl)
theorem dL_law_342 : decode cL_law 342 = .ok (.goto (-324), 3) := dk_167 254 188 (dk_at dksL_law_14 0 rfl rfl)
theorem dL_law_345 : decode cL_law 345 = .ok (.iconst 1, 1) := dk_4 (dk_at dksL_law_14 3 rfl rfl)
theorem dL_law_346 : decode cL_law 346 = .ok (.ireturn, 1) := dk_172 (dk_at dksL_law_14 4 rfl rfl)
end
section
/-! ROWS OF THIS CLAIM: whole numbers as ints, entries of methods, calls -/
abbrev vwCl : List vw_C := [(RX0, TX0, 3), (RX1, TX1, 3)]
def zI (n : Int) : Int32 := Int32.ofInt n
theorem zI_c {a b : Int} (h : a = b) : zI a = zI b := congrArg zI h
theorem zI_add (a b : Int) : zI a + zI b = zI (a + b) := (Int32.ofInt_add a b).symm
theorem zI_sub (a b : Int) : zI a - zI b = zI (a - b) := (Int32.ofInt_sub a b).symm
theorem zI_nat (k : Nat) : zI (k : Int) = nI k := Int32.ofInt_eq_ofNat
theorem zI_t {a : Int} (h1 : -2147483648 ≤ a) (h2 : a < 2147483648) : (zI a).toInt = a := Int32.toInt_ofInt_of_le (by omega) (by omega)
theorem zI_lt {a b : Int} (h : -2147483648 ≤ a ∧ a < 2147483648 ∧ -2147483648 ≤ b ∧ b < 2147483648) : zI a < zI b ↔ a < b := by
  rw [Int32.lt_iff_toInt_lt, zI_t h.1 h.2.1, zI_t h.2.2.1 h.2.2.2]
theorem zI_le {a b : Int} (h : -2147483648 ≤ a ∧ a < 2147483648 ∧ -2147483648 ≤ b ∧ b < 2147483648) : zI a ≤ zI b ↔ a ≤ b := by
  rw [Int32.le_iff_toInt_le, zI_t h.1 h.2.1, zI_t h.2.2.1 h.2.2.2]
theorem zI_eq {a b : Int} (h : -2147483648 ≤ a ∧ a < 2147483648 ∧ -2147483648 ≤ b ∧ b < 2147483648) : zI a = zI b ↔ a = b := by
  rw [← Int32.toInt_inj, zI_t h.1 h.2.1, zI_t h.2.2.1 h.2.2.2]
theorem zI_cl {k : Nat} (h : k < 2147483648) : (zI (k : Int)).toNatClampNeg = k := by
  rw [zI_nat]
  exact nI_clamp (by omega)
theorem zI_in {k n : Nat} (h : k < n) (hn : n < 2147483648) : vp_in (zI (k : Int)) n := by
  rw [zI_nat]
  exact vp_in_nI h (by omega)
/-- the low 31 bits -/
def zw (x : Int32) : Nat := x.toBitVec.toNat % 2147483648
theorem zw_lt (x : Int32) : zw x < 2147483648 := Nat.mod_lt _ (by decide)
theorem zw_and (x : Int32) : x &&& 2147483647 = zI (zw x : Int) := by
  rw [zI_nat]
  exact pk_and x 31 (by decide)
/-- Integer.compare -/
def zcmp (x y : Int32) : Int32 := if x < y then zI (-1) else if x = y then zI 0 else zI 1
section ZR
variable {p : Program} {l : Launch} {e : Env} {R : Room} {s : State} {m : MethodId} {args : Array Value} {below : List Frame} {meth : Method} {c : Code} {H : Heap} {locs : List Loc} {cells slots : Nat} {Q : State → Prop}
variable {cc : ByteArray} {pc : Nat} {ls : Array Slot} {rest : List Value} {D : va_G} {A : Nat → Prop} {a : Nat} {tys : List (ClassId × FieldType)} {ws : va_W} {H0 : Heap} {cl : List vw_C}
theorem kz_iadd {x y E : Int} (hexec : p.tables.exec = Jvm.exec) (hb : c.code = cc) (hdg : decode cc pc = .ok (.iadd, 1)) (hE : x + y = E) (k : W p l e R s m args below meth c H locs cells slots Q (F0 m (pc + 1) ls (.int (zI E) :: rest))) : W p l e R s m args below meth c H locs cells slots Q (F0 m pc ls (.int (zI y) :: .int (zI x) :: rest)) := by
  refine lv_iadd hexec hb hdg ?_
  rw [zI_add, hE]
  exact k
theorem kz_isub {x y E : Int} (hexec : p.tables.exec = Jvm.exec) (hb : c.code = cc) (hdg : decode cc pc = .ok (.isub, 1)) (hE : x - y = E) (k : W p l e R s m args below meth c H locs cells slots Q (F0 m (pc + 1) ls (.int (zI E) :: rest))) : W p l e R s m args below meth c H locs cells slots Q (F0 m pc ls (.int (zI y) :: .int (zI x) :: rest)) := by
  refine lv_isub hexec hb hdg ?_
  rw [zI_sub, hE]
  exact k
theorem kz_irem {x y : Int32} (a b : Nat) (hexec : p.tables.exec = Jvm.exec) (hb : c.code = cc) (hdg : decode cc pc = .ok (.irem, 1)) (hx : x = zI (a : Int)) (hy : y = zI (b : Int)) (ha : a < 2147483648) (hb0 : 0 < b) (hb1 : b < 2147483648) (k : W p l e R s m args below meth c H locs cells slots Q (F0 m (pc + 1) ls (.int (zI ((a % b : Nat) : Int)) :: rest))) : W p l e R s m args below meth c H locs cells slots Q (F0 m pc ls (.int y :: .int x :: rest)) := by
  subst hx; subst hy
  refine lv_irem hexec hb hdg ?_ ?_
  · intro h
    have h2 : zI (b : Int) = zI 0 := h
    rw [zI_eq (by omega)] at h2
    omega
  · rw [zI_nat, zI_nat, pk_rem (by omega) hb0 (by omega), ← zI_nat]
    exact k
theorem kz_idiv {x y : Int32} (a b : Nat) (hexec : p.tables.exec = Jvm.exec) (hb : c.code = cc) (hdg : decode cc pc = .ok (.idiv, 1)) (hx : x = zI (a : Int)) (hy : y = zI (b : Int)) (ha : a < 2147483648) (hb0 : 0 < b) (hb1 : b < 2147483648) (k : W p l e R s m args below meth c H locs cells slots Q (F0 m (pc + 1) ls (.int (zI ((a / b : Nat) : Int)) :: rest))) : W p l e R s m args below meth c H locs cells slots Q (F0 m pc ls (.int y :: .int x :: rest)) := by
  subst hx; subst hy
  refine lv_idiv hexec hb hdg ?_ ?_
  · intro h
    have h2 : zI (b : Int) = zI 0 := h
    rw [zI_eq (by omega)] at h2
    omega
  · rw [zI_nat, zI_nat, pk_div (by omega) hb0 (by omega), ← zI_nat]
    exact k
theorem kz_and31 {x : Int32} (hexec : p.tables.exec = Jvm.exec) (hb : c.code = cc) (hdg : decode cc pc = .ok (.iand, 1)) (k : W p l e R s m args below meth c H locs cells slots Q (F0 m (pc + 1) ls (.int (zI (zw x : Int)) :: rest))) : W p l e R s m args below meth c H locs cells slots Q (F0 m pc ls (.int 2147483647 :: .int x :: rest)) := by
  refine lv_iand hexec hb hdg ?_
  rw [zw_and]
  exact k
theorem kz_iinc (hexec : p.tables.exec = Jvm.exec) (hb : c.code = cc) {i nL k : Nat} {n x E : Int} {lv lv' : List (Nat × Value)} (hdg : decode cc pc = .ok (.iinc i n, 3)) (h : lv_has ls nL lv) (hk : lv[k]? = some (i, .int (zI x))) (hE : x + n = E) (hn : i < nL) (hl : (i, Value.int (zI E)) :: lv.filter (fun q => !(q.1 == i) && !(q.1 + 1 == i && q.2.category == 2)) = lv')
    (kk : ∀ ls' : Array Slot, lv_has ls' nL lv' → W p l e R s m args below meth c H locs cells slots Q (F0 m (pc + 3) ls' rest)) : W p l e R s m args below meth c H locs cells slots Q (F0 m pc ls rest) :=
  lv_iinc hexec hb hdg h hk (by rw [← hE, ← zI_add]; rfl) hn hl kk
theorem kz_icmp_ge {x y : Int} (hexec : p.tables.exec = Jvm.exec) (hb : c.code = cc) {off : Int} {tgt : Nat} (hdg : decode cc pc = .ok (.if_icmp .ge off, 3)) (ht : (pc : Int) + off = (tgt : Int)) (hr : -2147483648 ≤ y ∧ y < 2147483648 ∧ -2147483648 ≤ x ∧ x < 2147483648)
    (kt : y ≤ x → W p l e R s m args below meth c H locs cells slots Q (F0 m tgt ls rest)) (kf : x < y → W p l e R s m args below meth c H locs cells slots Q (F0 m (pc + 3) ls rest)) : W p l e R s m args below meth c H locs cells slots Q (F0 m pc ls (.int (zI y) :: .int (zI x) :: rest)) :=
  lv_icmp_ge hexec hb hdg ht (fun h => kt ((zI_le hr).mp h)) (fun h => kf (Int.not_le.mp (fun q => h ((zI_le hr).mpr q))))
theorem kz_icmp_lt {x y : Int} (hexec : p.tables.exec = Jvm.exec) (hb : c.code = cc) {off : Int} {tgt : Nat} (hdg : decode cc pc = .ok (.if_icmp .lt off, 3)) (ht : (pc : Int) + off = (tgt : Int)) (hr : -2147483648 ≤ x ∧ x < 2147483648 ∧ -2147483648 ≤ y ∧ y < 2147483648)
    (kt : x < y → W p l e R s m args below meth c H locs cells slots Q (F0 m tgt ls rest)) (kf : y ≤ x → W p l e R s m args below meth c H locs cells slots Q (F0 m (pc + 3) ls rest)) : W p l e R s m args below meth c H locs cells slots Q (F0 m pc ls (.int (zI y) :: .int (zI x) :: rest)) :=
  lv_icmp_lt hexec hb hdg ht (fun h => kt ((zI_lt hr).mp h)) (fun h => kf (Int.not_lt.mp (fun q => h ((zI_lt hr).mpr q))))
theorem kz_icmp_gt {x y : Int} (hexec : p.tables.exec = Jvm.exec) (hb : c.code = cc) {off : Int} {tgt : Nat} (hdg : decode cc pc = .ok (.if_icmp .gt off, 3)) (ht : (pc : Int) + off = (tgt : Int)) (hr : -2147483648 ≤ y ∧ y < 2147483648 ∧ -2147483648 ≤ x ∧ x < 2147483648)
    (kt : y < x → W p l e R s m args below meth c H locs cells slots Q (F0 m tgt ls rest)) (kf : x ≤ y → W p l e R s m args below meth c H locs cells slots Q (F0 m (pc + 3) ls rest)) : W p l e R s m args below meth c H locs cells slots Q (F0 m pc ls (.int (zI y) :: .int (zI x) :: rest)) :=
  lv_icmp_gt hexec hb hdg ht (fun h => kt ((zI_lt hr).mp h)) (fun h => kf (Int.not_lt.mp (fun q => h ((zI_lt hr).mpr q))))
theorem kz_icmp_le {x y : Int} (hexec : p.tables.exec = Jvm.exec) (hb : c.code = cc) {off : Int} {tgt : Nat} (hdg : decode cc pc = .ok (.if_icmp .le off, 3)) (ht : (pc : Int) + off = (tgt : Int)) (hr : -2147483648 ≤ x ∧ x < 2147483648 ∧ -2147483648 ≤ y ∧ y < 2147483648)
    (kt : x ≤ y → W p l e R s m args below meth c H locs cells slots Q (F0 m tgt ls rest)) (kf : y < x → W p l e R s m args below meth c H locs cells slots Q (F0 m (pc + 3) ls rest)) : W p l e R s m args below meth c H locs cells slots Q (F0 m pc ls (.int (zI y) :: .int (zI x) :: rest)) :=
  lv_icmp_le hexec hb hdg ht (fun h => kt ((zI_le hr).mp h)) (fun h => kf (Int.not_le.mp (fun q => h ((zI_le hr).mpr q))))
theorem kz_icmp_eq {x y : Int} (hexec : p.tables.exec = Jvm.exec) (hb : c.code = cc) {off : Int} {tgt : Nat} (hdg : decode cc pc = .ok (.if_icmp .eq off, 3)) (ht : (pc : Int) + off = (tgt : Int)) (hr : -2147483648 ≤ x ∧ x < 2147483648 ∧ -2147483648 ≤ y ∧ y < 2147483648)
    (kt : x = y → W p l e R s m args below meth c H locs cells slots Q (F0 m tgt ls rest)) (kf : ¬ x = y → W p l e R s m args below meth c H locs cells slots Q (F0 m (pc + 3) ls rest)) : W p l e R s m args below meth c H locs cells slots Q (F0 m pc ls (.int (zI y) :: .int (zI x) :: rest)) :=
  lv_icmp_eq hexec hb hdg ht (fun h => kt ((zI_eq hr).mp h)) (fun h => kf (fun q => h ((zI_eq hr).mpr q)))
theorem kz_icmp_ne {x y : Int} (hexec : p.tables.exec = Jvm.exec) (hb : c.code = cc) {off : Int} {tgt : Nat} (hdg : decode cc pc = .ok (.if_icmp .ne off, 3)) (ht : (pc : Int) + off = (tgt : Int)) (hr : -2147483648 ≤ x ∧ x < 2147483648 ∧ -2147483648 ≤ y ∧ y < 2147483648)
    (kt : ¬ x = y → W p l e R s m args below meth c H locs cells slots Q (F0 m tgt ls rest)) (kf : x = y → W p l e R s m args below meth c H locs cells slots Q (F0 m (pc + 3) ls rest)) : W p l e R s m args below meth c H locs cells slots Q (F0 m pc ls (.int (zI y) :: .int (zI x) :: rest)) :=
  lv_icmp_ne hexec hb hdg ht (fun h => kt (fun q => h ((zI_eq hr).mpr q))) (fun h => kf ((zI_eq hr).mp h))
theorem kz_iald (hexec : p.tables.exec = Jvm.exec) (hb : c.code = cc) (hK : va_K D cl tys s) (hP : va_P D cl ws H) (q0 t0 : Nat) {cA : ClassId} {n : Nat} {f : Nat → Int32} (ha : ws[q0]? = some (a, .inl (cA, n, .inl f))) (ht : tys[t0]? = some (cA, .int)) {i : Int} {k : Nat} (hi : i = (k : Int)) (hk : k < n) (hn : n < 2147483648) (hdg : decode cc pc = .ok (.iaload, 1))
    (kk : W p l e R s m args below meth c H locs cells slots Q (F0 m (pc + 1) ls (.int (f k) :: rest))) : W p l e R s m args below meth c H locs cells slots Q (F0 m pc ls (.int (zI i) :: .ref a :: rest)) := by
  subst hi
  refine va_iald hexec hb hK hP q0 t0 ha ht (zI_in hk hn) hdg ?_
  rw [zI_cl (by omega)]
  exact kk
theorem kz_iast (hexec : p.tables.exec = Jvm.exec) (hb : c.code = cc) (hK : va_K D cl tys s) (hP : va_P D cl ws H) (hD : va_D A ws) (hS : va_S A H0 H locs) (q0 t0 : Nat) {cA : ClassId} {n : Nat} {f : Nat → Int32} (ha : ws[q0]? = some (a, .inl (cA, n, .inl f))) (ht : tys[t0]? = some (cA, .int)) {i : Int} {k : Nat} {x : Int32} (hi : i = (k : Int)) (hk : k < n) (hn : n < 2147483648) (hdg : decode cc pc = .ok (.iastore, 1))
    (kk : ∀ (H1 : Heap) (locs1 : List Loc), va_P D cl (ws.set q0 (a, .inl (cA, n, .inl (upd f k x)))) H1 → va_D A (ws.set q0 (a, .inl (cA, n, .inl (upd f k x)))) → va_S A H0 H1 locs1 → W p l e R s m args below meth c H1 locs1 cells slots Q (F0 m (pc + 1) ls rest)) : W p l e R s m args below meth c H locs cells slots Q (F0 m pc ls (.int x :: .int (zI i) :: .ref a :: rest)) := by
  subst hi
  refine va_iast hexec hb hK hP hD hS q0 t0 ha ht (zI_in hk hn) hdg ?_
  rw [zI_cl (by omega)]
  exact kk
theorem kz_sld (hexec : p.tables.exec = Jvm.exec) (hb : c.code = cc) {b L : Nat} {xs : Nat → Int32} (hX : va_X b L xs s H0) (hbl : b < H0.size) (hbA : ¬ A b) (hS : va_S A H0 H locs) {i : Int} {k : Nat} (hi : i = (k : Int)) (hk : k < L) (hL : L < 2147483648) (hdg : decode cc pc = .ok (.iaload, 1))
    (kk : W p l e R s m args below meth c H locs cells slots Q (F0 m (pc + 1) ls (.int (xs k) :: rest))) : W p l e R s m args below meth c H locs cells slots Q (F0 m pc ls (.int (zI i) :: .ref b :: rest)) := by
  subst hi
  refine va_sld hexec hb hX hbl hbA hS (zI_in hk hL) hdg ?_
  rw [zI_cl (by omega)]
  exact kk
/-- the array type of ints is one -/
theorem kz_cA {D : va_G} {c1 c2 : ClassId} {tys : List (ClassId × FieldType)} {i j : Nat} (hK : va_K D cl tys s) (h1 : tys[i]? = some (c1, .int)) (h2 : tys[j]? = some (c2, .int)) : c1 = c2 := by
  have e1 : s.vm.findClass ("[" ++ FieldType.int.toString) = some c1 := (hK.2 i _ h1).2
  have e2 : s.vm.findClass ("[" ++ FieldType.int.toString) = some c2 := (hK.2 j _ h2).2
  exact Option.some.inj (e1.symm.trans e2)
theorem kz_newa {dA : ClassId} (hexec : p.tables.exec = Jvm.exec) (hb : c.code = cc) (harr : (Cond.arrayClass .int).before args s = true) (hK : va_K D cl [(dA, .int)] s) (hP : va_P D cl ws H) (hD : va_D A ws) (hS : va_S A H0 H locs) (hA : ∀ q, H0.size ≤ q → A q)
    (hcells : cells + 1 ≤ R.cells) (hslots : slots + 48 ≤ R.slots) (hdg : decode cc pc = .ok (.newarray .int, 2))
    (kk : ∀ (q : Nat) (H1 : Heap), va_P D cl (ws ++ [(q, .inl (dA, 48, .inl (fun _ => 0)))]) H1 → va_D A (ws ++ [(q, .inl (dA, 48, .inl (fun _ => 0)))]) → va_S A H0 H1 locs →
      W p l e R s m args below meth c H1 locs (cells + 1) (slots + 48) Q (F0 m (pc + 2) ls (.ref q :: rest))) : W p l e R s m args below meth c H locs cells slots Q (F0 m pc ls (.int (zI 48) :: rest)) := by
  refine va_newa (atype := .int) (ty := .int) (N' := 48) (a0 := (48, .inl (fun _ => 0))) hexec hb harr rfl hK hP hD hS hA (fun cA => rfl) (by decide +kernel) (by decide +kernel) (by decide) hcells hslots hdg ?_
  intro q cA H1 hK1 hP1 hD1 hS1
  have hc : cA = dA := kz_cA hK1 (i := 1) (j := 0) rfl rfl
  subst hc
  exact kk q H1 hP1 hD1 hS1
end ZR
/-! entries of methods -/
abbrev zr (f c s w : Nat) : Room := { frames := f, cells := c, slots := s, locals := w }
def zPc (As : List Value) (H : Heap) (D : va_G) (dA : ClassId) (wc : va_W) : Array Value → State → Prop := va_Pc As (fun U => U.heap = H ∧ va_P D vwCl wc H ∧ va_K D vwCl [(dA, .int)] U ∧ va_D (fun _ => True) wc)
abbrev zQv {S : Type} (post : S → Prop) (WS : S → va_W) (D : va_G) (dA : ClassId) (wc : va_W) (sz : Nat) : Array Value → State → Outcome → State → Prop :=
  va_Qv post (fun u t => va_P D vwCl (WS u) t.heap ∧ va_K D vwCl [(dA, .int)] t ∧ va_D (va_A wc sz) (WS u)) (va_A wc sz)
abbrev zQp (post : Int32 → Prop) (H : Heap) : Array Value → State → Outcome → State → Prop :=
  va_Qi (fun (r : Int32) (_ : Unit) => post r) (fun _ t => t.heap = H) (fun _ => False)
theorem zPc_blind {As : List Value} {H : Heap} {D : va_G} {dA : ClassId} {wc : va_W} : FrameBlind (zPc As H D dA wc) := fun a U g mk q => by
  obtain ⟨q0, q1, qP, qK, qD⟩ := q
  exact ⟨q0, q1, qP, va_K.moved (u := U) (U := U.calling g mk a) (Vm.Alike.refl U.vm) qK, qD⟩
theorem z_preS {As : List Value} {H : Heap} {D : va_G} {dA : ClassId} {wc : va_W} {s : State} {A : Nat → Prop} (hP : va_P D vwCl wc H) (hK : va_K D vwCl [(dA, .int)] s) (hD : va_D A wc) : PreS s H (zPc As H D dA wc) As :=
  ⟨zPc_blind, fun U hU hW => ⟨rfl, hU, hP, va_K.moved hW.alike hK, hD.weaken (fun _ _ _ _ => trivial)⟩⟩
theorem z_preV {As : List Value} {H : Heap} {D : va_G} {dA : ClassId} {wc : va_W} {s : State} {A : Nat → Prop} {q : vw_C} {ci q0 a : Nat} {fs : List Value} (hP : va_P D vwCl wc H) (hK : va_K D vwCl [(dA, .int)] s) (hD : va_D A wc) (hc : vwCl[ci]? = some q) (he : wc[q0]? = some (a, .inr (ci, fs))) : PreV s H q.1 a (zPc (.ref a :: As) H D dA wc) As :=
  ⟨zPc_blind, va_recv hK hP hc he, fun U hU hW => ⟨rfl, hU, hP, va_K.moved hW.alike hK, hD.weaken (fun _ _ _ _ => trivial)⟩⟩
theorem zMet_v {S : Type} {l : Launch} {y : MethodName} {cc : ByteArray} {maxL : Nat} {rm : Room} {As : List Value} {H : Heap} {D : va_G} {dA : ClassId} {wc : va_W} {post : S → Prop} {WS : S → va_W} {mc ms : Nat} (hy : plainName y.cls = true) (hn : (lg_sl As).length ≤ maxL)
    (body : ∀ (p : Program) (e : Env) (s : State) (m : MethodId) (args : Array Value) (below : List Frame) (meth : Method) (c : Code) (A : Nat → Prop) (Q : State → Prop),
      p.tables.exec = Jvm.exec → c.code = cc → c.maxLocals = maxL → (∀ w ∈ lw_all, w.before args s = true) → s.vm.findClass y.cls = some m.cls → meth.name = y.name → va_K D vwCl [(dA, .int)] s → va_P D vwCl wc H → va_D A wc → va_S A H H [] → (∀ q, H.size ≤ q → A q) →
      (∀ (pc : Nat) (H1 : Heap) (locs : List Loc) (ls : Array Slot) (u : S), decode cc pc = .ok (.return_, 1) → post u → va_P D vwCl (WS u) H1 → va_D A (WS u) → va_S A H H1 locs → W p l e rm s m args below meth c H1 locs mc ms Q (F0 m pc ls [])) →
      ∀ ls : Array Slot, lv_has ls maxL (lv_args 0 As) → W p l e rm s m args below meth c H [] 0 0 Q (F0 m 0 ls [])) :
    Met l y (ws_ y cc maxL none) rm (zPc As H D dA wc) (zQv post WS D dA wc H.size) mc ms (va_A wc H.size) := by
  refine Met.ofW (cc := cc) (maxL := maxL) (ret := none) hy rfl ?_
  intro p e s m args below meth c s₁ B hml hv
  obtain ⟨rfl, hH, hP, hK, hD0⟩ := hv
  have hts0 := atoms_spec (ws := ws_ y cc maxL none) B.pre
  have hts : ∀ w ∈ lw_all, w.before _ s = true := fun w h => hts0 w (List.mem_cons_of_mem _ h)
  have hown : s.vm.findClass y.cls = some m.cls := findClass_of_methodNamed B.named
  have hnm : meth.name = y.name := (name_of_methodNamed B.named B.method).1
  subst hH
  have hl := lv_entry As (n := maxL) hn
  rw [lg_entry_eq]
  refine body p e s m _ below meth c (va_A wc s.heap.size) _ B.exec B.bytes hml hts hown hnm hK hP hD0.self va_S.rf (fun q h => Or.inr h) ?_ _ hl
  intro pc H1 locs ls u hdg hpost hP1 hD1 hS1
  exact W.vret B.exec B.bytes B.returns (fun t ht hW => ⟨⟨u, rfl, hpost, by rw [ht]; exact hP1, va_K.moved hW.alike hK, hD1⟩, hS1.F ht⟩) hS1.2.2 hdg B.notSynchronized
theorem zMet_p {l : Launch} {y : MethodName} {cc : ByteArray} {maxL : Nat} {ty : FieldType} {rm : Room} {As : List Value} {H : Heap} {D : va_G} {dA : ClassId} {wc : va_W} {post : Int32 → Prop} (hy : plainName y.cls = true) (hn : (lg_sl As).length ≤ maxL)
    (body : ∀ (p : Program) (e : Env) (s : State) (m : MethodId) (args : Array Value) (below : List Frame) (meth : Method) (c : Code) (Q : State → Prop),
      p.tables.exec = Jvm.exec → c.code = cc → c.maxLocals = maxL → (∀ w ∈ lw_all, w.before args s = true) → s.vm.findClass y.cls = some m.cls → va_K D vwCl [(dA, .int)] s → va_P D vwCl wc H → va_D (fun _ => True) wc → va_S (fun _ => False) H H [] →
      (∀ (pc : Nat) (locs : List Loc) (ls : Array Slot) (v : Int32), decode cc pc = .ok (.ireturn, 1) → narrow ty (.int v) = .int v → post v → va_S (fun _ => False) H H locs → W p l e rm s m args below meth c H locs 0 0 Q (F0 m pc ls [.int v])) →
      ∀ ls : Array Slot, lv_has ls maxL (lv_args 0 As) → W p l e rm s m args below meth c H [] 0 0 Q (F0 m 0 ls [])) :
    Met l y (ws_ y cc maxL (some ty)) rm (zPc As H D dA wc) (zQp post H) 0 0 (fun _ => False) := by
  refine Met.ofW (cc := cc) (maxL := maxL) (ret := some ty) hy rfl ?_
  intro p e s m args below meth c s₁ B hml hv
  obtain ⟨rfl, hH, hP, hK, hD0⟩ := hv
  have hts0 := atoms_spec (ws := ws_ y cc maxL (some ty)) B.pre
  have hts : ∀ w ∈ lw_all, w.before _ s = true := fun w h => hts0 w (List.mem_cons_of_mem _ h)
  have hown : s.vm.findClass y.cls = some m.cls := findClass_of_methodNamed B.named
  subst hH
  have hl := lv_entry As (n := maxL) hn
  rw [lg_entry_eq]
  refine body p e s m _ below meth c _ B.exec B.bytes hml hts hown hK hP hD0 va_S.rf ?_ _ hl
  intro pc locs ls v hdg hnar hpost hS1
  exact W.zret B.exec B.bytes B.returns hnar (fun t ht hW => ⟨⟨v, (), rfl, hpost, ht⟩, hS1.F ht⟩) hS1.2.2 hdg B.notSynchronized
/-! calls -/
section ZC
variable {p : Program} {l : Launch} {e : Env} {R : Room} {s : State} {m : MethodId} {args : Array Value} {below : List Frame} {meth : Method} {c : Code} {H : Heap} {locs : List Loc} {cells slots : Nat} {Q : State → Prop}
variable {cc : ByteArray} {pc : Nat} {ls : Array Slot} {rest st0 : List Value} {D : va_G} {dA : ClassId} {A : Nat → Prop} {ws wc wr : va_W} {H0 : Heap} {mc ms : Nat} {free : Addr → Prop} {A1 : Nat → Prop}
theorem zcallp {post : Int32 → Prop} {a : Array Value} (hr : va_Run p l e R s m args below meth c H locs cells slots 0 0 (F0 m pc ls st0) rest (zQp post H a) (fun _ => False)) (hS : va_S A H0 H locs)
    (kk : ∀ (r : Int32) (locs1 : List Loc), post r → va_S A H0 H locs1 → W p l e R s m args below meth c H locs1 cells slots Q (F0 m (pc + 3) ls (.int r :: rest))) : W p l e R s m args below meth c H locs cells slots Q (F0 m pc ls st0) := by
  refine va_calli hr hS (fun _ _ h => h.elim) (fun _ h => h.elim) (fun r u t H1 locs1 ht hvm hp hB hz hk hS1 => ?_)
  have e1 : H1 = H := ht.symm.trans hB
  subst e1
  exact kk r locs1 hp hS1
theorem zcallv {S : Type} {post : S → Prop} {WS : S → va_W} {a : Array Value} (hr : va_Run p l e R s m args below meth c H locs cells slots mc ms (F0 m pc ls st0) rest (zQv post WS D dA wc H.size a) (va_A wc H.size)) (hP : va_P D vwCl ws H) (hD : va_D A ws) (hS : va_S A H0 H locs) (hA : ∀ q, H0.size ≤ q → A q)
    (isC isR : List Nat) (hC : isC.map (fun i => ws[i]?) = wc.map some) (hR : isR.map (fun i => ws[i]?) = wr.map some) (hn : va_nd isR = true) (hdis : ∀ i ∈ isR, i ∉ isC)
    (kk : ∀ (u : S) (H1 : Heap) (locs1 : List Loc), post u → va_P D vwCl (wr ++ WS u) H1 → va_D A (wr ++ WS u) → va_S A H0 H1 locs1 → W p l e R s m args below meth c H1 locs1 (cells + mc) (slots + ms) Q (F0 m (pc + 3) ls rest)) : W p l e R s m args below meth c H locs cells slots Q (F0 m pc ls st0) := by
  have hF := va_free hD hS hA isC hC
  refine va_callv hr hS (fun q _ h => hF q h) hF (fun u t H1 locs1 ht hvm hw hB hz hk hS1 => ?_)
  obtain ⟨hP1, hK1, hD1⟩ := hB
  rw [ht] at hP1
  obtain ⟨hP2, hD2⟩ := va_join hP hD isC isR hC hR hn hdis hk hF hP1 hD1
  exact kk u H1 locs1 hw hP2 hD2 hS1
theorem z_sub {is : List Nat} (hP : va_P D vwCl ws H) (hC : is.map (fun i => ws[i]?) = wc.map some) : va_P D vwCl wc H := by
  intro k q hk
  have h1 : (is.map (fun i => ws[i]?))[k]? = some (some q) := by rw [hC, List.getElem?_map, hk]; rfl
  rw [List.getElem?_map] at h1
  cases hi : is[k]? with
  | none => rw [hi] at h1; cases h1
  | some i => rw [hi] at h1; exact hP i q (Option.some.inj h1)
variable {y : MethodName} {bytes : ByteArray} {maxL nL n index : Nat} {ret : Option FieldType} {rm : Room} {own : String} {As : List Value} {b : Nat}
/-- a static call that answers an int and leaves the heap -/
theorem zcallSp {post : Int32 → Prop} {ty : FieldType} (S : CallFix p m c cc nL s args lw_all own) (isC : List Nat) (hM : Met l y (ws_ y bytes maxL (some ty)) rm (zPc As H D dA wc) (zQp post H) 0 0 (fun _ => False)) (cw : CallB R s args own index y bytes maxL (some ty) (ws_ y bytes maxL (some ty)) rm 0 0 n ∧ (Cond.static y).before args s = true)
    (hK : va_K D vwCl [(dA, .int)] s) (hP : va_P D vwCl ws H) (hD : va_D A1 ws) (hS : va_S A H0 H locs) (hC : isC.map (fun i => ws[i]?) = wc.map some) (hn : va_nd isC = true)
    (hAs : As.length = n) (hst : st0 = As.reverse ++ rest) (hl : ls.size = nL) (hW : (rest.map fun v => v.category).sum ≤ 8) (hdg : decode cc pc = .ok (.invokestatic index, 3)) (hf : cells ≤ R.cells ∧ slots ≤ R.slots)
    (kk : ∀ (r : Int32) (locs1 : List Loc), post r → va_S A H0 H locs1 → W p l e R s m args below meth c H locs1 cells slots Q (F0 m (pc + 3) ls (.int r :: rest))) : W p l e R s m args below meth c H locs cells slots Q (F0 m pc ls st0) :=
  zcallp (va_runS (As := As) (rest := rest) S hM cw (z_preS (z_sub hP hC) hK (hD.sub isC hn hC)) rfl hAs hl hst (lv_room hW) hdg hf) hS kk
/-- a call through an object that answers an int and leaves the heap -/
theorem zcallVp {post : Int32 → Prop} {ty : FieldType} {q : vw_C} {ci : Nat} {fs : List Value} (S : CallFix p m c cc nL s args lw_all own) (isC : List Nat) (hM : Met l y (ws_ y bytes maxL (some ty)) rm (zPc (.ref b :: As) H D dA wc) (zQp post H) 0 0 (fun _ => False)) (cw : CallW R s args own q.1 index y bytes maxL (some ty) (ws_ y bytes maxL (some ty)) rm 0 0 n)
    (hK : va_K D vwCl [(dA, .int)] s) (hP : va_P D vwCl ws H) (hD : va_D A1 ws) (hS : va_S A H0 H locs) (hC : isC.map (fun i => ws[i]?) = wc.map some) (hn : va_nd isC = true) (hc : vwCl[ci]? = some q) (he : wc[0]? = some (b, .inr (ci, fs)))
    (hAs : As.length = n) (hst : st0 = As.reverse ++ .ref b :: rest) (hl : ls.size = nL) (hW : (rest.map fun v => v.category).sum ≤ 8) (hdg : decode cc pc = .ok (.invokevirtual index, 3)) (hf : cells ≤ R.cells ∧ slots ≤ R.slots)
    (kk : ∀ (r : Int32) (locs1 : List Loc), post r → va_S A H0 H locs1 → W p l e R s m args below meth c H locs1 cells slots Q (F0 m (pc + 3) ls (.int r :: rest))) : W p l e R s m args below meth c H locs cells slots Q (F0 m pc ls st0) :=
  zcallp (va_runV (As := As) (rest := rest) S hM cw (z_preV (z_sub hP hC) hK (hD.sub isC hn hC) hc he) rfl hAs hl hst (lv_room hW) hdg hf) hS kk
/-- a static call that changes a world -/
theorem zcallSv {S₁ : Type} {post : S₁ → Prop} {WS : S₁ → va_W} (S : CallFix p m c cc nL s args lw_all own) (isC isR : List Nat) (hM : Met l y (ws_ y bytes maxL none) rm (zPc As H D dA wc) (zQv post WS D dA wc H.size) mc ms (va_A wc H.size)) (cw : CallB R s args own index y bytes maxL none (ws_ y bytes maxL none) rm mc ms n ∧ (Cond.static y).before args s = true)
    (hK : va_K D vwCl [(dA, .int)] s) (hP : va_P D vwCl ws H) (hD : va_D A ws) (hS : va_S A H0 H locs) (hA : ∀ q, H0.size ≤ q → A q) (hC : isC.map (fun i => ws[i]?) = wc.map some) (hR : isR.map (fun i => ws[i]?) = wr.map some) (hn : va_nd isC = true) (hn2 : va_nd isR = true) (hdis : ∀ i ∈ isR, i ∉ isC)
    (hAs : As.length = n) (hst : st0 = As.reverse ++ rest) (hl : ls.size = nL) (hW : (rest.map fun v => v.category).sum ≤ 8) (hdg : decode cc pc = .ok (.invokestatic index, 3)) (hf : cells + mc ≤ R.cells ∧ slots + ms ≤ R.slots)
    (kk : ∀ (u : S₁) (H1 : Heap) (locs1 : List Loc), post u → va_P D vwCl (wr ++ WS u) H1 → va_D A (wr ++ WS u) → va_S A H0 H1 locs1 → W p l e R s m args below meth c H1 locs1 (cells + mc) (slots + ms) Q (F0 m (pc + 3) ls rest)) : W p l e R s m args below meth c H locs cells slots Q (F0 m pc ls st0) :=
  zcallv (va_runS (As := As) (rest := rest) S hM cw (z_preS (z_sub hP hC) hK (hD.sub isC hn hC)) rfl hAs hl hst (lv_room hW) hdg hf) hP hD hS hA isC isR hC hR hn2 hdis kk
/-- a call through an object that changes a world -/
theorem zcallVv {S₁ : Type} {post : S₁ → Prop} {WS : S₁ → va_W} {q : vw_C} {ci : Nat} {fs : List Value} (S : CallFix p m c cc nL s args lw_all own) (isC isR : List Nat) (hM : Met l y (ws_ y bytes maxL none) rm (zPc (.ref b :: As) H D dA wc) (zQv post WS D dA wc H.size) mc ms (va_A wc H.size)) (cw : CallW R s args own q.1 index y bytes maxL none (ws_ y bytes maxL none) rm mc ms n)
    (hK : va_K D vwCl [(dA, .int)] s) (hP : va_P D vwCl ws H) (hD : va_D A ws) (hS : va_S A H0 H locs) (hA : ∀ q, H0.size ≤ q → A q) (hC : isC.map (fun i => ws[i]?) = wc.map some) (hR : isR.map (fun i => ws[i]?) = wr.map some) (hn : va_nd isC = true) (hn2 : va_nd isR = true) (hdis : ∀ i ∈ isR, i ∉ isC) (hc : vwCl[ci]? = some q) (he : wc[0]? = some (b, .inr (ci, fs)))
    (hAs : As.length = n) (hst : st0 = As.reverse ++ .ref b :: rest) (hl : ls.size = nL) (hW : (rest.map fun v => v.category).sum ≤ 8) (hdg : decode cc pc = .ok (.invokevirtual index, 3)) (hf : cells + mc ≤ R.cells ∧ slots + ms ≤ R.slots)
    (kk : ∀ (u : S₁) (H1 : Heap) (locs1 : List Loc), post u → va_P D vwCl (wr ++ WS u) H1 → va_D A (wr ++ WS u) → va_S A H0 H1 locs1 → W p l e R s m args below meth c H1 locs1 (cells + mc) (slots + ms) Q (F0 m (pc + 3) ls rest)) : W p l e R s m args below meth c H locs cells slots Q (F0 m pc ls st0) :=
  zcallv (va_runV (As := As) (rest := rest) S hM cw (z_preV (z_sub hP hC) hK (hD.sub isC hn hC) hc he) rfl hAs hl hst (lv_room hW) hdg hf) hP hD hS hA isC isR hC hR hn2 hdis kk
/-- a constructor -/
theorem zcallIv {S₁ : Type} {post : S₁ → Prop} {WS : S₁ → va_W} (S : CallFix p m c cc nL s args lw_all own) (isC isR : List Nat) (hM : Met l y (ws_ y bytes maxL none) rm (zPc (.ref b :: As) H D dA wc) (zQv post WS D dA wc H.size) mc ms (va_A wc H.size)) (cw : CallB R s args own index y bytes maxL none (ws_ y bytes maxL none) rm mc ms n ∧ y.name = "<init>" ∧ (Cond.instanceMethod y).before args s = true)
    (hK : va_K D vwCl [(dA, .int)] s) (hP : va_P D vwCl ws H) (hD : va_D A ws) (hS : va_S A H0 H locs) (hA : ∀ q, H0.size ≤ q → A q) (hC : isC.map (fun i => ws[i]?) = wc.map some) (hR : isR.map (fun i => ws[i]?) = wr.map some) (hn : va_nd isC = true) (hn2 : va_nd isR = true) (hdis : ∀ i ∈ isR, i ∉ isC)
    (hAs : As.length = n) (hst : st0 = As.reverse ++ .ref b :: rest) (hl : ls.size = nL) (hW : (rest.map fun v => v.category).sum ≤ 8) (hdg : decode cc pc = .ok (.invokespecial index, 3)) (hf : cells + mc ≤ R.cells ∧ slots + ms ≤ R.slots)
    (kk : ∀ (u : S₁) (H1 : Heap) (locs1 : List Loc), post u → va_P D vwCl (wr ++ WS u) H1 → va_D A (wr ++ WS u) → va_S A H0 H1 locs1 → W p l e R s m args below meth c H1 locs1 (cells + mc) (slots + ms) Q (F0 m (pc + 3) ls rest)) : W p l e R s m args below meth c H locs cells slots Q (F0 m pc ls st0) :=
  zcallv (va_runI (As := As) (rest := rest) S hM cw (z_preS (z_sub hP hC) hK (hD.sub isC hn hC)) rfl hAs hl hst (lv_room hW) hdg hf) hP hD hS hA isC isR hC hR hn2 hdis kk
end ZC
/-- the contents of an array count below its length alone -/
theorem zcell_cong {cA : ClassId} {n : Nat} {f g : Nat → Int32} (h : ∀ j, j < n → f j = g j) : vp_cell cA (n, .inl f) = vp_cell cA (n, .inl g) := by
  rw [vp_cell_i, vp_cell_i]
  unfold arrV
  congr 2
  funext j
  show Value.int (f j.val) = Value.int (g j.val)
  rw [h j.val j.isLt]
theorem zP_cong {D : va_G} {cl : List vw_C} {ws : va_W} {H : Heap} {a n k : Nat} {cA : ClassId} {f g : Nat → Int32} (hP : va_P D cl ws H) (hk : ws[k]? = some (a, .inl (cA, n, .inl f))) (h : ∀ j, j < n → f j = g j) : va_P D cl (ws.set k (a, .inl (cA, n, .inl g))) H := by
  intro i q hi
  by_cases e : i = k
  · subst e
    rw [List.getElem?_set_self (List.getElem?_eq_some_iff.mp hk).1] at hi
    cases hi
    have h1 : H[a]? = some (vp_cell cA (n, .inl f)) := hP i _ hk
    show H[a]? = some (vp_cell cA (n, .inl g))
    rw [← zcell_cong h]
    exact h1
  · rw [List.getElem?_set_ne (Ne.symm e)] at hi
    exact hP i q hi
/-! worlds, answers of comparisons -/
abbrev z2 (dA : ClassId) (q1 q2 : Nat) (f g : Nat → Int32) : va_W := [(q1, .inl (dA, 48, .inl f)), (q2, .inl (dA, 48, .inl g))]
theorem zcmp_lt (x y : Int32) : zcmp x y < 0 ↔ x < y := by
  unfold zcmp
  by_cases h : x < y
  · rw [if_pos h]
    exact ⟨fun _ => h, fun _ => by decide +kernel⟩
  · rw [if_neg h]
    by_cases h2 : x = y
    · rw [if_pos h2]
      exact ⟨fun q => absurd q (by decide +kernel), fun q => absurd q h⟩
    · rw [if_neg h2]
      exact ⟨fun q => absurd q (by decide +kernel), fun q => absurd q h⟩
theorem zcmp_eq (x y : Int32) : zcmp x y = 0 ↔ x = y := by
  unfold zcmp
  by_cases h : x < y
  · rw [if_pos h]
    exact ⟨fun q => absurd q (by decide +kernel), fun q => absurd h (by rw [q]; exact Int32.lt_irrefl)⟩
  · rw [if_neg h]
    by_cases h2 : x = y
    · rw [if_pos h2]
      exact ⟨fun _ => h2, fun _ => by decide +kernel⟩
    · rw [if_neg h2]
      exact ⟨fun q => absurd q (by decide +kernel), fun q => absurd q h2⟩
theorem zcmp_gt (x y : Int32) : 0 < zcmp x y ↔ y < x := by
  unfold zcmp
  by_cases h : x < y
  · rw [if_pos h]
    exact ⟨fun q => absurd q (by decide +kernel), fun q => absurd h (Int32.lt_asymm q)⟩
  · rw [if_neg h]
    by_cases h2 : x = y
    · rw [if_pos h2]
      exact ⟨fun q => absurd q (by decide +kernel), fun q => absurd q (by rw [h2]; exact Int32.lt_irrefl)⟩
    · rw [if_neg h2]
      exact ⟨fun _ => by
        rcases Int32.lt_or_lt_of_ne h2 with w | w
        · exact absurd w h
        · exact w, fun _ => by decide +kernel⟩
end
section
/-! plain facts to paste, each family by itself; over the kit's nI, lN and upd -/
/-! ===== drawers: more things than places ===== -/
theorem fb_holes : ∀ (m n : Nat) (f : Nat → Nat), (∀ i, i < n → f i < m) → (∀ i j, i < j → j < n → f i ≠ f j) → n ≤ m := by
  intro m
  induction m with
  | zero =>
    intro n f h1 _
    rcases Nat.eq_zero_or_pos n with h | h
    · omega
    · exact absurd (h1 0 h) (Nat.not_lt_zero _)
  | succ m ih =>
    intro n f h1 h2
    by_cases hx : ∃ i, i < n ∧ f i = m
    · obtain ⟨a, ha, hfa⟩ := hx
      have hg := ih (n - 1) (fun i => if i < a then f i else f (i + 1)) (by
        intro i hi
        by_cases q : i < a
        · simp only [if_pos q]
          have b1 := h1 i (by omega)
          have b2 := h2 i a q ha
          omega
        · simp only [if_neg q]
          have b1 := h1 (i + 1) (by omega)
          have b2 := h2 a (i + 1) (by omega) (by omega)
          omega) (by
        intro i j hij hj
        by_cases q : i < a
        · by_cases r : j < a
          · simp only [if_pos q, if_pos r]
            exact h2 i j hij (by omega)
          · simp only [if_pos q, if_neg r]
            exact h2 i (j + 1) (by omega) (by omega)
        · have r : ¬ j < a := by omega
          simp only [if_neg q, if_neg r]
          exact h2 (i + 1) (j + 1) (by omega) (by omega))
      omega
    · have hg := ih n f (fun i hi => by
        have b1 := h1 i hi
        have b2 : f i ≠ m := fun e => hx ⟨i, hi, e⟩
        omega) h2
      omega
/-- two of them in one place -/
theorem fb_twice {m n : Nat} {f : Nat → Nat} (h : ∀ i, i < n → f i < m) (hm : m < n) : ∃ i j, i < j ∧ j < n ∧ f i = f j := by
  refine Classical.byContradiction fun hx => ?_
  have := fb_holes m n f h (fun i j hij hj e => hx ⟨i, j, hij, hj, e⟩)
  omega
/-- as many as places, none twice: each place is taken -/
theorem fb_onto {n : Nat} {f : Nat → Nat} (h : ∀ i, i < n → f i < n) (h2 : ∀ i j, i < j → j < n → f i ≠ f j) {y : Nat} (hy : y < n) : ∃ i, i < n ∧ f i = y := by
  refine Classical.byContradiction fun hx => ?_
  have hne : ∀ i, i < n → f i ≠ y := fun i hi e => hx ⟨i, hi, e⟩
  have := fb_holes (n - 1) n (fun i => if f i < y then f i else f i - 1) (by
    intro i hi
    have b1 := h i hi
    have b2 := hne i hi
    by_cases q : f i < y
    · simp only [if_pos q]; omega
    · simp only [if_neg q]; omega) (by
    intro i j hij hj
    have b1 := hne i (by omega)
    have b2 := hne j hj
    have b3 := h2 i j hij hj
    by_cases q : f i < y
    · by_cases r : f j < y
      · simp only [if_pos q, if_pos r]; exact b3
      · simp only [if_pos q, if_neg r]; omega
    · by_cases r : f j < y
      · simp only [if_neg q, if_pos r]; omega
      · simp only [if_neg q, if_neg r]; omega)
  omega
/-! ===== how many places have a property ===== -/
def fb_ct (p : Nat → Bool) : Nat → Nat
  | 0 => 0
  | n + 1 => fb_ct p n + (if p n then 1 else 0)
theorem fb_ct_succ (p : Nat → Bool) (n : Nat) : fb_ct p (n + 1) = fb_ct p n + (if p n then 1 else 0) := rfl
theorem fb_ct_le (p : Nat → Bool) : ∀ n, fb_ct p n ≤ n
  | 0 => Nat.le_refl _
  | n + 1 => by
    have h := fb_ct_le p n
    rw [fb_ct_succ]
    split <;> omega
theorem fb_ct_step (p : Nat → Bool) (m : Nat) : ∀ n, fb_ct p m ≤ fb_ct p (m + n)
  | 0 => Nat.le_refl _
  | n + 1 => by
    have h := fb_ct_step p m n
    show fb_ct p m ≤ fb_ct p (m + n + 1)
    rw [fb_ct_succ]
    omega
theorem fb_ct_mono (p : Nat → Bool) {m n : Nat} (h : m ≤ n) : fb_ct p m ≤ fb_ct p n := by
  have := fb_ct_step p m (n - m)
  rwa [Nat.add_sub_cancel' h] at this
theorem fb_ct_cong {p q : Nat → Bool} : ∀ {n : Nat}, (∀ k, k < n → p k = q k) → fb_ct p n = fb_ct q n
  | 0, _ => rfl
  | n + 1, h => by
    rw [fb_ct_succ, fb_ct_succ, fb_ct_cong (fun k hk => h k (by omega)), h n (by omega)]
/-- one place changed -/
theorem fb_ct_out (p : Nat → Bool) (b : Bool) {i n : Nat} (h : n ≤ i) : fb_ct (fun k => if k = i then b else p k) n = fb_ct p n :=
  fb_ct_cong fun k hk => if_neg (by omega)
theorem fb_ct_upd (p : Nat → Bool) (b : Bool) {i : Nat} : ∀ {n : Nat}, i < n → fb_ct (fun k => if k = i then b else p k) n + (if p i then 1 else 0) = fb_ct p n + (if b then 1 else 0)
  | 0, h => absurd h (Nat.not_lt_zero i)
  | n + 1, h => by
    rw [fb_ct_succ, fb_ct_succ]
    rcases Nat.lt_or_ge i n with q | q
    · have := fb_ct_upd p b q
      have e : (if n = i then b else p n) = p n := if_neg (by omega)
      rw [e]
      omega
    · have e : i = n := by omega
      subst e
      rw [fb_ct_out p b (Nat.le_refl _)]
      simp only [if_true]
      omega
theorem fb_ct_sub {p q : Nat → Bool} : ∀ {n : Nat}, (∀ k, k < n → p k = true → q k = true) → fb_ct p n ≤ fb_ct q n
  | 0, _ => Nat.le_refl _
  | n + 1, h => by
    have h1 := fb_ct_sub (n := n) (p := p) (q := q) (fun k hk => h k (by omega))
    have h2 := h n (by omega)
    rw [fb_ct_succ, fb_ct_succ]
    cases hp : p n <;> cases hq : q n <;> simp_all <;> omega
theorem fb_ct_or {p q : Nat → Bool} : ∀ {n : Nat}, (∀ k, k < n → ¬ (p k = true ∧ q k = true)) → fb_ct (fun k => p k || q k) n = fb_ct p n + fb_ct q n
  | 0, _ => rfl
  | n + 1, h => by
    have h1 := fb_ct_or (n := n) (p := p) (q := q) (fun k hk => h k (by omega))
    have h2 := h n (by omega)
    rw [fb_ct_succ, fb_ct_succ, fb_ct_succ, h1]
    cases hp : p n <;> cases hq : q n <;> simp_all <;> omega
theorem fb_ct_not (p : Nat → Bool) : ∀ n, fb_ct p n + fb_ct (fun k => !p k) n = n
  | 0 => rfl
  | n + 1 => by
    have h := fb_ct_not p n
    rw [fb_ct_succ, fb_ct_succ]
    cases p n <;> simp <;> omega
theorem fb_ct_split (p : Nat → Bool) (m : Nat) : ∀ n, fb_ct p (m + n) = fb_ct p m + fb_ct (fun k => p (m + k)) n
  | 0 => rfl
  | n + 1 => by
    have h := fb_ct_split p m n
    show fb_ct p (m + n + 1) = _
    rw [fb_ct_succ, fb_ct_succ, h, Nat.add_assoc]
theorem fb_ct_zero {p : Nat → Bool} : ∀ {n : Nat}, fb_ct p n = 0 ↔ ∀ k, k < n → p k = false
  | 0 => ⟨fun _ k hk => absurd hk (Nat.not_lt_zero k), fun _ => rfl⟩
  | n + 1 => by
    have h := fb_ct_zero (p := p) (n := n)
    rw [fb_ct_succ]
    constructor
    · intro e k hk
      have e1 : fb_ct p n = 0 := by omega
      rcases Nat.lt_or_ge k n with q | q
      · exact h.mp e1 k q
      · have ek : k = n := by omega
        subst ek
        cases hp : p k
        · rfl
        · simp [hp] at e
    · intro a
      rw [h.mpr (fun k hk => a k (by omega)), a n (by omega)]
      rfl
theorem fb_ct_pos {p : Nat → Bool} {n : Nat} : 0 < fb_ct p n ↔ ∃ k, k < n ∧ p k = true := by
  constructor
  · intro h
    refine Classical.byContradiction fun hx => ?_
    have := fb_ct_zero.mpr (fun k hk => by
      cases hp : p k
      · rfl
      · exact absurd ⟨k, hk, hp⟩ hx : ∀ k, k < n → p k = false)
    omega
  · rintro ⟨k, hk, hp⟩
    rcases Nat.eq_zero_or_pos (fb_ct p n) with e | e
    · have := fb_ct_zero.mp e k hk
      rw [this] at hp
      cases hp
    · exact e
theorem fb_ct_all {p : Nat → Bool} {n : Nat} : fb_ct p n = n ↔ ∀ k, k < n → p k = true := by
  have h := fb_ct_not p n
  constructor
  · intro e k hk
    have z : fb_ct (fun k => !p k) n = 0 := by omega
    have := fb_ct_zero.mp z k hk
    cases hp : p k
    · simp [hp] at this
    · rfl
  · intro a
    have z : fb_ct (fun k => !p k) n = 0 := fb_ct_zero.mpr (fun k hk => by simp [a k hk])
    omega
/-- the k-th place with the property -/
theorem fb_ct_kth {p : Nat → Bool} {k : Nat} : ∀ {n : Nat}, k < fb_ct p n → ∃ i, i < n ∧ p i = true ∧ fb_ct p i = k
  | 0, h => absurd h (Nat.not_lt_zero k)
  | n + 1, h => by
    rcases Nat.lt_or_ge k (fb_ct p n) with q | q
    · obtain ⟨i, h1, h2⟩ := fb_ct_kth q
      exact ⟨i, by omega, h2⟩
    · rw [fb_ct_succ] at h
      cases hp : p n
      · simp [hp] at h; omega
      · simp [hp] at h
        exact ⟨n, by omega, hp, by omega⟩
theorem fb_ct_kth_one {p : Nat → Bool} {i j : Nat} (hi : p i = true) (hj : p j = true) (e : fb_ct p i = fb_ct p j) : i = j := by
  have key : ∀ a b : Nat, a < b → p a = true → fb_ct p a < fb_ct p b := by
    intro a b hab ha
    have h := fb_ct_mono p (show a + 1 ≤ b from hab)
    rw [fb_ct_succ, ha] at h
    simp at h
    omega
  rcases Nat.lt_trichotomy i j with q | q | q
  · have := key i j q hi; omega
  · exact q
  · have := key j i q hj; omega
/-! ===== signed ints as whole numbers, within bounds ===== -/
theorem fb_rng (x : Int32) : -2147483648 ≤ x.toInt ∧ x.toInt < 2147483648 := by
  have h1 := Int32.le_toInt x
  have h2 := Int32.toInt_lt x
  omega
/-! ===== sequences of whole numbers: counts, order, rank ===== -/
def zk2 (x y : Int32) : Int := x.toInt * 4294967296 + y.toInt
def zkk (f g : Nat → Int32) (j : Nat) : Int := zk2 (f j) (g j)
theorem zk2_lt (x y x' y' : Int32) : zk2 x y < zk2 x' y' ↔ x < x' ∨ (x = x' ∧ y < y') := by
  have h1 := fb_rng y
  have h2 := fb_rng y'
  simp only [Int32.lt_iff_toInt_lt, ← Int32.toInt_inj]
  unfold zk2
  omega
theorem zk2_inj {x y x' y' : Int32} (h : zk2 x y = zk2 x' y') : x = x' ∧ y = y' := by
  have h1 := fb_rng y
  have h2 := fb_rng y'
  simp only [← Int32.toInt_inj]
  unfold zk2 at h
  omega
def zc (P : Int → Bool) (K : Nat → Int) (lo n : Nat) : Nat := fb_ct (fun j => P (K (lo + j))) n
theorem zc_split (P : Int → Bool) (K : Nat → Int) (lo m n : Nat) : zc P K lo (m + n) = zc P K lo m + zc P K (lo + m) n := by
  unfold zc
  rw [fb_ct_split]
  congr 1
  exact fb_ct_cong (fun k _ => by rw [Nat.add_assoc])
theorem zc_cong {P : Int → Bool} {K K' : Nat → Int} {lo n : Nat} (h : ∀ j, lo ≤ j → j < lo + n → K j = K' j) : zc P K lo n = zc P K' lo n := by
  unfold zc
  exact fb_ct_cong (fun k hk => by rw [h (lo + k) (by omega) (by omega)])
def zPm (K K' : Nat → Int) (lo hi : Nat) : Prop := (∀ j, j < lo ∨ hi ≤ j → K' j = K j) ∧ ∀ P, zc P K' lo (hi - lo) = zc P K lo (hi - lo)
theorem zPm_refl (K : Nat → Int) (lo hi : Nat) : zPm K K lo hi := ⟨fun _ _ => rfl, fun _ => rfl⟩
theorem zPm_trans {K K' K'' : Nat → Int} {lo hi : Nat} (h : zPm K K' lo hi) (h2 : zPm K' K'' lo hi) : zPm K K'' lo hi :=
  ⟨fun j hj => (h2.1 j hj).trans (h.1 j hj), fun P => (h2.2 P).trans (h.2 P)⟩
theorem zPm_sub {K K' : Nat → Int} {lo hi a b : Nat} (h : zPm K K' a b) (h1 : lo ≤ a) (h2 : a ≤ b) (h3 : b ≤ hi) : zPm K K' lo hi := by
  refine ⟨fun j hj => h.1 j (by omega), fun P => ?_⟩
  have e : hi - lo = (a - lo) + ((b - a) + (hi - b)) := by omega
  rw [e, zc_split, zc_split, zc_split, zc_split]
  have e1 : lo + (a - lo) = a := by omega
  rw [e1, h.2 P]
  rw [zc_cong (K := K') (K' := K) (lo := lo) (n := a - lo) (fun j _ hj => h.1 j (by omega)), zc_cong (K := K') (K' := K) (lo := a + (b - a)) (n := hi - b) (fun j hj _ => h.1 j (by omega))]
def zswK (K : Nat → Int) (a b : Nat) : Nat → Int := fun j => if j = b then K a else if j = a then K b else K j
theorem zswK_b (K : Nat → Int) (a b : Nat) : zswK K a b b = K a := if_pos rfl
theorem zswK_a (K : Nat → Int) (a b : Nat) : zswK K a b a = K b := by
  unfold zswK
  by_cases h : a = b
  · rw [if_pos h, h]
  · rw [if_neg h, if_pos rfl]
theorem zswK_o (K : Nat → Int) {a b j : Nat} (h1 : j ≠ a) (h2 : j ≠ b) : zswK K a b j = K j := by
  unfold zswK
  rw [if_neg h2, if_neg h1]
theorem zPm_sw (K : Nat → Int) {lo hi a b : Nat} (h1 : lo ≤ a) (h2 : a < hi) (h3 : lo ≤ b) (h4 : b < hi) : zPm K (zswK K a b) lo hi := by
  refine ⟨fun j hj => zswK_o K (by omega) (by omega), fun P => ?_⟩
  unfold zc
  have e : fb_ct (fun j => P (zswK K a b (lo + j))) (hi - lo) = fb_ct (fun k => if k = b - lo then P (K a) else (fun k => if k = a - lo then P (K b) else (fun j => P (K (lo + j))) k) k) (hi - lo) := by
    refine fb_ct_cong (fun k hk => ?_)
    show P (if lo + k = b then K a else if lo + k = a then K b else K (lo + k)) = if k = b - lo then P (K a) else if k = a - lo then P (K b) else P (K (lo + k))
    by_cases q1 : k = b - lo
    · have q2 : lo + k = b := by omega
      rw [if_pos q1, if_pos q2]
    · have q2 : ¬ lo + k = b := by omega
      rw [if_neg q1, if_neg q2]
      by_cases q3 : k = a - lo
      · have q4 : lo + k = a := by omega
        rw [if_pos q3, if_pos q4]
      · have q4 : ¬ lo + k = a := by omega
        rw [if_neg q3, if_neg q4]
  rw [e]
  have ea : lo + (a - lo) = a := by omega
  have eb : lo + (b - lo) = b := by omega
  have u1 := fb_ct_upd (fun k => if k = a - lo then P (K b) else (fun j => P (K (lo + j))) k) (P (K a)) (i := b - lo) (n := hi - lo) (by omega)
  have u2 := fb_ct_upd (fun j => P (K (lo + j))) (P (K b)) (i := a - lo) (n := hi - lo) (by omega)
  have e3 : (if b - lo = a - lo then P (K b) else P (K (lo + (b - lo)))) = P (K b) := by
    rw [eb]
    split <;> rfl
  have e4 : P (K (lo + (a - lo))) = P (K a) := by rw [ea]
  have u1 : fb_ct (fun k => if k = b - lo then P (K a) else (fun k => if k = a - lo then P (K b) else (fun j => P (K (lo + j))) k) k) (hi - lo) + (if (if b - lo = a - lo then P (K b) else P (K (lo + (b - lo)))) then 1 else 0) = fb_ct (fun k => if k = a - lo then P (K b) else (fun j => P (K (lo + j))) k) (hi - lo) + (if P (K a) then 1 else 0) := u1
  have u2 : fb_ct (fun k => if k = a - lo then P (K b) else (fun j => P (K (lo + j))) k) (hi - lo) + (if P (K (lo + (a - lo))) then 1 else 0) = fb_ct (fun j => P (K (lo + j))) (hi - lo) + (if P (K b) then 1 else 0) := u2
  rw [e3] at u1
  rw [e4] at u2
  omega
theorem zPm_all {K K' : Nat → Int} {lo hi : Nat} (h : zPm K K' lo hi) (P : Int → Bool) (ha : ∀ j, lo ≤ j → j < hi → P (K j) = true) : ∀ j, lo ≤ j → j < hi → P (K' j) = true := by
  intro j h1 h2
  have e := h.2 P
  have e1 : zc P K lo (hi - lo) = hi - lo := fb_ct_all.mpr (fun k hk => ha (lo + k) (by omega) (by omega))
  rw [e1] at e
  have e2 := fb_ct_all.mp e (j - lo) (by omega)
  rw [show lo + (j - lo) = j by omega] at e2
  exact e2
theorem zPm_ex {K K' : Nat → Int} {lo hi : Nat} (h : zPm K K' lo hi) (v : Int) (ha : ∃ j, lo ≤ j ∧ j < hi ∧ K j = v) : ∃ j, lo ≤ j ∧ j < hi ∧ K' j = v := by
  obtain ⟨j, h1, h2, h3⟩ := ha
  have e := h.2 (fun x => decide (x = v))
  have p1 : 0 < zc (fun x => decide (x = v)) K lo (hi - lo) := fb_ct_pos.mpr ⟨j - lo, by omega, by rw [show lo + (j - lo) = j by omega]; exact decide_eq_true h3⟩
  rw [← e] at p1
  obtain ⟨k, hk, hv⟩ := fb_ct_pos.mp p1
  exact ⟨lo + k, by omega, by omega, of_decide_eq_true hv⟩
def zSd (K : Nat → Int) (lo hi : Nat) : Prop := ∀ i j, lo ≤ i → i < j → j < hi → K i ≤ K j
def zSO (K K' : Nat → Int) (lo hi : Nat) : Prop := zPm K K' lo hi ∧ zSd K' lo hi
theorem zSO_short (K : Nat → Int) {lo hi : Nat} (h : hi ≤ lo + 1) : zSO K K lo hi := ⟨zPm_refl _ _ _, fun i j h1 h2 h3 => by omega⟩
theorem zSd_le {K : Nat → Int} {lo hi : Nat} (h : zSd K lo hi) {i j : Nat} (h1 : lo ≤ i) (h2 : i ≤ j) (h3 : j < hi) : K i ≤ K j := by
  rcases Nat.lt_or_ge i j with q | q
  · exact h i j h1 q h3
  · rw [show i = j by omega]
    exact Int.le_refl _
theorem zrank {K K' : Nat → Int} {lo hi r : Nat} {v : Int} (h : zSO K K' lo hi) (h1 : zc (fun x => decide (x < v)) K lo (hi - lo) ≤ r) (h2 : r < zc (fun x => decide (x ≤ v)) K lo (hi - lo)) : K' (lo + r) = v := by
  obtain ⟨hp, hs⟩ := h
  rw [← hp.2] at h1 h2
  have hr : r < hi - lo := Nat.lt_of_lt_of_le h2 (fb_ct_le _ _)
  rcases Int.lt_trichotomy (K' (lo + r)) v with q | q | q
  · exfalso
    have e1 : zc (fun x => decide (x < v)) K' lo (r + 1) = r + 1 := fb_ct_all.mpr (fun k hk => decide_eq_true (Int.lt_of_le_of_lt (zSd_le hs (i := lo + k) (j := lo + r) (by omega) (by omega) (by omega)) q))
    have e2 : zc (fun x => decide (x < v)) K' lo (r + 1) ≤ zc (fun x => decide (x < v)) K' lo (hi - lo) := fb_ct_mono _ (by omega)
    omega
  · exact q
  · exfalso
    have e1 : zc (fun x => decide (x ≤ v)) K' lo (r + (hi - lo - r)) = zc (fun x => decide (x ≤ v)) K' lo r + zc (fun x => decide (x ≤ v)) K' (lo + r) (hi - lo - r) := zc_split _ _ _ _ _
    have e2 : zc (fun x => decide (x ≤ v)) K' (lo + r) (hi - lo - r) = 0 := fb_ct_zero.mpr (fun k hk => decide_eq_false (Int.not_le.mpr (Int.lt_of_lt_of_le q (zSd_le hs (i := lo + r) (j := lo + r + k) (by omega) (by omega) (by omega)))))
    have e3 : zc (fun x => decide (x ≤ v)) K' lo r ≤ r := fb_ct_le _ _
    rw [show r + (hi - lo - r) = hi - lo by omega] at e1
    omega
/-- the key with its place: no two are the same -/
def zK6 (K : Nat → Int) (i : Nat) : Int := K i * 64 + i
theorem zK6_lt (K : Nat → Int) {i j : Nat} (hi : i < 64) (hj : j < 64) : zK6 K i < zK6 K j ↔ K i < K j ∨ (K i = K j ∧ i < j) := by
  unfold zK6
  omega
theorem zK6_inj (K : Nat → Int) {i j : Nat} (hi : i < 64) (hj : j < 64) (h : zK6 K i = zK6 K j) : i = j := by
  unfold zK6 at h
  omega
def zrk (K : Nat → Int) (lo hi i : Nat) : Nat := fb_ct (fun t => decide (zK6 K (lo + t) < zK6 K i)) (hi - lo)
def zat (K : Nat → Int) (lo hi i : Nat) : Nat := if lo ≤ i ∧ i < hi then lo + zrk K lo hi i else i
theorem zat_in (K : Nat → Int) {lo hi i : Nat} (h1 : lo ≤ i) (h2 : i < hi) : zat K lo hi i = lo + zrk K lo hi i := if_pos ⟨h1, h2⟩
theorem zat_out (K : Nat → Int) {lo hi i : Nat} (h : i < lo ∨ hi ≤ i) : zat K lo hi i = i := if_neg (by omega)
theorem zct_one {p q : Nat → Bool} {n i : Nat} (hi : i < n) (h0 : p i = false) (h1 : q i = true) (h : ∀ k, k < n → p k = true → q k = true) : fb_ct p n + 1 ≤ fb_ct q n := by
  have u := fb_ct_upd p true hi
  rw [h0] at u
  have u : fb_ct (fun k => if k = i then true else p k) n + 0 = fb_ct p n + 1 := u
  have w : fb_ct (fun k => if k = i then true else p k) n ≤ fb_ct q n := fb_ct_sub (fun k hk hp => by
    by_cases e : k = i
    · rw [e]; exact h1
    · simp only [e, if_false] at hp
      exact h k hk hp)
  omega
theorem zrk_lt (K : Nat → Int) {lo hi i : Nat} (h1 : lo ≤ i) (h2 : i < hi) : zrk K lo hi i < hi - lo := by
  have w := zct_one (p := fun t => decide (zK6 K (lo + t) < zK6 K i)) (q := fun _ => true) (n := hi - lo) (i := i - lo) (by omega) (by rw [show lo + (i - lo) = i by omega]; exact decide_eq_false (Int.lt_irrefl _)) rfl (fun _ _ _ => rfl)
  have w2 := fb_ct_le (fun _ => true) (hi - lo)
  unfold zrk
  omega
theorem zrk_mono (K : Nat → Int) {lo hi i j : Nat} (h1 : lo ≤ i) (h2 : i < hi) (h : zK6 K i < zK6 K j) : zrk K lo hi i < zrk K lo hi j := by
  have w := zct_one (p := fun t => decide (zK6 K (lo + t) < zK6 K i)) (q := fun t => decide (zK6 K (lo + t) < zK6 K j)) (n := hi - lo) (i := i - lo) (by omega) (by rw [show lo + (i - lo) = i by omega]; exact decide_eq_false (Int.lt_irrefl _)) (by rw [show lo + (i - lo) = i by omega]; exact decide_eq_true h) (fun k _ hk => decide_eq_true (Int.lt_trans (of_decide_eq_true hk) h))
  unfold zrk
  omega
theorem zat_lt (K : Nat → Int) {lo hi i N : Nat} (hN : hi ≤ N) (h : i < N) : zat K lo hi i < N := by
  by_cases q : lo ≤ i ∧ i < hi
  · rw [zat_in K q.1 q.2]
    have := zrk_lt K q.1 q.2
    omega
  · rw [zat_out K (by omega)]
    exact h
theorem zat_inj (K : Nat → Int) {lo hi i j : Nat} (h64 : hi ≤ 64) (hne : i ≠ j) : zat K lo hi i ≠ zat K lo hi j := by
  by_cases q : lo ≤ i ∧ i < hi <;> by_cases q2 : lo ≤ j ∧ j < hi
  · rw [zat_in K q.1 q.2, zat_in K q2.1 q2.2]
    have : zK6 K i ≠ zK6 K j := fun e => hne (zK6_inj K (by omega) (by omega) e)
    rcases Int.lt_or_gt_of_ne this with w | w
    · have := zrk_mono K q.1 q.2 w
      omega
    · have := zrk_mono K q2.1 q2.2 w
      omega
  · rw [zat_in K q.1 q.2, zat_out K (i := j) (by omega)]
    have := zrk_lt K q.1 q.2
    omega
  · rw [zat_in K q2.1 q2.2, zat_out K (i := i) (by omega)]
    have := zrk_lt K q2.1 q2.2
    omega
  · rw [zat_out K (i := i) (by omega), zat_out K (i := j) (by omega)]
    exact hne
theorem zat_onto (K : Nat → Int) {lo hi k N : Nat} (h64 : hi ≤ 64) (hN : hi ≤ N) (hk : k < N) : ∃ i, i < N ∧ zat K lo hi i = k :=
  fb_onto (fun i hi' => zat_lt K hN hi') (fun i j hij _ => zat_inj K h64 (by omega)) hk
/-- a sorted row holds each thing at its rank -/
theorem zSO_at {K K' : Nat → Int} {lo hi : Nat} (h : zSO K K' lo hi) (h64 : hi ≤ 64) (i : Nat) : K' (zat K lo hi i) = K i := by
  by_cases q : lo ≤ i ∧ i < hi
  · rw [zat_in K q.1 q.2]
    refine zrank h ?_ ?_
    · refine fb_ct_sub (fun k hk hp => ?_)
      refine decide_eq_true ((zK6_lt K (by omega) (by omega)).mpr (Or.inl (of_decide_eq_true hp)))
    · have w := zct_one (p := fun t => decide (zK6 K (lo + t) < zK6 K i)) (q := fun t => decide (K (lo + t) ≤ K i)) (n := hi - lo) (i := i - lo) (by omega) (by rw [show lo + (i - lo) = i by omega]; exact decide_eq_false (Int.lt_irrefl _)) (by rw [show lo + (i - lo) = i by omega]; exact decide_eq_true (Int.le_refl _)) (fun k hk hp => by
        have := (zK6_lt K (by omega) (by omega)).mp (of_decide_eq_true hp)
        exact decide_eq_true (by omega))
      exact w
  · rw [zat_out K (by omega)]
    exact h.1.1 i (by omega)
/-- a row of places sorted by the key with its place holds each place at its rank -/
theorem zSO_ix {K : Nat → Int} {pn : Nat → Nat} {lo hi : Nat} (h : zSO (zK6 K) (fun x => zK6 K (pn x)) lo hi) (h64 : hi ≤ 64) (hpn : ∀ x, lo ≤ x → x < hi → pn x < 64) {i : Nat} (h1 : lo ≤ i) (h2 : i < hi) : pn (zat K lo hi i) = i := by
  have hr := zrk_lt K h1 h2
  have e : (fun x => zK6 K (pn x)) (lo + zrk K lo hi i) = zK6 K i := by
    refine zrank h (Nat.le_refl _) ?_
    have w := zct_one (p := fun t => decide (zK6 K (lo + t) < zK6 K i)) (q := fun t => decide (zK6 K (lo + t) ≤ zK6 K i)) (n := hi - lo) (i := i - lo) (by omega) (by rw [show lo + (i - lo) = i by omega]; exact decide_eq_false (Int.lt_irrefl _)) (by rw [show lo + (i - lo) = i by omega]; exact decide_eq_true (Int.le_refl _)) (fun k hk hp => decide_eq_true (Int.le_of_lt (of_decide_eq_true hp)))
    exact w
  rw [zat_in K h1 h2]
  exact zK6_inj K (hpn _ (by omega) (by omega)) (by omega) e
/-! ===== two swapped places of arrays ===== -/
def zsw (f : Nat → Int32) (a b : Nat) : Nat → Int32 := upd (upd f a (f b)) b (f a)
def zsN (f : Nat → Int32) (a b : Nat) : Nat → (Nat → Int32)
  | 0 => f
  | n + 1 => zsN (zsw f a b) (a + 1) (b + 1) n
def zvK (K : Nat → Int) (a b : Nat) : Nat → (Nat → Int)
  | 0 => K
  | n + 1 => zvK (zswK K a b) (a + 1) (b + 1) n
theorem zkk_sw (f g : Nat → Int32) (a b : Nat) : zkk (zsw f a b) (zsw g a b) = zswK (zkk f g) a b := by
  funext j
  unfold zkk zsw zswK upd
  by_cases h1 : j = b
  · simp only [h1, if_true]
  · by_cases h2 : j = a
    · subst h2
      simp only [h1, if_true, if_false]
    · simp only [h1, h2, if_false]
theorem zkk_vs : ∀ (n : Nat) (f g : Nat → Int32) (a b : Nat), zkk (zsN f a b n) (zsN g a b n) = zvK (zkk f g) a b n
  | 0, _, _, _, _ => rfl
  | n + 1, f, g, a, b => by
    show zkk (zsN (zsw f a b) (a + 1) (b + 1) n) (zsN (zsw g a b) (a + 1) (b + 1) n) = zvK (zswK (zkk f g) a b) (a + 1) (b + 1) n
    rw [zkk_vs n, zkk_sw]
theorem zPm_v : ∀ (n : Nat) (K : Nat → Int) (a b : Nat) {lo hi : Nat}, lo ≤ a → a + n ≤ hi → lo ≤ b → b + n ≤ hi → zPm K (zvK K a b n) lo hi
  | 0, K, a, b, lo, hi, _, _, _, _ => zPm_refl _ _ _
  | n + 1, K, a, b, lo, hi, h1, h2, h3, h4 => zPm_trans (zPm_sw K h1 (by omega) h3 (by omega)) (zPm_v n (zswK K a b) (a + 1) (b + 1) (by omega) (by omega) (by omega) (by omega))
theorem zvK_o : ∀ (n : Nat) (K : Nat → Int) (a b : Nat) {j : Nat}, (j < a ∨ a + n ≤ j) → (j < b ∨ b + n ≤ j) → zvK K a b n j = K j
  | 0, _, _, _, _, _, _ => rfl
  | n + 1, K, a, b, j, h1, h2 => by
    show zvK (zswK K a b) (a + 1) (b + 1) n j = K j
    rw [zvK_o n (zswK K a b) (a + 1) (b + 1) (by omega) (by omega)]
    exact zswK_o K (by omega) (by omega)
theorem zvK_a : ∀ (n : Nat) (K : Nat → Int) (a b t : Nat), a + n ≤ b → t < n → zvK K a b n (a + t) = K (b + t)
  | 0, _, _, _, _, _, h => absurd h (Nat.not_lt_zero _)
  | n + 1, K, a, b, t, h1, h2 => by
    show zvK (zswK K a b) (a + 1) (b + 1) n (a + t) = K (b + t)
    cases t with
    | zero =>
      rw [zvK_o n (zswK K a b) (a + 1) (b + 1) (by omega) (by omega)]
      exact zswK_a K a b
    | succ t =>
      rw [show a + (t + 1) = a + 1 + t by omega, zvK_a n (zswK K a b) (a + 1) (b + 1) t (by omega) (by omega), zswK_o K (by omega) (by omega)]
      exact congrArg K (by omega)
theorem zvK_b : ∀ (n : Nat) (K : Nat → Int) (a b t : Nat), a + n ≤ b → t < n → zvK K a b n (b + t) = K (a + t)
  | 0, _, _, _, _, _, h => absurd h (Nat.not_lt_zero _)
  | n + 1, K, a, b, t, h1, h2 => by
    show zvK (zswK K a b) (a + 1) (b + 1) n (b + t) = K (a + t)
    cases t with
    | zero =>
      rw [zvK_o n (zswK K a b) (a + 1) (b + 1) (by omega) (by omega)]
      exact zswK_b K a b
    | succ t =>
      rw [show b + (t + 1) = b + 1 + t by omega, zvK_b n (zswK K a b) (a + 1) (b + 1) t (by omega) (by omega), zswK_o K (by omega) (by omega)]
      exact congrArg K (by omega)
/-! ===== selection ===== -/
def zSel (K : Nat → Int) (lo hi i : Nat) : Prop := ∀ x y, lo ≤ x → x < i → x < y → y < hi → K x ≤ K y
theorem zSel_0 (K : Nat → Int) (lo hi : Nat) : zSel K lo hi lo := fun x y h1 h2 _ _ => by omega
theorem zSel_end {K : Nat → Int} {lo hi i : Nat} (h : zSel K lo hi i) (hi2 : hi ≤ i + 1) : zSd K lo hi := fun x y h1 h2 h3 => h x y h1 (by omega) h2 h3
theorem zSel_same {K : Nat → Int} {lo hi i : Nat} (h : zSel K lo hi i) (hm : ∀ x, i ≤ x → x < hi → K i ≤ K x) : zSel K lo hi (i + 1) := by
  intro x y h1 h2 h3 h4
  by_cases e : x = i
  · subst e
    exact hm y (by omega) h4
  · exact h x y h1 (by omega) h3 h4
theorem zSel_sw {K : Nat → Int} {lo hi i m : Nat} (h : zSel K lo hi i) (hi1 : i < m) (hi2 : m < hi) (hm : ∀ x, i ≤ x → x < hi → K m ≤ K x) : zSel (zswK K i m) lo hi (i + 1) := by
  intro x y h1 h2 h3 h4
  by_cases ex : x = i
  · subst ex
    rw [zswK_a]
    by_cases ey : y = m
    · rw [ey, zswK_b]
      exact hm x (by omega) (by omega)
    · rw [zswK_o K (by omega) ey]
      exact hm y (by omega) h4
  · rw [zswK_o K ex (by omega)]
    by_cases ey : y = m
    · rw [ey, zswK_b]
      exact h x i h1 (by omega) (by omega) (by omega)
    · by_cases ey2 : y = i
      · rw [ey2, zswK_a]
        exact h x m h1 (by omega) (by omega) hi2
      · rw [zswK_o K ey2 ey]
        exact h x y h1 (by omega) h3 h4
/-! ===== partition in four: equal, less, greater, equal (c and d are one past) ===== -/
def zPt (K : Nat → Int) (V : Int) (lo hi a b c d : Nat) : Prop := (lo ≤ a ∧ a ≤ b ∧ b ≤ c ∧ c ≤ d ∧ d ≤ hi) ∧ (∀ x, lo ≤ x → x < a → K x = V) ∧ (∀ x, a ≤ x → x < b → K x < V) ∧ (∀ x, c ≤ x → x < d → V < K x) ∧ (∀ x, d ≤ x → x < hi → K x = V)
theorem zPt_0 (K : Nat → Int) (V : Int) {lo hi : Nat} (h : lo ≤ hi) : zPt K V lo hi lo lo hi hi := ⟨by omega, fun x h1 h2 => by omega, fun x h1 h2 => by omega, fun x h1 h2 => by omega, fun x h1 h2 => by omega⟩
theorem zPt_lt {K : Nat → Int} {V : Int} {lo hi a b c d : Nat} (h : zPt K V lo hi a b c d) (hbc : b < c) (hb : K b < V) : zPt K V lo hi a (b + 1) c d := by
  obtain ⟨h0, h1, h2, h3, h4⟩ := h
  refine ⟨by omega, h1, fun x q1 q2 => ?_, h3, h4⟩
  by_cases e : x = b
  · rw [e]; exact hb
  · exact h2 x q1 (by omega)
theorem zPt_gt {K : Nat → Int} {V : Int} {lo hi a b c d : Nat} (h : zPt K V lo hi a b (c + 1) d) (hbc : b ≤ c) (hb : V < K c) : zPt K V lo hi a b c d := by
  obtain ⟨h0, h1, h2, h3, h4⟩ := h
  refine ⟨by omega, h1, h2, fun x q1 q2 => ?_, h4⟩
  by_cases e : x = c
  · rw [e]; exact hb
  · exact h3 x (by omega) q2
theorem zPt_eqL {K : Nat → Int} {V : Int} {lo hi a b c d : Nat} (h : zPt K V lo hi a b c d) (hbc : b < c) (hb : K b = V) : zPt (zswK K a b) V lo hi (a + 1) (b + 1) c d := by
  obtain ⟨h0, h1, h2, h3, h4⟩ := h
  refine ⟨by omega, fun x q1 q2 => ?_, fun x q1 q2 => ?_, fun x q1 q2 => ?_, fun x q1 q2 => ?_⟩
  · by_cases e : x = a
    · rw [e, zswK_a]; exact hb
    · rw [zswK_o K e (by omega)]; exact h1 x q1 (by omega)
  · by_cases e : x = b
    · rw [e, zswK_b]; exact h2 a (by omega) (by omega)
    · rw [zswK_o K (by omega) e]; exact h2 x (by omega) (by omega)
  · rw [zswK_o K (by omega) (by omega)]; exact h3 x q1 q2
  · rw [zswK_o K (by omega) (by omega)]; exact h4 x q1 q2
theorem zPt_eqR {K : Nat → Int} {V : Int} {lo hi a b c d : Nat} (h : zPt K V lo hi a b (c + 1) (d + 1)) (hbc : b ≤ c) (hb : K c = V) : zPt (zswK K c d) V lo hi a b c d := by
  obtain ⟨h0, h1, h2, h3, h4⟩ := h
  refine ⟨by omega, fun x q1 q2 => ?_, fun x q1 q2 => ?_, fun x q1 q2 => ?_, fun x q1 q2 => ?_⟩
  · rw [zswK_o K (by omega) (by omega)]; exact h1 x q1 q2
  · rw [zswK_o K (by omega) (by omega)]; exact h2 x q1 q2
  · by_cases e : x = c
    · rw [e, zswK_a]; exact h3 d (by omega) (by omega)
    · rw [zswK_o K e (by omega)]; exact h3 x (by omega) (by omega)
  · by_cases e : x = d
    · rw [e, zswK_b]; exact hb
    · rw [zswK_o K (by omega) e]; exact h4 x (by omega) q2
theorem zPt_sw {K : Nat → Int} {V : Int} {lo hi a b c d : Nat} (h : zPt K V lo hi a b (c + 1) d) (hbc : b < c) (hb : V < K b) (hc : K c < V) : zPt (zswK K b c) V lo hi a (b + 1) c d := by
  obtain ⟨h0, h1, h2, h3, h4⟩ := h
  refine ⟨by omega, fun x q1 q2 => ?_, fun x q1 q2 => ?_, fun x q1 q2 => ?_, fun x q1 q2 => ?_⟩
  · rw [zswK_o K (by omega) (by omega)]; exact h1 x q1 q2
  · by_cases e : x = b
    · rw [e, zswK_a]; exact hc
    · rw [zswK_o K e (by omega)]; exact h2 x q1 (by omega)
  · by_cases e : x = c
    · rw [e, zswK_b]; exact hb
    · rw [zswK_o K (by omega) e]; exact h3 x (by omega) q2
  · rw [zswK_o K (by omega) (by omega)]; exact h4 x q1 q2
/-- the pivot is somewhere: one at least of the outer parts isn't empty -/
theorem zPt_short {K0 K : Nat → Int} {V : Int} {lo hi a b d : Nat} (h : zPt K V lo hi a b b d) (hp : zPm K0 K lo hi) (hv : ∃ j, lo ≤ j ∧ j < hi ∧ K0 j = V) : (b - a) + (d - b) < hi - lo := by
  obtain ⟨h0, h1, h2, h3, h4⟩ := h
  obtain ⟨j, q1, q2, q3⟩ := zPm_ex hp V hv
  have e1 : ¬ (a ≤ j ∧ j < b) := fun q => by
    have := h2 j q.1 q.2
    omega
  have e2 : ¬ (b ≤ j ∧ j < d) := fun q => by
    have := h3 j q.1 q.2
    omega
  omega
/-- three parts: less, equal, greater -/
def zP3 (K : Nat → Int) (V : Int) (lo hi x1 x2 : Nat) : Prop := (lo ≤ x1 ∧ x1 ≤ x2 ∧ x2 ≤ hi) ∧ (∀ x, lo ≤ x → x < x1 → K x < V) ∧ (∀ x, x1 ≤ x → x < x2 → K x = V) ∧ (∀ x, x2 ≤ x → x < hi → V < K x)
theorem zPt_three {K : Nat → Int} {V : Int} {lo hi a b d s t : Nat} (h : zPt K V lo hi a b b d) (hs : s = min (a - lo) (b - a)) (ht : t = min (d - b) (hi - d)) : zP3 (zvK (zvK K lo (b - s) s) b (hi - t) t) V lo hi (lo + (b - a)) (hi - (d - b)) := by
  obtain ⟨h0, h1, h2, h3, h4⟩ := h
  have hs1 : s ≤ a - lo := by omega
  have hs2 : s ≤ b - a := by omega
  have hs3 : s = a - lo ∨ s = b - a := by omega
  have ht1 : t ≤ d - b := by omega
  have ht2 : t ≤ hi - d := by omega
  have ht3 : t = d - b ∨ t = hi - d := by omega
  clear hs ht
  have L1 : ∀ x, lo ≤ x → x < lo + (b - a) → zvK K lo (b - s) s x < V := by
    intro x q1 q2
    by_cases c1 : x < lo + s
    · obtain ⟨k, rfl⟩ : ∃ k, x = lo + k := ⟨x - lo, by omega⟩
      rw [zvK_a s K lo (b - s) k (by omega) (by omega)]
      exact h2 _ (by omega) (by omega)
    · by_cases c2 : b - s ≤ x
      · omega
      · rw [zvK_o s K lo (b - s) (by omega) (by omega)]
        exact h2 x (by omega) (by omega)
  have L2 : ∀ x, lo + (b - a) ≤ x → x < b → zvK K lo (b - s) s x = V := by
    intro x q1 q2
    by_cases c1 : b - s ≤ x
    · obtain ⟨k, rfl⟩ : ∃ k, x = (b - s) + k := ⟨x - (b - s), by omega⟩
      rw [zvK_b s K lo (b - s) k (by omega) (by omega)]
      exact h1 _ (by omega) (by omega)
    · by_cases c2 : x < lo + s
      · omega
      · rw [zvK_o s K lo (b - s) (by omega) (by omega)]
        exact h1 x (by omega) (by omega)
  have L3 : ∀ x, b ≤ x → zvK K lo (b - s) s x = K x := fun x q => zvK_o s K lo (b - s) (by omega) (by omega)
  generalize zvK K lo (b - s) s = K1 at L1 L2 L3 ⊢
  refine ⟨by omega, fun x q1 q2 => ?_, fun x q1 q2 => ?_, fun x q1 q2 => ?_⟩
  · rw [zvK_o t K1 b (hi - t) (by omega) (by omega)]
    exact L1 x q1 q2
  · by_cases c0 : x < b
    · rw [zvK_o t K1 b (hi - t) (by omega) (by omega)]
      exact L2 x q1 c0
    · by_cases c1 : x < b + t
      · obtain ⟨k, rfl⟩ : ∃ k, x = b + k := ⟨x - b, by omega⟩
        rw [zvK_a t K1 b (hi - t) k (by omega) (by omega), L3 _ (by omega)]
        exact h4 _ (by omega) (by omega)
      · by_cases c2 : hi - t ≤ x
        · omega
        · rw [zvK_o t K1 b (hi - t) (by omega) (by omega), L3 _ (by omega)]
          exact h4 x (by omega) (by omega)
  · by_cases c1 : hi - t ≤ x
    · obtain ⟨k, rfl⟩ : ∃ k, x = (hi - t) + k := ⟨x - (hi - t), by omega⟩
      rw [zvK_b t K1 b (hi - t) k (by omega) (by omega), L3 _ (by omega)]
      exact h3 _ (by omega) (by omega)
    · by_cases c2 : x < b + t
      · omega
      · rw [zvK_o t K1 b (hi - t) (by omega) (by omega), L3 _ (by omega)]
        exact h3 x (by omega) (by omega)
theorem zPt_perm {K : Nat → Int} {V : Int} {lo hi a b d s t : Nat} (h : zPt K V lo hi a b b d) (hs : s = min (a - lo) (b - a)) (ht : t = min (d - b) (hi - d)) : zPm K (zvK (zvK K lo (b - s) s) b (hi - t) t) lo hi := by
  obtain ⟨h0, -⟩ := h
  exact zPm_trans (zPm_v s K lo (b - s) (by omega) (by omega) (by omega) (by omega)) (zPm_v t _ b (hi - t) (by omega) (by omega) (by omega) (by omega))
theorem zJoin {K0 K2 K3 K4 : Nat → Int} {V : Int} {lo hi x1 x2 : Nat} (hp : zPm K0 K2 lo hi) (h : zP3 K2 V lo hi x1 x2) (s1 : zSO K2 K3 lo x1) (s2 : zSO K3 K4 x2 hi) : zSO K0 K4 lo hi := by
  obtain ⟨h0, h1, h2, h3⟩ := h
  refine ⟨zPm_trans hp (zPm_trans (zPm_sub s1.1 (by omega) (by omega) (by omega)) (zPm_sub s2.1 (by omega) (by omega) (by omega))), ?_⟩
  have e1 : ∀ x, lo ≤ x → x < x1 → K4 x < V := fun x q1 q2 => by
    rw [s2.1.1 x (by omega)]
    exact of_decide_eq_true (zPm_all s1.1 (fun z => decide (z < V)) (fun j a1 a2 => decide_eq_true (h1 j a1 a2)) x q1 q2)
  have e2 : ∀ x, x1 ≤ x → x < x2 → K4 x = V := fun x q1 q2 => by
    rw [s2.1.1 x (by omega), s1.1.1 x (by omega)]
    exact h2 x q1 q2
  have e3 : ∀ x, x2 ≤ x → x < hi → V < K4 x := fun x q1 q2 =>
    of_decide_eq_true (zPm_all s2.1 (fun z => decide (V < z)) (fun j a1 a2 => decide_eq_true (by rw [s1.1.1 j (by omega)]; exact h3 j a1 a2)) x q1 q2)
  intro i j q1 q2 q3
  by_cases c1 : j < x1
  · rw [s2.1.1 i (by omega), s2.1.1 j (by omega)]
    exact s1.2 i j q1 q2 c1
  · by_cases c2 : x2 ≤ i
    · exact s2.2 i j c2 q2 q3
    · by_cases c3 : i < x1
      · have a1 := e1 i q1 c3
        by_cases c4 : j < x2
        · have a2 := e2 j (by omega) c4
          omega
        · have a2 := e3 j (by omega) q3
          omega
      · have a1 := e2 i (by omega) (by omega)
        by_cases c4 : j < x2
        · have a2 := e2 j (by omega) c4
          omega
        · have a2 := e3 j (by omega) q3
          omega
/-! ===== insertion of places ===== -/
def zuN (q : Nat → Nat) (j t : Nat) : Nat → Nat := fun x => if x = j then t else q x
theorem zuN_s (q : Nat → Nat) (j t : Nat) : zuN q j t j = t := if_pos rfl
theorem zuN_o (q : Nat → Nat) {j t x : Nat} (h : x ≠ j) : zuN q j t x = q x := if_neg h
/-- places lo .. i-1 are sorted, the rest is as at the start -/
def zOut (K : Nat → Int) (lo hi i : Nat) (p : Nat → Int32) (pn : Nat → Nat) : Prop := (∀ x, lo ≤ x → x < hi → p x = zI (pn x : Int)) ∧ (∀ x, lo ≤ x → x < i → x < hi → lo ≤ pn x ∧ pn x < i ∧ pn x < hi) ∧ (∀ x, i ≤ x ∨ x < lo ∨ hi ≤ x → pn x = x) ∧ zPm (zK6 K) (fun x => zK6 K (pn x)) lo hi ∧ (∀ x y, lo ≤ x → x < y → y < i → y < hi → zK6 K (pn x) ≤ zK6 K (pn y))
/-- place i's thing goes down, the hole is at j -/
def zIns (K : Nat → Int) (lo hi i j : Nat) (p : Nat → Int32) (pn : Nat → Nat) : Prop := (lo ≤ j ∧ j ≤ i ∧ i < hi) ∧ (∀ x, lo ≤ x → x < hi → p x = zI (pn x : Int)) ∧ (∀ x, lo ≤ x → x ≤ i → x ≠ j → lo ≤ pn x ∧ pn x < i) ∧ (∀ x, i < x ∨ x < lo ∨ hi ≤ x → pn x = x) ∧ zPm (zK6 K) (fun x => zK6 K (zuN pn j i x)) lo hi ∧ (∀ x y, lo ≤ x → x < y → y ≤ i → y ≠ j → zK6 K (zuN pn j i x) ≤ zK6 K (zuN pn j i y))
theorem zOut_0 (K : Nat → Int) {lo hi : Nat} {p : Nat → Int32} (h : ∀ x, lo ≤ x → x < hi → p x = zI (x : Int)) : zOut K lo hi (lo + 1) p (fun x => x) :=
  ⟨h, fun x h1 h2 h3 => ⟨h1, h2, h3⟩, fun x _ => rfl, zPm_refl _ _ _, fun x y h1 h2 h3 h4 => by omega⟩
theorem zIns_0 {K : Nat → Int} {lo hi i : Nat} {p : Nat → Int32} {pn : Nat → Nat} (h : zOut K lo hi i p pn) (h1 : lo < i) (h2 : i < hi) : zIns K lo hi i i p pn ∧ pn i = i := by
  obtain ⟨a1, a2, a3, a4, a5⟩ := h
  have e : pn i = i := a3 i (by omega)
  have e2 : zuN pn i i = pn := by
    funext x
    by_cases q : x = i
    · rw [q, zuN_s, e]
    · exact zuN_o pn q
  refine ⟨⟨by omega, a1, fun x q1 q2 q3 => ⟨(a2 x q1 (by omega) (by omega)).1, (a2 x q1 (by omega) (by omega)).2.1⟩, fun x q => a3 x (by omega), by rw [e2]; exact a4, ?_⟩, e⟩
  intro x y q1 q2 q3 q4
  rw [e2]
  exact a5 x y q1 q2 (by omega) (by omega)
theorem zIns_shift {K : Nat → Int} {lo hi i j : Nat} {p : Nat → Int32} {pn : Nat → Nat} (h : zIns K lo hi i (j + 1) p pn) (hj : lo ≤ j) (h64 : hi ≤ 64) (hlt : K i < K (pn j)) : zIns K lo hi i j (upd p (j + 1) (p j)) (zuN pn (j + 1) (pn j)) := by
  obtain ⟨a0, a1, a2, a3, a4, a5⟩ := h
  have hpj := a2 j hj (by omega) (by omega)
  have key : zuN (zuN pn (j + 1) (pn j)) j i = fun x => if x = j + 1 then pn j else zuN pn (j + 1) i (if x = j then j + 1 else x) := by
    funext x
    unfold zuN
    by_cases q : x = j + 1
    · subst q
      simp
    · by_cases q2 : x = j
      · subst q2
        simp
      · simp [q, q2]
  have S : (fun x => zK6 K (zuN (zuN pn (j + 1) (pn j)) j i x)) = zswK (fun x => zK6 K (zuN pn (j + 1) i x)) j (j + 1) := by
    funext x
    rw [key]
    unfold zswK zuN
    by_cases q : x = j + 1
    · subst q
      simp
    · by_cases q2 : x = j
      · subst q2
        simp
      · simp [q, q2]
  refine ⟨by omega, fun x q1 q2 => ?_, fun x q1 q2 q3 => ?_, fun x q => ?_, ?_, ?_⟩
  · unfold upd zuN
    by_cases e : x = j + 1
    · rw [if_pos e, if_pos e]
      exact a1 j hj (by omega)
    · rw [if_neg e, if_neg e]
      exact a1 x q1 q2
  · by_cases e : x = j + 1
    · rw [e, zuN_s]
      exact hpj
    · rw [zuN_o pn e]
      exact a2 x q1 q2 e
  · rw [zuN_o pn (by omega)]
    exact a3 x q
  · rw [S]
    exact zPm_trans a4 (zPm_sw _ hj (by omega) (by omega) (by omega))
  · intro x y q1 q2 q3 q4
    have T : ∀ z, zK6 K (zuN (zuN pn (j + 1) (pn j)) j i z) = zswK (fun x => zK6 K (zuN pn (j + 1) i x)) j (j + 1) z := fun z => congrFun S z
    rw [T x, T y]
    have ej : zK6 K (zuN pn (j + 1) i (j + 1)) = zK6 K i := by rw [zuN_s]
    have ek : zK6 K (zuN pn (j + 1) i j) = zK6 K (pn j) := by rw [zuN_o pn (by omega)]
    by_cases ey : y = j + 1
    · rw [ey, zswK_b]
      by_cases ex : x = j
      · rw [ex, zswK_a]
        show zK6 K (zuN pn (j + 1) i (j + 1)) ≤ zK6 K (zuN pn (j + 1) i j)
        rw [ej, ek]
        exact Int.le_of_lt ((zK6_lt K (by omega) (by omega)).mpr (Or.inl hlt))
      · rw [zswK_o _ ex (by omega)]
        exact a5 x j q1 (by omega) (by omega) (by omega)
    · rw [zswK_o _ (j := y) q4 ey]
      by_cases ex : x = j
      · rw [ex, zswK_a]
        exact a5 (j + 1) y (by omega) (by omega) q3 ey
      · by_cases ex2 : x = j + 1
        · rw [ex2, zswK_b]
          exact a5 j y hj (by omega) q3 ey
        · rw [zswK_o _ ex ex2]
          exact a5 x y q1 q2 q3 ey
theorem zIns_end {K : Nat → Int} {lo hi i j : Nat} {p : Nat → Int32} {pn : Nat → Nat} (h : zIns K lo hi i j p pn) (h64 : hi ≤ 64) (hstop : j = lo ∨ (lo < j ∧ ¬ K i < K (pn (j - 1)))) : zOut K lo hi (i + 1) (upd p j (zI (i : Int))) (zuN pn j i) := by
  obtain ⟨a0, a1, a2, a3, a4, a5⟩ := h
  refine ⟨fun x q1 q2 => ?_, fun x q1 q2 q3 => ?_, fun x q => ?_, a4, ?_⟩
  · unfold upd zuN
    by_cases e : x = j
    · rw [if_pos e, if_pos e]
    · rw [if_neg e, if_neg e]
      exact a1 x q1 q2
  · by_cases e : x = j
    · rw [e, zuN_s]
      omega
    · rw [zuN_o pn e]
      have := a2 x q1 (by omega) e
      omega
  · rw [zuN_o pn (by omega)]
    exact a3 x (by omega)
  · intro x y q1 q2 q3 q4
    by_cases ey : y = j
    · rcases hstop with e | ⟨e, hk⟩
      · omega
      · subst ey
        have hpj := a2 (y - 1) (by omega) (by omega) (by omega)
        have b1 : zK6 K (pn (y - 1)) ≤ zK6 K i := by
          refine Int.le_of_lt ((zK6_lt K (by omega) (by omega)).mpr ?_)
          omega
        have b2 : zK6 K (zuN pn y i x) ≤ zK6 K (zuN pn y i (y - 1)) := by
          by_cases ex : x = y - 1
          · rw [ex]
            exact Int.le_refl _
          · exact a5 x (y - 1) q1 (by omega) (by omega) (by omega)
        rw [zuN_o pn (x := y - 1) (by omega)] at b2
        rw [zuN_s]
        exact Int.le_trans b2 b1
    · exact a5 x y q1 q2 (by omega) ey
theorem zOut_end {K : Nat → Int} {lo hi i : Nat} {p : Nat → Int32} {pn : Nat → Nat} (h : zOut K lo hi i p pn) (hi1 : hi ≤ i) (h64 : hi ≤ 64) {x : Nat} (h1 : lo ≤ x) (h2 : x < hi) : p (zat K lo hi x) = zI (x : Int) := by
  obtain ⟨a1, a2, a3, a4, a5⟩ := h
  have hr := zrk_lt K h1 h2
  have e : pn (zat K lo hi x) = x := zSO_ix ⟨a4, fun x y q1 q2 q3 => a5 x y q1 q2 (by omega) q3⟩ h64 (fun x q1 q2 => by have := a2 x q1 (by omega) q2; omega) h1 h2
  have e2 : p (zat K lo hi x) = zI ((pn (zat K lo hi x) : Nat) : Int) := a1 _ (by rw [zat_in K h1 h2]; omega) (by rw [zat_in K h1 h2]; omega)
  rw [e2, e]
/-! ===== comparisons of pairs ===== -/
theorem zk_lt1 {f g : Nat → Int32} {i j : Nat} (h : f i < f j) : zkk f g i < zkk f g j := (zk2_lt _ _ _ _).mpr (Or.inl h)
theorem zk_lt2 {f g : Nat → Int32} {i j : Nat} (h : f i = f j) (h2 : g i < g j) : zkk f g i < zkk f g j := (zk2_lt _ _ _ _).mpr (Or.inr ⟨h, h2⟩)
theorem zk_nlt {f g : Nat → Int32} {i j : Nat} (h : ¬ f i < f j) (h2 : f i = f j → ¬ g i < g j) : ¬ zkk f g i < zkk f g j := fun q => by
  rcases (zk2_lt _ _ _ _).mp q with w | w
  · exact h w
  · exact h2 w.1 w.2
theorem zcmp_n {x y v w : Int32} (h : ¬ zcmp x v = 0) : (zcmp x v < 0 ↔ zk2 x y < zk2 v w) ∧ (zcmp x v = 0 ↔ zk2 x y = zk2 v w) ∧ (0 < zcmp x v ↔ zk2 v w < zk2 x y) := by
  have h1 : ¬ x = v := fun q => h ((zcmp_eq x v).mpr q)
  refine ⟨?_, ?_, ?_⟩
  · rw [zcmp_lt, zk2_lt]
    exact ⟨fun q => Or.inl q, fun q => q.elim (fun a => a) (fun a => absurd a.1 h1)⟩
  · exact ⟨fun q => absurd q h, fun q => absurd (zk2_inj q).1 h1⟩
  · rw [zcmp_gt, zk2_lt]
    exact ⟨fun q => Or.inl q, fun q => q.elim (fun a => a) (fun a => absurd a.1.symm h1)⟩
theorem zcmp_e {x y v w : Int32} (h : zcmp x v = 0) : (zcmp y w < 0 ↔ zk2 x y < zk2 v w) ∧ (zcmp y w = 0 ↔ zk2 x y = zk2 v w) ∧ (0 < zcmp y w ↔ zk2 v w < zk2 x y) := by
  have h1 : x = v := (zcmp_eq x v).mp h
  subst h1
  refine ⟨?_, ?_, ?_⟩
  · rw [zcmp_lt, zk2_lt]
    exact ⟨fun q => Or.inr ⟨rfl, q⟩, fun q => q.elim (fun a => absurd a Int32.lt_irrefl) (fun a => a.2)⟩
  · rw [zcmp_eq]
    exact ⟨fun q => by rw [q], fun q => (zk2_inj q).2⟩
  · rw [zcmp_gt, zk2_lt]
    exact ⟨fun q => Or.inr ⟨rfl, q⟩, fun q => q.elim (fun a => absurd a Int32.lt_irrefl) (fun a => a.2)⟩
/-- the least so far -/
theorem zmin_keep {K : Nat → Int} {i j mm : Nat} (h : ∀ x, i ≤ x → x < j → K mm ≤ K x) (hk : ¬ K j < K mm) : ∀ x, i ≤ x → x < j + 1 → K mm ≤ K x := by
  intro x h1 h2
  by_cases e : x = j
  · subst e
    omega
  · exact h x h1 (by omega)
theorem zmin_take {K : Nat → Int} {i j mm : Nat} (h : ∀ x, i ≤ x → x < j → K mm ≤ K x) (hk : K j < K mm) : ∀ x, i ≤ x → x < j + 1 → K j ≤ K x := by
  intro x h1 h2
  by_cases e : x = j
  · subst e
    exact Int.le_refl _
  · have := h x h1 (by omega)
    omega
end
section
set_option maxHeartbeats 4000000 in
set_option maxRecDepth 100000 in
/-- Integer.compare -/
theorem met_compare (l : Launch) (dC : Nat → ClassId) (dI : Nat → Nat → Nat) (dA : ClassId) (H0 : Heap) (x y : Int32) : Met l yJ0_compare (ws_ yJ0_compare cJ0_compare 2 (some .int)) (zr 0 0 0 0) (zPc [.int x, .int y] H0 (dC, dI) dA []) (zQp (fun r => r = zcmp x y) H0) 0 0 (fun _ => False) := by
  refine zMet_p (cc := cJ0_compare) (maxL := 2) (ty := .int) (by decide) (Nat.le_of_ble_eq_true rfl) ?_
  intro p e s m args below meth c Q hx hb hml hts hown hK hP hD hS hend ls hl
  have hl : lv_has ls 2 [(0, .int (x)), (1, .int (y))] := hl
  refine lv_iload_n hx hb dJ0_compare_0 rfl (lv_at hl 0 rfl) ?_
  refine lv_iload_n hx hb dJ0_compare_1 rfl (lv_at hl 1 rfl) ?_
  refine lv_icmp_ge (tgt := 9) hx hb dJ0_compare_2 (by decide) (fun c1 => ?_) (fun c1 => ?_)
  · skip
    refine lv_iload_n hx hb dJ0_compare_9 rfl (lv_at hl 0 rfl) ?_
    refine lv_iload_n hx hb dJ0_compare_10 rfl (lv_at hl 1 rfl) ?_
    refine lv_icmp_ne (tgt := 18) hx hb dJ0_compare_11 (by decide) (fun c2 => ?_) (fun c2 => ?_)
    · skip
      refine lv_iconst (v := zI (1)) hx hb dJ0_compare_18 rfl ?_
      exact hend _ _ ls _ dJ0_compare_19 rfl (by unfold zcmp; rw [if_neg (by have q := c1; rw [← Int32.not_lt] at q; exact q), if_neg c2]) hS
    · skip
      refine lv_iconst (v := zI (0)) hx hb dJ0_compare_14 rfl ?_
      refine lv_goto (tgt := 19) hx hb dJ0_compare_15 (by decide) ?_
      exact hend _ _ ls _ dJ0_compare_19 rfl (by unfold zcmp; rw [if_neg (by have q := c1; rw [← Int32.not_lt] at q; exact q), if_pos c2]) hS
  · skip
    refine lv_iconst (v := zI (-1)) hx hb dJ0_compare_5 rfl ?_
    refine lv_goto (tgt := 19) hx hb dJ0_compare_6 (by decide) ?_
    exact hend _ _ ls _ dJ0_compare_19 rfl (by unfold zcmp; rw [if_pos (by have q := c1; rw [Int32.not_le] at q; exact q)]) hS
/-- Math.min, called in quickSort -/
theorem kz_mmin {p : Program} {l : Launch} {e : Env} {R : Room} {s : State} {m : MethodId} {args : Array Value} {below : List Frame} {meth : Method} {c : Code} {H : Heap} {locs : List Loc} {cells slots : Nat} {Q : State → Prop} {pc : Nat} {ls : Array Slot} {rest : List Value} {x y : Int} (a b : Nat) (hx : p.tables.exec = Jvm.exec) (hb : c.code = cX2_quickSort) (hml : c.maxLocals = ls.size) (hown : s.vm.findClass RX2 = some m.cls) (hts : ∀ w ∈ lw_all, w.before args s = true) (hframes : 1 ≤ R.frames) (hlocals : (rest.map fun v => v.category).sum + 13 ≤ R.locals) (hc : cells ≤ R.cells) (hs : slots ≤ R.slots) (hdg : decode cX2_quickSort pc = .ok (.invokestatic 20, 3)) (ea : x = (a : Int)) (eb : y = (b : Int)) (ha : a < 2147483648) (hb31 : b < 2147483648)
    (kk : W p l e R s m args below meth c H locs cells slots Q (F0 m (pc + 3) ls (.int (zI ((min a b : Nat) : Int)) :: rest))) : W p l e R s m args below meth c H locs cells slots Q (F0 m pc ls (.int (zI y) :: .int (zI x) :: rest)) := by
  refine va_mmin hx hb hml hown (hts _ q84) (hts _ q85) (hts _ q9) (hts _ q86) hframes hlocals hc hs hdg ?_
  have e1 : (if zI y < zI x then zI y else zI x) = zI ((min a b : Nat) : Int) := by
    by_cases h : zI y < zI x
    · rw [if_pos h]
      rw [zI_lt (by omega)] at h
      exact zI_c (by omega)
    · rw [if_neg h]
      rw [zI_lt (by omega)] at h
      exact zI_c (by omega)
  rw [e1]
  exact kk
set_option maxHeartbeats 4000000 in
set_option maxRecDepth 100000 in
/-- swap of two places -/
theorem met_swap (l : Launch) (dC : Nat → ClassId) (dI : Nat → Nat → Nat) (dA : ClassId) (H0 : Heap) (q1 q2 : Nat) (f g : Nat → Int32) (xa xb : Nat) (ha48 : xa < 48) (hb48 : xb < 48) : Met l yX2_swap (ws_ yX2_swap cX2_swap 6 none) (zr 0 0 0 0) (zPc [.ref q1, .ref q2, .int (zI (xa : Int)), .int (zI (xb : Int))] H0 (dC, dI) dA (z2 dA q1 q2 f g)) (zQv (fun _ : Unit => True) (fun _ => z2 dA q1 q2 (zsw f xa xb) (zsw g xa xb)) (dC, dI) dA (z2 dA q1 q2 f g) H0.size) 0 0 (va_A (z2 dA q1 q2 f g) H0.size) := by
  refine zMet_v (cc := cX2_swap) (maxL := 6) (by decide) (Nat.le_of_ble_eq_true rfl) ?_
  intro p e s m args below meth c A Q hx hb hml hts hown hnm hK hP hD hS hA hend ls hl
  have hl : lv_has ls 6 [(0, .ref q1), (1, .ref q2), (2, .int (zI ((xa : Int)))), (3, .int (zI ((xb : Int))))] := hl
  have hown : s.vm.findClass RX2 = some m.cls := hown
  have hP : va_P (dC, dI) vwCl [(q1, .inl (dA, 48, .inl (f))), (q2, .inl (dA, 48, .inl (g)))] H0 := hP
  have hD : va_D A [(q1, .inl (dA, 48, .inl (f))), (q2, .inl (dA, 48, .inl (g)))] := hD
  refine lv_aload_n hx hb dX2_swap_0 rfl (lv_at hl 0 rfl) ?_
  refine lv_iload_n hx hb dX2_swap_1 rfl (lv_at hl 2 rfl) ?_
  refine kz_iald (k := xa) hx hb hK hP 0 0 rfl rfl (by omega) (by omega) (by omega) dX2_swap_2 ?_
  refine lv_istore (lv' := [(4, .int (f xa)), (0, .ref q1), (1, .ref q2), (2, .int (zI ((xa : Int)))), (3, .int (zI ((xb : Int))))]) hx hb dX2_swap_3 hl (by decide) rfl (fun ls hl => ?_)
  refine lv_aload_n hx hb dX2_swap_5 rfl (lv_at hl 2 rfl) ?_
  refine lv_iload_n hx hb dX2_swap_6 rfl (lv_at hl 3 rfl) ?_
  refine kz_iald (k := xa) hx hb hK hP 1 0 rfl rfl (by omega) (by omega) (by omega) dX2_swap_7 ?_
  refine lv_istore (lv' := [(5, .int (g xa)), (4, .int (f xa)), (0, .ref q1), (1, .ref q2), (2, .int (zI ((xa : Int)))), (3, .int (zI ((xb : Int))))]) hx hb dX2_swap_8 hl (by decide) rfl (fun ls hl => ?_)
  refine lv_aload_n hx hb dX2_swap_10 rfl (lv_at hl 2 rfl) ?_
  refine lv_iload_n hx hb dX2_swap_11 rfl (lv_at hl 4 rfl) ?_
  refine lv_aload_n hx hb dX2_swap_12 rfl (lv_at hl 2 rfl) ?_
  refine lv_iload_n hx hb dX2_swap_13 rfl (lv_at hl 5 rfl) ?_
  refine kz_iald (k := xb) hx hb hK hP 0 0 rfl rfl (by omega) (by omega) (by omega) dX2_swap_14 ?_
  refine kz_iast (k := xa) hx hb hK hP hD hS 0 0 rfl rfl (by omega) (by omega) (by omega) dX2_swap_15 (fun H locs hP hD hS => ?_)
  have hP : va_P (dC, dI) vwCl [(q1, .inl (dA, 48, .inl (upd f xa ((f xb))))), (q2, .inl (dA, 48, .inl (g)))] H := hP
  have hD : va_D A [(q1, .inl (dA, 48, .inl (upd f xa ((f xb))))), (q2, .inl (dA, 48, .inl (g)))] := hD
  refine lv_aload_n hx hb dX2_swap_16 rfl (lv_at hl 3 rfl) ?_
  refine lv_iload_n hx hb dX2_swap_17 rfl (lv_at hl 4 rfl) ?_
  refine lv_aload_n hx hb dX2_swap_18 rfl (lv_at hl 3 rfl) ?_
  refine lv_iload_n hx hb dX2_swap_19 rfl (lv_at hl 5 rfl) ?_
  refine kz_iald (k := xb) hx hb hK hP 1 0 rfl rfl (by omega) (by omega) (by omega) dX2_swap_20 ?_
  refine kz_iast (k := xa) hx hb hK hP hD hS 1 0 rfl rfl (by omega) (by omega) (by omega) dX2_swap_21 (fun H locs hP hD hS => ?_)
  have hP : va_P (dC, dI) vwCl [(q1, .inl (dA, 48, .inl (upd f xa ((f xb))))), (q2, .inl (dA, 48, .inl (upd g xa ((g xb)))))] H := hP
  have hD : va_D A [(q1, .inl (dA, 48, .inl (upd f xa ((f xb))))), (q2, .inl (dA, 48, .inl (upd g xa ((g xb)))))] := hD
  refine lv_aload_n hx hb dX2_swap_22 rfl (lv_at hl 2 rfl) ?_
  refine lv_iload_n hx hb dX2_swap_23 rfl (lv_at hl 5 rfl) ?_
  refine lv_iload hx hb dX2_swap_24 (lv_at hl 1 rfl) ?_
  refine kz_iast (k := xb) hx hb hK hP hD hS 0 0 rfl rfl (by omega) (by omega) (by omega) dX2_swap_26 (fun H locs hP hD hS => ?_)
  have hP : va_P (dC, dI) vwCl [(q1, .inl (dA, 48, .inl (upd (upd f xa ((f xb))) xb ((f xa))))), (q2, .inl (dA, 48, .inl (upd g xa ((g xb)))))] H := hP
  have hD : va_D A [(q1, .inl (dA, 48, .inl (upd (upd f xa ((f xb))) xb ((f xa))))), (q2, .inl (dA, 48, .inl (upd g xa ((g xb)))))] := hD
  refine lv_aload_n hx hb dX2_swap_27 rfl (lv_at hl 3 rfl) ?_
  refine lv_iload_n hx hb dX2_swap_28 rfl (lv_at hl 5 rfl) ?_
  refine lv_iload hx hb dX2_swap_29 (lv_at hl 0 rfl) ?_
  refine kz_iast (k := xb) hx hb hK hP hD hS 1 0 rfl rfl (by omega) (by omega) (by omega) dX2_swap_31 (fun H locs hP hD hS => ?_)
  have hP : va_P (dC, dI) vwCl [(q1, .inl (dA, 48, .inl (upd (upd f xa ((f xb))) xb ((f xa))))), (q2, .inl (dA, 48, .inl (upd (upd g xa ((g xb))) xb ((g xa)))))] H := hP
  have hD : va_D A [(q1, .inl (dA, 48, .inl (upd (upd f xa ((f xb))) xb ((f xa))))), (q2, .inl (dA, 48, .inl (upd (upd g xa ((g xb))) xb ((g xa)))))] := hD
  exact hend _ _ _ _ () dX2_swap_32 trivial hP hD hS
set_option maxHeartbeats 4000000 in
set_option maxRecDepth 100000 in
/-- swaps of xn places -/
theorem met_swapN (l : Launch) (dC : Nat → ClassId) (dI : Nat → Nat → Nat) (dA : ClassId) (H0 : Heap) (q1 q2 : Nat) (f g : Nat → Int32) (xa xb xn : Nat) (ha48 : xa + xn ≤ 48) (hb48 : xb + xn ≤ 48) : Met l yX2_swap_2 (ws_ yX2_swap_2 cX2_swap_2 6 none) (zr 1 0 0 25) (zPc [.ref q1, .ref q2, .int (zI (xa : Int)), .int (zI (xb : Int)), .int (zI (xn : Int))] H0 (dC, dI) dA (z2 dA q1 q2 f g)) (zQv (fun _ : Unit => True) (fun _ => z2 dA q1 q2 (zsN f xa xb xn) (zsN g xa xb xn)) (dC, dI) dA (z2 dA q1 q2 f g) H0.size) 0 0 (va_A (z2 dA q1 q2 f g) H0.size) := by
  refine zMet_v (cc := cX2_swap_2) (maxL := 6) (by decide) (Nat.le_of_ble_eq_true rfl) ?_
  intro p e s m args below meth c A Q hx hb hml hts hown hnm hK hP hD hS hA hend ls hl
  have hl : lv_has ls 6 [(0, .ref q1), (1, .ref q2), (2, .int (zI ((xa : Int)))), (3, .int (zI ((xb : Int)))), (4, .int (zI ((xn : Int))))] := hl
  have hown : s.vm.findClass RX2 = some m.cls := hown
  have hP : va_P (dC, dI) vwCl [(q1, .inl (dA, 48, .inl (f))), (q2, .inl (dA, 48, .inl (g)))] H0 := hP
  have hD : va_D A [(q1, .inl (dA, 48, .inl (f))), (q2, .inl (dA, 48, .inl (g)))] := hD
  have loop : ∀ (k i ya yb : Nat) (f1 g1 : Nat → Int32) (H : Heap) (locs : List Loc) (ls : Array Slot), i + k = xn → ya + k ≤ 48 → yb + k ≤ 48 → zsN f1 ya yb k = zsN f xa xb xn → zsN g1 ya yb k = zsN g xa xb xn → va_P (dC, dI) vwCl [(q1, .inl (dA, 48, .inl (f1))), (q2, .inl (dA, 48, .inl (g1)))] H → va_D A [(q1, .inl (dA, 48, .inl (f1))), (q2, .inl (dA, 48, .inl (g1)))] → va_S A H0 H locs → lv_has ls 6 [(0, .ref q1), (1, .ref q2), (2, .int (zI ((ya : Int)))), (3, .int (zI ((yb : Int)))), (4, .int (zI ((xn : Int)))), (5, .int (zI ((i : Int))))] → W p l e (zr 1 0 0 25) s m args below meth c H locs 0 0 Q (F0 m 3 ls []) := by
    intro k
    induction k with
    | zero =>
      intro i ya yb f1 g1 H locs ls h1 h2 h3 e1 e2 hP hD hS hl
      have e1 : f1 = zsN f xa xb xn := e1
      have e2 : g1 = zsN g xa xb xn := e2
      subst e1
      subst e2
      refine lv_iload hx hb dX2_swap_2_3 (lv_at hl 5 rfl) ?_
      refine lv_iload hx hb dX2_swap_2_5 (lv_at hl 4 rfl) ?_
      refine kz_icmp_ge (tgt := 29) hx hb dX2_swap_2_7 (by decide) (by omega) (fun c1 => ?_) (fun c1 => ?_)
      · skip
        exact hend _ _ _ _ () dX2_swap_2_29 trivial hP hD hS
      · skip
        omega
    | succ k ih =>
      intro i ya yb f1 g1 H locs ls h1 h2 h3 e1 e2 hP hD hS hl
      refine lv_iload hx hb dX2_swap_2_3 (lv_at hl 5 rfl) ?_
      refine lv_iload hx hb dX2_swap_2_5 (lv_at hl 4 rfl) ?_
      refine kz_icmp_ge (tgt := 29) hx hb dX2_swap_2_7 (by decide) (by omega) (fun c1 => ?_) (fun c1 => ?_)
      · skip
        omega
      · skip
        refine lv_aload_n hx hb dX2_swap_2_10 rfl (lv_at hl 0 rfl) ?_
        refine lv_aload_n hx hb dX2_swap_2_11 rfl (lv_at hl 1 rfl) ?_
        refine lv_iload_n hx hb dX2_swap_2_12 rfl (lv_at hl 2 rfl) ?_
        refine lv_iload_n hx hb dX2_swap_2_13 rfl (lv_at hl 3 rfl) ?_
        refine zcallSv (As := [.ref q1, .ref q2, .int (zI ((ya : Int))), .int (zI ((yb : Int)))]) (rest := []) (wr := []) ⟨hx, hb, hml, hown, hts⟩ [0, 1] [] (met_swap l dC dI dA H q1 q2 f1 g1 ya yb (by omega) (by omega)) (va_cwS 4 hts (lw_S q81 q82 q7 q83) rfl rfl rfl (by decide +kernel) ⟨Nat.le_of_ble_eq_true rfl, Nat.le_of_ble_eq_true rfl⟩) hK hP hD hS hA rfl rfl (by decide) (by decide) (by decide) rfl rfl hl.1 (Nat.le_of_ble_eq_true rfl) dX2_swap_2_14 ⟨Nat.le_of_ble_eq_true rfl, Nat.le_of_ble_eq_true rfl⟩ (fun u H locs hw hP hD hS => ?_)
        have hP : va_P (dC, dI) vwCl [(q1, .inl (dA, 48, .inl (zsw f1 ya yb))), (q2, .inl (dA, 48, .inl (zsw g1 ya yb)))] H := hP
        have hD : va_D A [(q1, .inl (dA, 48, .inl (zsw f1 ya yb))), (q2, .inl (dA, 48, .inl (zsw g1 ya yb)))] := hD
        refine kz_iinc (E := ((i + 1 : Nat) : Int)) (lv' := [(5, .int (zI (((i + 1 : Nat) : Int)))), (0, .ref q1), (1, .ref q2), (2, .int (zI ((ya : Int)))), (3, .int (zI ((yb : Int)))), (4, .int (zI ((xn : Int))))]) hx hb dX2_swap_2_17 hl (k := 5) rfl (by omega) (by decide) rfl (fun ls hl => ?_)
        refine kz_iinc (E := ((ya + 1 : Nat) : Int)) (lv' := [(2, .int (zI (((ya + 1 : Nat) : Int)))), (5, .int (zI (((i + 1 : Nat) : Int)))), (0, .ref q1), (1, .ref q2), (3, .int (zI ((yb : Int)))), (4, .int (zI ((xn : Int))))]) hx hb dX2_swap_2_20 hl (k := 3) rfl (by omega) (by decide) rfl (fun ls hl => ?_)
        refine kz_iinc (E := ((yb + 1 : Nat) : Int)) (lv' := [(3, .int (zI (((yb + 1 : Nat) : Int)))), (2, .int (zI (((ya + 1 : Nat) : Int)))), (5, .int (zI (((i + 1 : Nat) : Int)))), (0, .ref q1), (1, .ref q2), (4, .int (zI ((xn : Int))))]) hx hb dX2_swap_2_23 hl (k := 4) rfl (by omega) (by decide) rfl (fun ls hl => ?_)
        refine lv_goto (tgt := 3) hx hb dX2_swap_2_26 (by decide) ?_
        exact ih (i + 1) (ya + 1) (yb + 1) _ _ H locs ls (by omega) (by omega) (by omega) e1 e2 hP hD hS (lv_sub hl [3, 4, 1, 0, 5, 2] rfl)
  refine lv_iconst (v := zI (0)) hx hb dX2_swap_2_0 rfl ?_
  refine lv_istore (lv' := [(5, .int (zI (0))), (0, .ref q1), (1, .ref q2), (2, .int (zI ((xa : Int)))), (3, .int (zI ((xb : Int)))), (4, .int (zI ((xn : Int))))]) hx hb dX2_swap_2_1 hl (by decide) rfl (fun ls hl => ?_)
  exact loop xn 0 xa xb f g H0 [] ls (by omega) ha48 hb48 rfl rfl hP hD hS (lv_sub hl [1, 2, 3, 4, 5, 0] rfl)
end
section
set_option maxHeartbeats 4000000 in
set_option maxRecDepth 100000 in
/-- the middle of three: one of them -/
theorem met_med3 (l : Launch) (dC : Nat → ClassId) (dI : Nat → Nat → Nat) (dA : ClassId) (H0 : Heap) (q1 q2 : Nat) (f g : Nat → Int32) (xa xb xc : Nat) (ha48 : xa < 48) (hb48 : xb < 48) (hc48 : xc < 48) : Met l yX2_med3 (ws_ yX2_med3 cX2_med3 9 (some .int)) (zr 1 0 0 21) (zPc [.ref q1, .ref q2, .int (zI (xa : Int)), .int (zI (xb : Int)), .int (zI (xc : Int))] H0 (dC, dI) dA (z2 dA q1 q2 f g)) (zQp (fun r => ∃ k : Nat, r = zI (k : Int) ∧ (k = xa ∨ k = xb ∨ k = xc)) H0) 0 0 (fun _ => False) := by
  refine zMet_p (cc := cX2_med3) (maxL := 9) (ty := .int) (by decide) (Nat.le_of_ble_eq_true rfl) ?_
  intro p e s m args below meth c Q hx hb hml hts hown hK hP hD hS hend ls hl
  have hl : lv_has ls 9 [(0, .ref q1), (1, .ref q2), (2, .int (zI ((xa : Int)))), (3, .int (zI ((xb : Int)))), (4, .int (zI ((xc : Int))))] := hl
  have hown : s.vm.findClass RX2 = some m.cls := hown
  have hP : va_P (dC, dI) vwCl [(q1, .inl (dA, 48, .inl (f))), (q2, .inl (dA, 48, .inl (g)))] H0 := hP
  have hD : va_D (fun _ => True) [(q1, .inl (dA, 48, .inl (f))), (q2, .inl (dA, 48, .inl (g)))] := hD
  have T97 : ∀ (x6 x7 x8 : Int32) (locs : List Loc) (ls : Array Slot), va_S (fun _ => False) H0 H0 locs → lv_has ls 9 [(0, .ref q1), (1, .ref q2), (2, .int (zI ((xa : Int)))), (3, .int (zI ((xb : Int)))), (4, .int (zI ((xc : Int)))), (6, .int (x6)), (7, .int (x7)), (8, .int (x8))] → W p l e (zr 1 0 0 21) s m args below meth c H0 locs 0 0 Q (F0 m 97 ls []) := by
    intro x6 x7 x8 locs ls hS hl
    refine lv_iload hx hb dX2_med3_97 (lv_at hl 5 rfl) ?_
    refine lv_if_ge (tgt := 125) hx hb dX2_med3_99 (by decide) (fun _ => ?_) (fun _ => ?_)
    · skip
      refine lv_iload hx hb dX2_med3_125 (lv_at hl 7 rfl) ?_
      refine lv_if_le (tgt := 134) hx hb dX2_med3_127 (by decide) (fun _ => ?_) (fun _ => ?_)
      · skip
        refine lv_iload hx hb dX2_med3_134 (lv_at hl 6 rfl) ?_
        refine lv_if_le (tgt := 144) hx hb dX2_med3_136 (by decide) (fun _ => ?_) (fun _ => ?_)
        · skip
          refine lv_iload_n hx hb dX2_med3_144 rfl (lv_at hl 2 rfl) ?_
          exact hend _ _ ls _ dX2_med3_145 rfl ⟨xa, rfl, Or.inl rfl⟩ hS
        · skip
          refine lv_iload hx hb dX2_med3_139 (lv_at hl 4 rfl) ?_
          refine lv_goto (tgt := 145) hx hb dX2_med3_141 (by decide) ?_
          exact hend _ _ ls _ dX2_med3_145 rfl ⟨xc, rfl, Or.inr (Or.inr rfl)⟩ hS
      · skip
        refine lv_iload_n hx hb dX2_med3_130 rfl (lv_at hl 3 rfl) ?_
        refine lv_goto (tgt := 145) hx hb dX2_med3_131 (by decide) ?_
        exact hend _ _ ls _ dX2_med3_145 rfl ⟨xb, rfl, Or.inr (Or.inl rfl)⟩ hS
    · skip
      refine lv_iload hx hb dX2_med3_102 (lv_at hl 7 rfl) ?_
      refine lv_if_ge (tgt := 111) hx hb dX2_med3_104 (by decide) (fun _ => ?_) (fun _ => ?_)
      · skip
        refine lv_iload hx hb dX2_med3_111 (lv_at hl 6 rfl) ?_
        refine lv_if_ge (tgt := 121) hx hb dX2_med3_113 (by decide) (fun _ => ?_) (fun _ => ?_)
        · skip
          refine lv_iload_n hx hb dX2_med3_121 rfl (lv_at hl 2 rfl) ?_
          refine lv_goto (tgt := 145) hx hb dX2_med3_122 (by decide) ?_
          exact hend _ _ ls _ dX2_med3_145 rfl ⟨xa, rfl, Or.inl rfl⟩ hS
        · skip
          refine lv_iload hx hb dX2_med3_116 (lv_at hl 4 rfl) ?_
          refine lv_goto (tgt := 145) hx hb dX2_med3_118 (by decide) ?_
          exact hend _ _ ls _ dX2_med3_145 rfl ⟨xc, rfl, Or.inr (Or.inr rfl)⟩ hS
      · skip
        refine lv_iload_n hx hb dX2_med3_107 rfl (lv_at hl 3 rfl) ?_
        refine lv_goto (tgt := 145) hx hb dX2_med3_108 (by decide) ?_
        exact hend _ _ ls _ dX2_med3_145 rfl ⟨xb, rfl, Or.inr (Or.inl rfl)⟩ hS
  have T64 : ∀ (x6 x7 : Int32) (locs : List Loc) (ls : Array Slot), va_S (fun _ => False) H0 H0 locs → lv_has ls 9 [(0, .ref q1), (1, .ref q2), (2, .int (zI ((xa : Int)))), (3, .int (zI ((xb : Int)))), (4, .int (zI ((xc : Int)))), (6, .int (x6)), (7, .int (x7))] → W p l e (zr 1 0 0 21) s m args below meth c H0 locs 0 0 Q (F0 m 64 ls []) := by
    intro x6 x7 locs ls hS hl
    refine lv_aload_n hx hb dX2_med3_64 rfl (lv_at hl 0 rfl) ?_
    refine lv_iload_n hx hb dX2_med3_65 rfl (lv_at hl 3 rfl) ?_
    refine kz_iald (k := xb) hx hb hK hP 0 0 rfl rfl (by omega) (by omega) (by omega) dX2_med3_66 ?_
    refine lv_aload_n hx hb dX2_med3_67 rfl (lv_at hl 0 rfl) ?_
    refine lv_iload hx hb dX2_med3_68 (lv_at hl 4 rfl) ?_
    refine kz_iald (k := xc) hx hb hK hP 0 0 rfl rfl (by omega) (by omega) (by omega) dX2_med3_70 ?_
    refine zcallSp (As := [.int (f xb), .int (f xc)]) (rest := []) ⟨hx, hb, hml, hown, hts⟩ [] (met_compare l dC dI dA H0 _ _) (va_cwS 2 hts (lw_S q75 q76 q8 q77) rfl rfl rfl (by decide +kernel) ⟨Nat.le_of_ble_eq_true rfl, Nat.le_of_ble_eq_true rfl⟩) hK hP hD hS rfl (by decide) rfl rfl hl.1 (Nat.le_of_ble_eq_true rfl) dX2_med3_71 ⟨Nat.le_of_ble_eq_true rfl, Nat.le_of_ble_eq_true rfl⟩ (fun r locs hw hS => ?_)
    refine lv_dup hx hb dX2_med3_74 rfl ?_
    refine lv_istore (lv' := [(5, .int (r)), (0, .ref q1), (1, .ref q2), (2, .int (zI ((xa : Int)))), (3, .int (zI ((xb : Int)))), (4, .int (zI ((xc : Int)))), (6, .int (x6)), (7, .int (x7))]) hx hb dX2_med3_75 hl (by decide) rfl (fun ls hl => ?_)
    refine lv_if_ne (tgt := 93) hx hb dX2_med3_77 (by decide) (fun c1 => ?_) (fun c1 => ?_)
    · skip
      refine lv_iload hx hb dX2_med3_93 (lv_at hl 0 rfl) ?_
      refine lv_istore (lv' := [(8, .int (r)), (5, .int (r)), (0, .ref q1), (1, .ref q2), (2, .int (zI ((xa : Int)))), (3, .int (zI ((xb : Int)))), (4, .int (zI ((xc : Int)))), (6, .int (x6)), (7, .int (x7))]) hx hb dX2_med3_95 hl (by decide) rfl (fun ls hl => ?_)
      exact T97 x6 x7 _ locs ls hS (lv_sub hl [2, 3, 4, 5, 6, 7, 8, 0] rfl)
    · skip
      refine lv_aload_n hx hb dX2_med3_80 rfl (lv_at hl 2 rfl) ?_
      refine lv_iload_n hx hb dX2_med3_81 rfl (lv_at hl 4 rfl) ?_
      refine kz_iald (k := xb) hx hb hK hP 1 0 rfl rfl (by omega) (by omega) (by omega) dX2_med3_82 ?_
      refine lv_aload_n hx hb dX2_med3_83 rfl (lv_at hl 2 rfl) ?_
      refine lv_iload hx hb dX2_med3_84 (lv_at hl 5 rfl) ?_
      refine kz_iald (k := xc) hx hb hK hP 1 0 rfl rfl (by omega) (by omega) (by omega) dX2_med3_86 ?_
      refine zcallSp (As := [.int (g xb), .int (g xc)]) (rest := []) ⟨hx, hb, hml, hown, hts⟩ [] (met_compare l dC dI dA H0 _ _) (va_cwS 2 hts (lw_S q75 q76 q8 q77) rfl rfl rfl (by decide +kernel) ⟨Nat.le_of_ble_eq_true rfl, Nat.le_of_ble_eq_true rfl⟩) hK hP hD hS rfl (by decide) rfl rfl hl.1 (Nat.le_of_ble_eq_true rfl) dX2_med3_87 ⟨Nat.le_of_ble_eq_true rfl, Nat.le_of_ble_eq_true rfl⟩ (fun r2 locs hw2 hS => ?_)
      refine lv_goto (tgt := 95) hx hb dX2_med3_90 (by decide) ?_
      refine lv_istore (lv' := [(8, .int (r2)), (5, .int (r)), (0, .ref q1), (1, .ref q2), (2, .int (zI ((xa : Int)))), (3, .int (zI ((xb : Int)))), (4, .int (zI ((xc : Int)))), (6, .int (x6)), (7, .int (x7))]) hx hb dX2_med3_95 hl (by decide) rfl (fun ls hl => ?_)
      exact T97 x6 x7 _ locs ls hS (lv_sub hl [2, 3, 4, 5, 6, 7, 8, 0] rfl)
  have T31 : ∀ (x6 : Int32) (locs : List Loc) (ls : Array Slot), va_S (fun _ => False) H0 H0 locs → lv_has ls 9 [(0, .ref q1), (1, .ref q2), (2, .int (zI ((xa : Int)))), (3, .int (zI ((xb : Int)))), (4, .int (zI ((xc : Int)))), (6, .int (x6))] → W p l e (zr 1 0 0 21) s m args below meth c H0 locs 0 0 Q (F0 m 31 ls []) := by
    intro x6 locs ls hS hl
    refine lv_aload_n hx hb dX2_med3_31 rfl (lv_at hl 0 rfl) ?_
    refine lv_iload_n hx hb dX2_med3_32 rfl (lv_at hl 2 rfl) ?_
    refine kz_iald (k := xa) hx hb hK hP 0 0 rfl rfl (by omega) (by omega) (by omega) dX2_med3_33 ?_
    refine lv_aload_n hx hb dX2_med3_34 rfl (lv_at hl 0 rfl) ?_
    refine lv_iload hx hb dX2_med3_35 (lv_at hl 4 rfl) ?_
    refine kz_iald (k := xc) hx hb hK hP 0 0 rfl rfl (by omega) (by omega) (by omega) dX2_med3_37 ?_
    refine zcallSp (As := [.int (f xa), .int (f xc)]) (rest := []) ⟨hx, hb, hml, hown, hts⟩ [] (met_compare l dC dI dA H0 _ _) (va_cwS 2 hts (lw_S q75 q76 q8 q77) rfl rfl rfl (by decide +kernel) ⟨Nat.le_of_ble_eq_true rfl, Nat.le_of_ble_eq_true rfl⟩) hK hP hD hS rfl (by decide) rfl rfl hl.1 (Nat.le_of_ble_eq_true rfl) dX2_med3_38 ⟨Nat.le_of_ble_eq_true rfl, Nat.le_of_ble_eq_true rfl⟩ (fun r locs hw hS => ?_)
    refine lv_dup hx hb dX2_med3_41 rfl ?_
    refine lv_istore (lv' := [(5, .int (r)), (0, .ref q1), (1, .ref q2), (2, .int (zI ((xa : Int)))), (3, .int (zI ((xb : Int)))), (4, .int (zI ((xc : Int)))), (6, .int (x6))]) hx hb dX2_med3_42 hl (by decide) rfl (fun ls hl => ?_)
    refine lv_if_ne (tgt := 60) hx hb dX2_med3_44 (by decide) (fun c1 => ?_) (fun c1 => ?_)
    · skip
      refine lv_iload hx hb dX2_med3_60 (lv_at hl 0 rfl) ?_
      refine lv_istore (lv' := [(7, .int (r)), (5, .int (r)), (0, .ref q1), (1, .ref q2), (2, .int (zI ((xa : Int)))), (3, .int (zI ((xb : Int)))), (4, .int (zI ((xc : Int)))), (6, .int (x6))]) hx hb dX2_med3_62 hl (by decide) rfl (fun ls hl => ?_)
      exact T64 x6 _ locs ls hS (lv_sub hl [2, 3, 4, 5, 6, 7, 0] rfl)
    · skip
      refine lv_aload_n hx hb dX2_med3_47 rfl (lv_at hl 2 rfl) ?_
      refine lv_iload_n hx hb dX2_med3_48 rfl (lv_at hl 3 rfl) ?_
      refine kz_iald (k := xa) hx hb hK hP 1 0 rfl rfl (by omega) (by omega) (by omega) dX2_med3_49 ?_
      refine lv_aload_n hx hb dX2_med3_50 rfl (lv_at hl 2 rfl) ?_
      refine lv_iload hx hb dX2_med3_51 (lv_at hl 5 rfl) ?_
      refine kz_iald (k := xc) hx hb hK hP 1 0 rfl rfl (by omega) (by omega) (by omega) dX2_med3_53 ?_
      refine zcallSp (As := [.int (g xa), .int (g xc)]) (rest := []) ⟨hx, hb, hml, hown, hts⟩ [] (met_compare l dC dI dA H0 _ _) (va_cwS 2 hts (lw_S q75 q76 q8 q77) rfl rfl rfl (by decide +kernel) ⟨Nat.le_of_ble_eq_true rfl, Nat.le_of_ble_eq_true rfl⟩) hK hP hD hS rfl (by decide) rfl rfl hl.1 (Nat.le_of_ble_eq_true rfl) dX2_med3_54 ⟨Nat.le_of_ble_eq_true rfl, Nat.le_of_ble_eq_true rfl⟩ (fun r2 locs hw2 hS => ?_)
      refine lv_goto (tgt := 62) hx hb dX2_med3_57 (by decide) ?_
      refine lv_istore (lv' := [(7, .int (r2)), (5, .int (r)), (0, .ref q1), (1, .ref q2), (2, .int (zI ((xa : Int)))), (3, .int (zI ((xb : Int)))), (4, .int (zI ((xc : Int)))), (6, .int (x6))]) hx hb dX2_med3_62 hl (by decide) rfl (fun ls hl => ?_)
      exact T64 x6 _ locs ls hS (lv_sub hl [2, 3, 4, 5, 6, 7, 0] rfl)
  refine lv_aload_n hx hb dX2_med3_0 rfl (lv_at hl 0 rfl) ?_
  refine lv_iload_n hx hb dX2_med3_1 rfl (lv_at hl 2 rfl) ?_
  refine kz_iald (k := xa) hx hb hK hP 0 0 rfl rfl (by omega) (by omega) (by omega) dX2_med3_2 ?_
  refine lv_aload_n hx hb dX2_med3_3 rfl (lv_at hl 0 rfl) ?_
  refine lv_iload_n hx hb dX2_med3_4 rfl (lv_at hl 3 rfl) ?_
  refine kz_iald (k := xb) hx hb hK hP 0 0 rfl rfl (by omega) (by omega) (by omega) dX2_med3_5 ?_
  refine zcallSp (As := [.int (f xa), .int (f xb)]) (rest := []) ⟨hx, hb, hml, hown, hts⟩ [] (met_compare l dC dI dA H0 _ _) (va_cwS 2 hts (lw_S q75 q76 q8 q77) rfl rfl rfl (by decide +kernel) ⟨Nat.le_of_ble_eq_true rfl, Nat.le_of_ble_eq_true rfl⟩) hK hP hD hS rfl (by decide) rfl rfl hl.1 (Nat.le_of_ble_eq_true rfl) dX2_med3_6 ⟨Nat.le_of_ble_eq_true rfl, Nat.le_of_ble_eq_true rfl⟩ (fun r locs hw hS => ?_)
  refine lv_dup hx hb dX2_med3_9 rfl ?_
  refine lv_istore (lv' := [(5, .int (r)), (0, .ref q1), (1, .ref q2), (2, .int (zI ((xa : Int)))), (3, .int (zI ((xb : Int)))), (4, .int (zI ((xc : Int))))]) hx hb dX2_med3_10 hl (by decide) rfl (fun ls hl => ?_)
  refine lv_if_ne (tgt := 27) hx hb dX2_med3_12 (by decide) (fun c1 => ?_) (fun c1 => ?_)
  · skip
    refine lv_iload hx hb dX2_med3_27 (lv_at hl 0 rfl) ?_
    refine lv_istore (lv' := [(6, .int (r)), (5, .int (r)), (0, .ref q1), (1, .ref q2), (2, .int (zI ((xa : Int)))), (3, .int (zI ((xb : Int)))), (4, .int (zI ((xc : Int))))]) hx hb dX2_med3_29 hl (by decide) rfl (fun ls hl => ?_)
    exact T31 _ locs ls hS (lv_sub hl [2, 3, 4, 5, 6, 0] rfl)
  · skip
    refine lv_aload_n hx hb dX2_med3_15 rfl (lv_at hl 2 rfl) ?_
    refine lv_iload_n hx hb dX2_med3_16 rfl (lv_at hl 3 rfl) ?_
    refine kz_iald (k := xa) hx hb hK hP 1 0 rfl rfl (by omega) (by omega) (by omega) dX2_med3_17 ?_
    refine lv_aload_n hx hb dX2_med3_18 rfl (lv_at hl 2 rfl) ?_
    refine lv_iload_n hx hb dX2_med3_19 rfl (lv_at hl 4 rfl) ?_
    refine kz_iald (k := xb) hx hb hK hP 1 0 rfl rfl (by omega) (by omega) (by omega) dX2_med3_20 ?_
    refine zcallSp (As := [.int (g xa), .int (g xb)]) (rest := []) ⟨hx, hb, hml, hown, hts⟩ [] (met_compare l dC dI dA H0 _ _) (va_cwS 2 hts (lw_S q75 q76 q8 q77) rfl rfl rfl (by decide +kernel) ⟨Nat.le_of_ble_eq_true rfl, Nat.le_of_ble_eq_true rfl⟩) hK hP hD hS rfl (by decide) rfl rfl hl.1 (Nat.le_of_ble_eq_true rfl) dX2_med3_21 ⟨Nat.le_of_ble_eq_true rfl, Nat.le_of_ble_eq_true rfl⟩ (fun r2 locs hw2 hS => ?_)
    refine lv_goto (tgt := 29) hx hb dX2_med3_24 (by decide) ?_
    refine lv_istore (lv' := [(6, .int (r2)), (5, .int (r)), (0, .ref q1), (1, .ref q2), (2, .int (zI ((xa : Int)))), (3, .int (zI ((xb : Int)))), (4, .int (zI ((xc : Int))))]) hx hb dX2_med3_29 hl (by decide) rfl (fun ls hl => ?_)
    exact T31 _ locs ls hS (lv_sub hl [2, 3, 4, 5, 6, 0] rfl)
end
section
set_option maxHeartbeats 4000000 in
set_option maxRecDepth 100000 in
/-- selectionSort -/
theorem met_sel (l : Launch) (dC : Nat → ClassId) (dI : Nat → Nat → Nat) (dA : ClassId) (H0 : Heap) (q1 q2 : Nat) (f0 g0 : Nat → Int32) (lo hi : Nat) (hlh : lo ≤ hi) (h48 : hi ≤ 48) : Met l yX2_selectionSort (ws_ yX2_selectionSort cX2_selectionSort 8 none) (zr 1 0 0 21) (zPc [.ref q1, .ref q2, .int (zI (lo : Int)), .int (zI (hi : Int))] H0 (dC, dI) dA (z2 dA q1 q2 f0 g0)) (zQv (fun u : (Nat → Int32) × (Nat → Int32) => zSO (zkk f0 g0) (zkk u.1 u.2) lo hi) (fun u => z2 dA q1 q2 u.1 u.2) (dC, dI) dA (z2 dA q1 q2 f0 g0) H0.size) 0 0 (va_A (z2 dA q1 q2 f0 g0) H0.size) := by
  refine zMet_v (cc := cX2_selectionSort) (maxL := 8) (by decide) (Nat.le_of_ble_eq_true rfl) ?_
  intro p e s m args below meth c A Q hx hb hml hts hown hnm hK hP hD hS hA hend ls hl
  have hl : lv_has ls 8 [(0, .ref q1), (1, .ref q2), (2, .int (zI ((lo : Int)))), (3, .int (zI ((hi : Int))))] := hl
  have hown : s.vm.findClass RX2 = some m.cls := hown
  have hP : va_P (dC, dI) vwCl [(q1, .inl (dA, 48, .inl (f0))), (q2, .inl (dA, 48, .inl (g0)))] H0 := hP
  have hD : va_D A [(q1, .inl (dA, 48, .inl (f0))), (q2, .inl (dA, 48, .inl (g0)))] := hD
  have loop : ∀ (k i : Nat) (f g : Nat → Int32) (H : Heap) (locs : List Loc) (ls : Array Slot), hi < i + k → lo ≤ i → i ≤ hi → zPm (zkk f0 g0) (zkk f g) lo hi → zSel (zkk f g) lo hi i → va_P (dC, dI) vwCl [(q1, .inl (dA, 48, .inl (f))), (q2, .inl (dA, 48, .inl (g)))] H → va_D A [(q1, .inl (dA, 48, .inl (f))), (q2, .inl (dA, 48, .inl (g)))] → va_S A H0 H locs → lv_has ls 8 [(0, .ref q1), (1, .ref q2), (2, .int (zI ((lo : Int)))), (3, .int (zI ((hi : Int)))), (4, .int (zI ((i : Int))))] → W p l e (zr 1 0 0 21) s m args below meth c H locs 0 0 Q (F0 m 3 ls []) := by
    intro k
    induction k with
    | zero =>
      intro i f g H locs ls h1 h2 h3
      omega
    | succ k ih =>
      intro i f g H locs ls h1 h2 h3 hp hsel hP hD hS hl
      refine lv_iload hx hb dX2_selectionSort_3 (lv_at hl 4 rfl) ?_
      refine lv_iload_n hx hb dX2_selectionSort_5 rfl (lv_at hl 3 rfl) ?_
      refine lv_iconst (v := zI (1)) hx hb dX2_selectionSort_6 rfl ?_
      refine kz_isub (E := (hi : Int) - 1) hx hb dX2_selectionSort_7 (by omega) ?_
      refine kz_icmp_ge (tgt := 123) hx hb dX2_selectionSort_8 (by decide) (by omega) (fun c1 => ?_) (fun c1 => ?_)
      · skip
        exact hend _ _ _ _ (f, g) dX2_selectionSort_123 ⟨hp, zSel_end hsel (by omega)⟩ hP hD hS
      · skip
        have inner : ∀ (k2 j mm : Nat) (locs : List Loc) (ls : Array Slot), j + k2 = hi → i ≤ mm → mm < j → (∀ x, i ≤ x → x < j → zkk f g mm ≤ zkk f g x) → va_S A H0 H locs → lv_has ls 8 [(0, .ref q1), (1, .ref q2), (2, .int (zI ((lo : Int)))), (3, .int (zI ((hi : Int)))), (4, .int (zI ((i : Int)))), (5, .int (zI ((mm : Int)))), (7, .int (zI ((j : Int))))] → W p l e (zr 1 0 0 21) s m args below meth c H locs 0 0 Q (F0 m 21 ls []) := by
          intro k2
          induction k2 with
          | zero =>
            intro j mm locs ls g1 g2 g3 hmin hS hl
            refine lv_iload hx hb dX2_selectionSort_21 (lv_at hl 6 rfl) ?_
            refine lv_iload_n hx hb dX2_selectionSort_23 rfl (lv_at hl 3 rfl) ?_
            refine kz_icmp_ge (tgt := 70) hx hb dX2_selectionSort_24 (by decide) (by omega) (fun c2 => ?_) (fun c2 => ?_)
            · skip
              refine lv_iload hx hb dX2_selectionSort_70 (lv_at hl 5 rfl) ?_
              refine lv_iload hx hb dX2_selectionSort_72 (lv_at hl 4 rfl) ?_
              refine kz_icmp_eq (tgt := 117) hx hb dX2_selectionSort_74 (by decide) (by omega) (fun c3 => ?_) (fun c3 => ?_)
              · skip
                refine kz_iinc (E := ((i + 1 : Nat) : Int)) (lv' := [(4, .int (zI (((i + 1 : Nat) : Int)))), (0, .ref q1), (1, .ref q2), (2, .int (zI ((lo : Int)))), (3, .int (zI ((hi : Int)))), (5, .int (zI ((mm : Int)))), (7, .int (zI ((j : Int))))]) hx hb dX2_selectionSort_117 hl (k := 4) rfl (by omega) (by decide) rfl (fun ls hl => ?_)
                refine lv_goto (tgt := 3) hx hb dX2_selectionSort_120 (by decide) ?_
                have em : mm = i := by omega
                subst em
                exact ih (mm + 1) f g H locs ls (by omega) (by omega) (by omega) hp (zSel_same hsel (fun x q1 q2 => hmin x q1 (by omega))) hP hD hS (lv_sub hl [1, 2, 3, 4, 0] rfl)
              · skip
                refine lv_aload_n hx hb dX2_selectionSort_77 rfl (lv_at hl 0 rfl) ?_
                refine lv_iload hx hb dX2_selectionSort_78 (lv_at hl 4 rfl) ?_
                refine kz_iald (k := i) hx hb hK hP 0 0 rfl rfl (by omega) (by omega) (by omega) dX2_selectionSort_80 ?_
                refine lv_istore (lv' := [(7, .int (f i)), (0, .ref q1), (1, .ref q2), (2, .int (zI ((lo : Int)))), (3, .int (zI ((hi : Int)))), (4, .int (zI ((i : Int)))), (5, .int (zI ((mm : Int))))]) hx hb dX2_selectionSort_81 hl (by decide) rfl (fun ls hl => ?_)
                refine lv_aload_n hx hb dX2_selectionSort_83 rfl (lv_at hl 1 rfl) ?_
                refine lv_iload hx hb dX2_selectionSort_84 (lv_at hl 5 rfl) ?_
                refine lv_aload_n hx hb dX2_selectionSort_86 rfl (lv_at hl 1 rfl) ?_
                refine lv_iload hx hb dX2_selectionSort_87 (lv_at hl 6 rfl) ?_
                refine kz_iald (k := mm) hx hb hK hP 0 0 rfl rfl (by omega) (by omega) (by omega) dX2_selectionSort_89 ?_
                refine kz_iast (k := i) hx hb hK hP hD hS 0 0 rfl rfl (by omega) (by omega) (by omega) dX2_selectionSort_90 (fun H locs hP hD hS => ?_)
                have hP : va_P (dC, dI) vwCl [(q1, .inl (dA, 48, .inl (upd f i ((f mm))))), (q2, .inl (dA, 48, .inl (g)))] H := hP
                have hD : va_D A [(q1, .inl (dA, 48, .inl (upd f i ((f mm))))), (q2, .inl (dA, 48, .inl (g)))] := hD
                refine lv_aload_n hx hb dX2_selectionSort_91 rfl (lv_at hl 1 rfl) ?_
                refine lv_iload hx hb dX2_selectionSort_92 (lv_at hl 6 rfl) ?_
                refine lv_iload hx hb dX2_selectionSort_94 (lv_at hl 0 rfl) ?_
                refine kz_iast (k := mm) hx hb hK hP hD hS 0 0 rfl rfl (by omega) (by omega) (by omega) dX2_selectionSort_96 (fun H locs hP hD hS => ?_)
                have hP : va_P (dC, dI) vwCl [(q1, .inl (dA, 48, .inl (upd (upd f i ((f mm))) mm ((f i))))), (q2, .inl (dA, 48, .inl (g)))] H := hP
                have hD : va_D A [(q1, .inl (dA, 48, .inl (upd (upd f i ((f mm))) mm ((f i))))), (q2, .inl (dA, 48, .inl (g)))] := hD
                refine lv_aload_n hx hb dX2_selectionSort_97 rfl (lv_at hl 2 rfl) ?_
                refine lv_iload hx hb dX2_selectionSort_98 (lv_at hl 5 rfl) ?_
                refine kz_iald (k := i) hx hb hK hP 1 0 rfl rfl (by omega) (by omega) (by omega) dX2_selectionSort_100 ?_
                refine lv_istore (lv' := [(7, .int (g i)), (0, .ref q1), (1, .ref q2), (2, .int (zI ((lo : Int)))), (3, .int (zI ((hi : Int)))), (4, .int (zI ((i : Int)))), (5, .int (zI ((mm : Int))))]) hx hb dX2_selectionSort_101 hl (by decide) rfl (fun ls hl => ?_)
                refine lv_aload_n hx hb dX2_selectionSort_103 rfl (lv_at hl 2 rfl) ?_
                refine lv_iload hx hb dX2_selectionSort_104 (lv_at hl 5 rfl) ?_
                refine lv_aload_n hx hb dX2_selectionSort_106 rfl (lv_at hl 2 rfl) ?_
                refine lv_iload hx hb dX2_selectionSort_107 (lv_at hl 6 rfl) ?_
                refine kz_iald (k := mm) hx hb hK hP 1 0 rfl rfl (by omega) (by omega) (by omega) dX2_selectionSort_109 ?_
                refine kz_iast (k := i) hx hb hK hP hD hS 1 0 rfl rfl (by omega) (by omega) (by omega) dX2_selectionSort_110 (fun H locs hP hD hS => ?_)
                have hP : va_P (dC, dI) vwCl [(q1, .inl (dA, 48, .inl (upd (upd f i ((f mm))) mm ((f i))))), (q2, .inl (dA, 48, .inl (upd g i ((g mm)))))] H := hP
                have hD : va_D A [(q1, .inl (dA, 48, .inl (upd (upd f i ((f mm))) mm ((f i))))), (q2, .inl (dA, 48, .inl (upd g i ((g mm)))))] := hD
                refine lv_aload_n hx hb dX2_selectionSort_111 rfl (lv_at hl 2 rfl) ?_
                refine lv_iload hx hb dX2_selectionSort_112 (lv_at hl 6 rfl) ?_
                refine lv_iload hx hb dX2_selectionSort_114 (lv_at hl 0 rfl) ?_
                refine kz_iast (k := mm) hx hb hK hP hD hS 1 0 rfl rfl (by omega) (by omega) (by omega) dX2_selectionSort_116 (fun H locs hP hD hS => ?_)
                have hP : va_P (dC, dI) vwCl [(q1, .inl (dA, 48, .inl (upd (upd f i ((f mm))) mm ((f i))))), (q2, .inl (dA, 48, .inl (upd (upd g i ((g mm))) mm ((g i)))))] H := hP
                have hD : va_D A [(q1, .inl (dA, 48, .inl (upd (upd f i ((f mm))) mm ((f i))))), (q2, .inl (dA, 48, .inl (upd (upd g i ((g mm))) mm ((g i)))))] := hD
                refine kz_iinc (E := ((i + 1 : Nat) : Int)) (lv' := [(4, .int (zI (((i + 1 : Nat) : Int)))), (7, .int (g i)), (0, .ref q1), (1, .ref q2), (2, .int (zI ((lo : Int)))), (3, .int (zI ((hi : Int)))), (5, .int (zI ((mm : Int))))]) hx hb dX2_selectionSort_117 hl (k := 5) rfl (by omega) (by decide) rfl (fun ls hl => ?_)
                refine lv_goto (tgt := 3) hx hb dX2_selectionSort_120 (by decide) ?_
                have hP : va_P (dC, dI) vwCl [(q1, .inl (dA, 48, .inl (zsw f i mm))), (q2, .inl (dA, 48, .inl (zsw g i mm)))] H := hP
                have hD : va_D A [(q1, .inl (dA, 48, .inl (zsw f i mm))), (q2, .inl (dA, 48, .inl (zsw g i mm)))] := hD
                exact ih (i + 1) (zsw f i mm) (zsw g i mm) H locs ls (by omega) (by omega) (by omega) (by rw [zkk_sw]; exact zPm_trans hp (zPm_sw _ (by omega) (by omega) (by omega) (by omega))) (by rw [zkk_sw]; exact zSel_sw hsel (by omega) (by omega) (fun x q1 q2 => hmin x q1 (by omega))) hP hD hS (lv_sub hl [2, 3, 4, 5, 0] rfl)
            · skip
              omega
          | succ k2 ih2 =>
            intro j mm locs ls g1 g2 g3 hmin hS hl
            refine lv_iload hx hb dX2_selectionSort_21 (lv_at hl 6 rfl) ?_
            refine lv_iload_n hx hb dX2_selectionSort_23 rfl (lv_at hl 3 rfl) ?_
            refine kz_icmp_ge (tgt := 70) hx hb dX2_selectionSort_24 (by decide) (by omega) (fun c2 => ?_) (fun c2 => ?_)
            · skip
              omega
            · skip
              refine lv_aload_n hx hb dX2_selectionSort_27 rfl (lv_at hl 0 rfl) ?_
              refine lv_iload hx hb dX2_selectionSort_28 (lv_at hl 6 rfl) ?_
              refine kz_iald (k := j) hx hb hK hP 0 0 rfl rfl (by omega) (by omega) (by omega) dX2_selectionSort_30 ?_
              refine lv_aload_n hx hb dX2_selectionSort_31 rfl (lv_at hl 0 rfl) ?_
              refine lv_iload hx hb dX2_selectionSort_32 (lv_at hl 5 rfl) ?_
              refine kz_iald (k := mm) hx hb hK hP 0 0 rfl rfl (by omega) (by omega) (by omega) dX2_selectionSort_34 ?_
              refine zcallSp (As := [.int (f j), .int (f mm)]) (rest := []) ⟨hx, hb, hml, hown, hts⟩ [] (met_compare l dC dI dA H _ _) (va_cwS 2 hts (lw_S q75 q76 q8 q77) rfl rfl rfl (by decide +kernel) ⟨Nat.le_of_ble_eq_true rfl, Nat.le_of_ble_eq_true rfl⟩) hK hP hD hS rfl (by decide) rfl rfl hl.1 (Nat.le_of_ble_eq_true rfl) dX2_selectionSort_35 ⟨Nat.le_of_ble_eq_true rfl, Nat.le_of_ble_eq_true rfl⟩ (fun r locs hw hS => ?_)
              obtain rfl : r = zcmp (f j) (f mm) := hw
              refine lv_dup hx hb dX2_selectionSort_38 rfl ?_
              refine lv_istore (lv' := [(6, .int (zcmp (f j) (f mm))), (0, .ref q1), (1, .ref q2), (2, .int (zI ((lo : Int)))), (3, .int (zI ((hi : Int)))), (4, .int (zI ((i : Int)))), (5, .int (zI ((mm : Int)))), (7, .int (zI ((j : Int))))]) hx hb dX2_selectionSort_39 hl (by decide) rfl (fun ls hl => ?_)
              refine lv_if_lt (tgt := 60) hx hb dX2_selectionSort_41 (by decide) (fun c3 => ?_) (fun c3 => ?_)
              · skip
                refine lv_iload hx hb dX2_selectionSort_60 (lv_at hl 7 rfl) ?_
                refine lv_istore (lv' := [(5, .int (zI ((j : Int)))), (6, .int (zcmp (f j) (f mm))), (0, .ref q1), (1, .ref q2), (2, .int (zI ((lo : Int)))), (3, .int (zI ((hi : Int)))), (4, .int (zI ((i : Int)))), (7, .int (zI ((j : Int))))]) hx hb dX2_selectionSort_62 hl (by decide) rfl (fun ls hl => ?_)
                refine kz_iinc (E := ((j + 1 : Nat) : Int)) (lv' := [(7, .int (zI (((j + 1 : Nat) : Int)))), (5, .int (zI ((j : Int)))), (6, .int (zcmp (f j) (f mm))), (0, .ref q1), (1, .ref q2), (2, .int (zI ((lo : Int)))), (3, .int (zI ((hi : Int)))), (4, .int (zI ((i : Int))))]) hx hb dX2_selectionSort_64 hl (k := 7) rfl (by omega) (by decide) rfl (fun ls hl => ?_)
                refine lv_goto (tgt := 21) hx hb dX2_selectionSort_67 (by decide) ?_
                exact ih2 (j + 1) j locs ls (by omega) (by omega) (by omega) (zmin_take hmin (zk_lt1 ((zcmp_lt _ _).mp c3))) hS (lv_sub hl [3, 4, 5, 6, 7, 1, 0] rfl)
              · skip
                refine lv_iload hx hb dX2_selectionSort_44 (lv_at hl 0 rfl) ?_
                refine lv_if_ne (tgt := 64) hx hb dX2_selectionSort_46 (by decide) (fun c4 => ?_) (fun c4 => ?_)
                · skip
                  refine kz_iinc (E := ((j + 1 : Nat) : Int)) (lv' := [(7, .int (zI (((j + 1 : Nat) : Int)))), (6, .int (zcmp (f j) (f mm))), (0, .ref q1), (1, .ref q2), (2, .int (zI ((lo : Int)))), (3, .int (zI ((hi : Int)))), (4, .int (zI ((i : Int)))), (5, .int (zI ((mm : Int))))]) hx hb dX2_selectionSort_64 hl (k := 7) rfl (by omega) (by decide) rfl (fun ls hl => ?_)
                  refine lv_goto (tgt := 21) hx hb dX2_selectionSort_67 (by decide) ?_
                  exact ih2 (j + 1) mm locs ls (by omega) (by omega) (by omega) (zmin_keep hmin (zk_nlt (fun q => c3 ((zcmp_lt _ _).mpr q)) (fun q => absurd ((zcmp_eq _ _).mpr q) c4))) hS (lv_sub hl [2, 3, 4, 5, 6, 7, 0] rfl)
                · skip
                  refine lv_aload_n hx hb dX2_selectionSort_49 rfl (lv_at hl 2 rfl) ?_
                  refine lv_iload hx hb dX2_selectionSort_50 (lv_at hl 7 rfl) ?_
                  refine kz_iald (k := j) hx hb hK hP 1 0 rfl rfl (by omega) (by omega) (by omega) dX2_selectionSort_52 ?_
                  refine lv_aload_n hx hb dX2_selectionSort_53 rfl (lv_at hl 2 rfl) ?_
                  refine lv_iload hx hb dX2_selectionSort_54 (lv_at hl 6 rfl) ?_
                  refine kz_iald (k := mm) hx hb hK hP 1 0 rfl rfl (by omega) (by omega) (by omega) dX2_selectionSort_56 ?_
                  refine lv_icmp_ge (tgt := 64) hx hb dX2_selectionSort_57 (by decide) (fun c5 => ?_) (fun c5 => ?_)
                  · skip
                    refine kz_iinc (E := ((j + 1 : Nat) : Int)) (lv' := [(7, .int (zI (((j + 1 : Nat) : Int)))), (6, .int (zcmp (f j) (f mm))), (0, .ref q1), (1, .ref q2), (2, .int (zI ((lo : Int)))), (3, .int (zI ((hi : Int)))), (4, .int (zI ((i : Int)))), (5, .int (zI ((mm : Int))))]) hx hb dX2_selectionSort_64 hl (k := 7) rfl (by omega) (by decide) rfl (fun ls hl => ?_)
                    refine lv_goto (tgt := 21) hx hb dX2_selectionSort_67 (by decide) ?_
                    exact ih2 (j + 1) mm locs ls (by omega) (by omega) (by omega) (zmin_keep hmin (zk_nlt (fun q => c3 ((zcmp_lt _ _).mpr q)) (fun _ => Int32.not_lt.mpr c5))) hS (lv_sub hl [2, 3, 4, 5, 6, 7, 0] rfl)
                  · skip
                    refine lv_iload hx hb dX2_selectionSort_60 (lv_at hl 7 rfl) ?_
                    refine lv_istore (lv' := [(5, .int (zI ((j : Int)))), (6, .int (zcmp (f j) (f mm))), (0, .ref q1), (1, .ref q2), (2, .int (zI ((lo : Int)))), (3, .int (zI ((hi : Int)))), (4, .int (zI ((i : Int)))), (7, .int (zI ((j : Int))))]) hx hb dX2_selectionSort_62 hl (by decide) rfl (fun ls hl => ?_)
                    refine kz_iinc (E := ((j + 1 : Nat) : Int)) (lv' := [(7, .int (zI (((j + 1 : Nat) : Int)))), (5, .int (zI ((j : Int)))), (6, .int (zcmp (f j) (f mm))), (0, .ref q1), (1, .ref q2), (2, .int (zI ((lo : Int)))), (3, .int (zI ((hi : Int)))), (4, .int (zI ((i : Int))))]) hx hb dX2_selectionSort_64 hl (k := 7) rfl (by omega) (by decide) rfl (fun ls hl => ?_)
                    refine lv_goto (tgt := 21) hx hb dX2_selectionSort_67 (by decide) ?_
                    exact ih2 (j + 1) j locs ls (by omega) (by omega) (by omega) (zmin_take hmin (zk_lt2 ((zcmp_eq _ _).mp c4) (Int32.not_le.mp c5))) hS (lv_sub hl [3, 4, 5, 6, 7, 1, 0] rfl)
        refine lv_iload hx hb dX2_selectionSort_11 (lv_at hl 4 rfl) ?_
        refine lv_istore (lv' := [(5, .int (zI ((i : Int)))), (0, .ref q1), (1, .ref q2), (2, .int (zI ((lo : Int)))), (3, .int (zI ((hi : Int)))), (4, .int (zI ((i : Int))))]) hx hb dX2_selectionSort_13 hl (by decide) rfl (fun ls hl => ?_)
        refine lv_iload hx hb dX2_selectionSort_15 (lv_at hl 5 rfl) ?_
        refine lv_iconst (v := zI (1)) hx hb dX2_selectionSort_17 rfl ?_
        refine kz_iadd (E := ((i + 1 : Nat) : Int)) hx hb dX2_selectionSort_18 (by omega) ?_
        refine lv_istore (lv' := [(7, .int (zI (((i + 1 : Nat) : Int)))), (5, .int (zI ((i : Int)))), (0, .ref q1), (1, .ref q2), (2, .int (zI ((lo : Int)))), (3, .int (zI ((hi : Int)))), (4, .int (zI ((i : Int))))]) hx hb dX2_selectionSort_19 hl (by decide) rfl (fun ls hl => ?_)
        exact inner (hi - (i + 1)) (i + 1) i locs ls (by omega) (by omega) (by omega) (fun x q1 q2 => by rw [show x = i by omega]; exact Int.le_refl _) hS (lv_sub hl [2, 3, 4, 5, 6, 1, 0] rfl)
  refine lv_iload_n hx hb dX2_selectionSort_0 rfl (lv_at hl 2 rfl) ?_
  refine lv_istore (lv' := [(4, .int (zI ((lo : Int)))), (0, .ref q1), (1, .ref q2), (2, .int (zI ((lo : Int)))), (3, .int (zI ((hi : Int))))]) hx hb dX2_selectionSort_1 hl (by decide) rfl (fun ls hl => ?_)
  exact loop (hi + 1 - lo) lo f0 g0 H0 [] ls (by omega) (by omega) hlh (zPm_refl _ _ _) (zSel_0 _ _ _) hP hD hS (lv_sub hl [1, 2, 3, 4, 0] rfl)
end
section
/-- quickSort of ranges shorter than d -/
def zQk (l : Launch) (dC : Nat → ClassId) (dI : Nat → Nat → Nat) (dA : ClassId) (d : Nat) : Prop := ∀ (H0 : Heap) (q1 q2 : Nat) (f0 g0 : Nat → Int32) (lo hi : Nat), lo ≤ hi → hi ≤ 48 → hi - lo < d → Met l yX2_quickSort (ws_ yX2_quickSort cX2_quickSort 16 none) (zr (d + 1) 0 0 (40 * d + 20)) (zPc [.ref q1, .ref q2, .int (zI (lo : Int)), .int (zI (hi : Int))] H0 (dC, dI) dA (z2 dA q1 q2 f0 g0)) (zQv (fun u : (Nat → Int32) × (Nat → Int32) => zSO (zkk f0 g0) (zkk u.1 u.2) lo hi) (fun u => z2 dA q1 q2 u.1 u.2) (dC, dI) dA (z2 dA q1 q2 f0 g0) H0.size) 0 0 (va_A (z2 dA q1 q2 f0 g0) H0.size)
set_option maxHeartbeats 4000000 in
set_option maxRecDepth 100000 in
theorem quick_step (l : Launch) (dC : Nat → ClassId) (dI : Nat → Nat → Nat) (dA : ClassId) (d : Nat) (ihd : zQk l dC dI dA d) : zQk l dC dI dA (d + 1) := by
  intro H0 q1 q2 f0 g0 lo hi hlh h48 hd
  refine zMet_v (cc := cX2_quickSort) (maxL := 16) (by decide) (Nat.le_of_ble_eq_true rfl) ?_
  intro p e s m args below meth c A Q hx hb hml hts hown hnm hK hP hD hS hA hend ls hl
  have hl : lv_has ls 16 [(0, .ref q1), (1, .ref q2), (2, .int (zI ((lo : Int)))), (3, .int (zI ((hi : Int))))] := hl
  have hown : s.vm.findClass RX2 = some m.cls := hown
  have hP : va_P (dC, dI) vwCl [(q1, .inl (dA, 48, .inl (f0))), (q2, .inl (dA, 48, .inl (g0)))] H0 := hP
  have hD : va_D A [(q1, .inl (dA, 48, .inl (f0))), (q2, .inl (dA, 48, .inl (g0)))] := hD
  refine lv_iload_n hx hb dX2_quickSort_0 rfl (lv_at hl 3 rfl) ?_
  refine lv_iload_n hx hb dX2_quickSort_1 rfl (lv_at hl 2 rfl) ?_
  refine kz_isub (E := ((hi - lo : Nat) : Int)) hx hb dX2_quickSort_2 (by omega) ?_
  refine lv_istore (lv' := [(4, .int (zI (((hi - lo : Nat) : Int)))), (0, .ref q1), (1, .ref q2), (2, .int (zI ((lo : Int)))), (3, .int (zI ((hi : Int))))]) hx hb dX2_quickSort_3 hl (by decide) rfl (fun ls hl => ?_)
  refine lv_iload hx hb dX2_quickSort_5 (lv_at hl 0 rfl) ?_
  refine lv_bipush (v := zI (16)) hx hb dX2_quickSort_7 (by decide +kernel) ?_
  refine kz_icmp_ge (tgt := 20) hx hb dX2_quickSort_9 (by decide) (by omega) (fun c1 => ?_) (fun c1 => ?_)
  · skip
    have c1 : 16 ≤ hi - lo := by omega
    refine lv_iload_n hx hb dX2_quickSort_20 rfl (lv_at hl 3 rfl) ?_
    refine lv_iload hx hb dX2_quickSort_21 (lv_at hl 0 rfl) ?_
    refine lv_iconst (v := zI (2)) hx hb dX2_quickSort_23 rfl ?_
    refine kz_idiv (hi - lo) (2) hx hb dX2_quickSort_24 (zI_c (by omega)) (zI_c (by omega)) (by omega) (by omega) (by omega) ?_
    refine kz_iadd (E := ((lo + (hi - lo) / 2 : Nat) : Int)) hx hb dX2_quickSort_25 (by omega) ?_
    refine lv_istore (lv' := [(5, .int (zI (((lo + (hi - lo) / 2 : Nat) : Int)))), (4, .int (zI (((hi - lo : Nat) : Int)))), (0, .ref q1), (1, .ref q2), (2, .int (zI ((lo : Int)))), (3, .int (zI ((hi : Int))))]) hx hb dX2_quickSort_26 hl (by decide) rfl (fun ls hl => ?_)
    refine lv_iload_n hx hb dX2_quickSort_28 rfl (lv_at hl 4 rfl) ?_
    refine lv_istore (lv' := [(6, .int (zI ((lo : Int)))), (5, .int (zI (((lo + (hi - lo) / 2 : Nat) : Int)))), (4, .int (zI (((hi - lo : Nat) : Int)))), (0, .ref q1), (1, .ref q2), (2, .int (zI ((lo : Int)))), (3, .int (zI ((hi : Int))))]) hx hb dX2_quickSort_29 hl (by decide) rfl (fun ls hl => ?_)
    refine lv_iload_n hx hb dX2_quickSort_31 rfl (lv_at hl 6 rfl) ?_
    refine lv_iconst (v := zI (1)) hx hb dX2_quickSort_32 rfl ?_
    refine kz_isub (E := ((hi - 1 : Nat) : Int)) hx hb dX2_quickSort_33 (by omega) ?_
    refine lv_istore (lv' := [(7, .int (zI (((hi - 1 : Nat) : Int)))), (6, .int (zI ((lo : Int)))), (5, .int (zI (((lo + (hi - lo) / 2 : Nat) : Int)))), (4, .int (zI (((hi - lo : Nat) : Int)))), (0, .ref q1), (1, .ref q2), (2, .int (zI ((lo : Int)))), (3, .int (zI ((hi : Int))))]) hx hb dX2_quickSort_34 hl (by decide) rfl (fun ls hl => ?_)
    refine lv_iload hx hb dX2_quickSort_36 (lv_at hl 3 rfl) ?_
    refine lv_sipush (v := zI (128)) hx hb dX2_quickSort_38 (by decide +kernel) ?_
    refine kz_icmp_le (tgt := 112) hx hb dX2_quickSort_41 (by decide) (by omega) (fun c2 => ?_) (fun c2 => ?_)
    · skip
      refine lv_aload_n hx hb dX2_quickSort_112 rfl (lv_at hl 4 rfl) ?_
      refine lv_aload_n hx hb dX2_quickSort_113 rfl (lv_at hl 5 rfl) ?_
      refine lv_iload hx hb dX2_quickSort_114 (lv_at hl 1 rfl) ?_
      refine lv_iload hx hb dX2_quickSort_116 (lv_at hl 2 rfl) ?_
      refine lv_iload hx hb dX2_quickSort_118 (lv_at hl 0 rfl) ?_
      refine zcallSp (As := [.ref q1, .ref q2, .int (zI ((lo : Int))), .int (zI (((lo + (hi - lo) / 2 : Nat) : Int))), .int (zI (((hi - 1 : Nat) : Int)))]) (rest := []) ⟨hx, hb, hml, hown, hts⟩ [0, 1] (met_med3 l dC dI dA H0 q1 q2 f0 g0 lo (lo + (hi - lo) / 2) (hi - 1) (by omega) (by omega) (by omega)) (va_cwS 5 hts (lw_S q78 q79 q7 q80) rfl rfl rfl (by decide +kernel) ⟨(by show 1 + 1 ≤ d + 1 + 1; omega), (by show 8 + (9 + 11) + 21 ≤ 40 * (d + 1) + 20; omega)⟩) hK hP hD hS rfl (by decide) rfl rfl hl.1 (Nat.le_of_ble_eq_true rfl) dX2_quickSort_120 ⟨Nat.le_of_ble_eq_true rfl, Nat.le_of_ble_eq_true rfl⟩ (fun r locs hw hS => ?_)
      obtain ⟨kp, rfl, hkp⟩ := hw
      have hk1 : lo ≤ kp := by omega
      have hk2 : kp < hi := by omega
      clear hkp
      refine lv_istore (lv' := [(5, .int (zI ((kp : Int)))), (7, .int (zI (((hi - 1 : Nat) : Int)))), (6, .int (zI ((lo : Int)))), (4, .int (zI (((hi - lo : Nat) : Int)))), (0, .ref q1), (1, .ref q2), (2, .int (zI ((lo : Int)))), (3, .int (zI ((hi : Int))))]) hx hb dX2_quickSort_123 hl (by decide) rfl (fun ls hl => ?_)
      refine lv_aload_n hx hb dX2_quickSort_125 rfl (lv_at hl 4 rfl) ?_
      refine lv_iload hx hb dX2_quickSort_126 (lv_at hl 0 rfl) ?_
      refine kz_iald (k := kp) hx hb hK hP 0 0 rfl rfl (by omega) (by omega) (by omega) dX2_quickSort_128 ?_
      refine lv_istore (lv' := [(8, .int (f0 kp)), (5, .int (zI ((kp : Int)))), (7, .int (zI (((hi - 1 : Nat) : Int)))), (6, .int (zI ((lo : Int)))), (4, .int (zI (((hi - lo : Nat) : Int)))), (0, .ref q1), (1, .ref q2), (2, .int (zI ((lo : Int)))), (3, .int (zI ((hi : Int))))]) hx hb dX2_quickSort_129 hl (by decide) rfl (fun ls hl => ?_)
      refine lv_aload_n hx hb dX2_quickSort_131 rfl (lv_at hl 6 rfl) ?_
      refine lv_iload hx hb dX2_quickSort_132 (lv_at hl 1 rfl) ?_
      refine kz_iald (k := kp) hx hb hK hP 1 0 rfl rfl (by omega) (by omega) (by omega) dX2_quickSort_134 ?_
      refine lv_istore (lv' := [(9, .int (g0 kp)), (8, .int (f0 kp)), (5, .int (zI ((kp : Int)))), (7, .int (zI (((hi - 1 : Nat) : Int)))), (6, .int (zI ((lo : Int)))), (4, .int (zI (((hi - lo : Nat) : Int)))), (0, .ref q1), (1, .ref q2), (2, .int (zI ((lo : Int)))), (3, .int (zI ((hi : Int))))]) hx hb dX2_quickSort_135 hl (by decide) rfl (fun ls hl => ?_)
      refine lv_iload_n hx hb dX2_quickSort_137 rfl (lv_at hl 8 rfl) ?_
      refine lv_istore (lv' := [(10, .int (zI ((lo : Int)))), (9, .int (g0 kp)), (8, .int (f0 kp)), (5, .int (zI ((kp : Int)))), (7, .int (zI (((hi - 1 : Nat) : Int)))), (6, .int (zI ((lo : Int)))), (4, .int (zI (((hi - lo : Nat) : Int)))), (0, .ref q1), (1, .ref q2), (2, .int (zI ((lo : Int)))), (3, .int (zI ((hi : Int))))]) hx hb dX2_quickSort_138 hl (by decide) rfl (fun ls hl => ?_)
      refine lv_iload hx hb dX2_quickSort_140 (lv_at hl 0 rfl) ?_
      refine lv_istore (lv' := [(11, .int (zI ((lo : Int)))), (10, .int (zI ((lo : Int)))), (9, .int (g0 kp)), (8, .int (f0 kp)), (5, .int (zI ((kp : Int)))), (7, .int (zI (((hi - 1 : Nat) : Int)))), (6, .int (zI ((lo : Int)))), (4, .int (zI (((hi - lo : Nat) : Int)))), (0, .ref q1), (1, .ref q2), (2, .int (zI ((lo : Int)))), (3, .int (zI ((hi : Int))))]) hx hb dX2_quickSort_142 hl (by decide) rfl (fun ls hl => ?_)
      refine lv_iload_n hx hb dX2_quickSort_144 rfl (lv_at hl 11 rfl) ?_
      refine lv_iconst (v := zI (1)) hx hb dX2_quickSort_145 rfl ?_
      refine kz_isub (E := (hi : Int) - 1) hx hb dX2_quickSort_146 (by omega) ?_
      refine lv_istore (lv' := [(12, .int (zI ((hi : Int) - 1))), (11, .int (zI ((lo : Int)))), (10, .int (zI ((lo : Int)))), (9, .int (g0 kp)), (8, .int (f0 kp)), (5, .int (zI ((kp : Int)))), (7, .int (zI (((hi - 1 : Nat) : Int)))), (6, .int (zI ((lo : Int)))), (4, .int (zI (((hi - lo : Nat) : Int)))), (0, .ref q1), (1, .ref q2), (2, .int (zI ((lo : Int)))), (3, .int (zI ((hi : Int))))]) hx hb dX2_quickSort_147 hl (by decide) rfl (fun ls hl => ?_)
      refine lv_iload hx hb dX2_quickSort_149 (lv_at hl 0 rfl) ?_
      refine lv_istore (lv' := [(13, .int (zI ((hi : Int) - 1))), (12, .int (zI ((hi : Int) - 1))), (11, .int (zI ((lo : Int)))), (10, .int (zI ((lo : Int)))), (9, .int (g0 kp)), (8, .int (f0 kp)), (5, .int (zI ((kp : Int)))), (7, .int (zI (((hi - 1 : Nat) : Int)))), (6, .int (zI ((lo : Int)))), (4, .int (zI (((hi - lo : Nat) : Int)))), (0, .ref q1), (1, .ref q2), (2, .int (zI ((lo : Int)))), (3, .int (zI ((hi : Int))))]) hx hb dX2_quickSort_151 hl (by decide) rfl (fun ls hl => ?_)
      obtain ⟨V, hV⟩ : ∃ z, z = zk2 (f0 kp) (g0 kp) := ⟨_, rfl⟩
      have hVx : ∃ j, lo ≤ j ∧ j < hi ∧ zkk f0 g0 j = V := ⟨kp, hk1, hk2, hV.symm⟩
      have T2 : ∀ (xa xb xd : Nat) (f2 g2 f g : Nat → Int32) (H : Heap) (locs : List Loc) (ls : Array Slot), xb ≤ xd → xd ≤ hi → xd - xb < hi - lo → zPm (zkk f0 g0) (zkk f2 g2) lo hi → zP3 (zkk f2 g2) V lo hi (lo + (xb - xa)) (hi - (xd - xb)) → zSO (zkk f2 g2) (zkk f g) lo (lo + (xb - xa)) → va_P (dC, dI) vwCl [(q1, .inl (dA, 48, .inl (f))), (q2, .inl (dA, 48, .inl (g)))] H → va_D A [(q1, .inl (dA, 48, .inl (f))), (q2, .inl (dA, 48, .inl (g)))] → va_S A H0 H locs → lv_has ls 16 [(0, .ref q1), (1, .ref q2), (2, .int (zI ((lo : Int)))), (3, .int (zI ((hi : Int)))), (8, .int (f0 kp)), (9, .int (g0 kp)), (10, .int (zI ((xa : Int)))), (11, .int (zI ((xb : Int)))), (12, .int (zI ((xb : Int) - 1))), (13, .int (zI ((xd : Int) - 1)))] → W p l e (zr (d + 1 + 1) 0 0 (40 * (d + 1) + 20)) s m args below meth c H locs 0 0 Q (F0 m 389 ls []) := by
        intro xa xb xd f2 g2 f g H locs ls h1 h2 h3 hp h3p hs hP hD hS hl
        refine lv_iload hx hb dX2_quickSort_389 (lv_at hl 9 rfl) ?_
        refine lv_iload hx hb dX2_quickSort_391 (lv_at hl 8 rfl) ?_
        refine kz_isub (E := ((xd - xb : Nat) : Int)) hx hb dX2_quickSort_393 (by omega) ?_
        refine lv_dup hx hb dX2_quickSort_394 rfl ?_
        refine lv_istore (lv' := [(14, .int (zI (((xd - xb : Nat) : Int)))), (0, .ref q1), (1, .ref q2), (2, .int (zI ((lo : Int)))), (3, .int (zI ((hi : Int)))), (8, .int (f0 kp)), (9, .int (g0 kp)), (10, .int (zI ((xa : Int)))), (11, .int (zI ((xb : Int)))), (12, .int (zI ((xb : Int) - 1))), (13, .int (zI ((xd : Int) - 1)))]) hx hb dX2_quickSort_395 hl (by decide) rfl (fun ls hl => ?_)
        refine lv_iconst (v := zI (1)) hx hb dX2_quickSort_397 rfl ?_
        refine kz_icmp_le (tgt := 411) hx hb dX2_quickSort_398 (by decide) (by omega) (fun c3 => ?_) (fun c3 => ?_)
        · skip
          exact hend _ _ _ _ (f, g) dX2_quickSort_411 (zJoin hp h3p hs (zSO_short _ (by omega))) hP hD hS
        · skip
          refine lv_aload_n hx hb dX2_quickSort_401 rfl (lv_at hl 1 rfl) ?_
          refine lv_aload_n hx hb dX2_quickSort_402 rfl (lv_at hl 2 rfl) ?_
          refine lv_iload_n hx hb dX2_quickSort_403 rfl (lv_at hl 4 rfl) ?_
          refine lv_iload hx hb dX2_quickSort_404 (lv_at hl 0 rfl) ?_
          refine kz_isub (E := ((hi - (xd - xb) : Nat) : Int)) hx hb dX2_quickSort_406 (by omega) ?_
          refine lv_iload_n hx hb dX2_quickSort_407 rfl (lv_at hl 4 rfl) ?_
          refine zcallSv (As := [.ref q1, .ref q2, .int (zI (((hi - (xd - xb) : Nat) : Int))), .int (zI ((hi : Int)))]) (rest := []) (wr := []) ⟨hx, hb, hml, hown, hts⟩ [0, 1] [] (ihd H q1 q2 f g (hi - (xd - xb)) hi (by omega) h48 (by omega)) (va_cwS 4 hts (lw_S q90 q70 q7 q71) rfl rfl rfl (by decide +kernel) ⟨(by show d + 1 + 1 ≤ d + 1 + 1; omega), (by show 8 + (16 + 11) + (40 * d + 20) ≤ 40 * (d + 1) + 20; omega)⟩) hK hP hD hS hA rfl rfl (by decide) (by decide) (by decide) rfl rfl hl.1 (Nat.le_of_ble_eq_true rfl) dX2_quickSort_408 ⟨Nat.le_of_ble_eq_true rfl, Nat.le_of_ble_eq_true rfl⟩ (fun u H locs hw hP hD hS => ?_)
          have hP : va_P (dC, dI) vwCl [(q1, .inl (dA, 48, .inl (u.1))), (q2, .inl (dA, 48, .inl (u.2)))] H := hP
          have hD : va_D A [(q1, .inl (dA, 48, .inl (u.1))), (q2, .inl (dA, 48, .inl (u.2)))] := hD
          exact hend _ _ _ _ u dX2_quickSort_411 (zJoin hp h3p hs hw) hP hD hS
      have T1 : ∀ (xa xb xd : Nat) (f g : Nat → Int32) (H : Heap) (locs : List Loc) (ls : Array Slot), zPt (zkk f g) V lo hi xa xb xb xd → zPm (zkk f0 g0) (zkk f g) lo hi → va_P (dC, dI) vwCl [(q1, .inl (dA, 48, .inl (f))), (q2, .inl (dA, 48, .inl (g)))] H → va_D A [(q1, .inl (dA, 48, .inl (f))), (q2, .inl (dA, 48, .inl (g)))] → va_S A H0 H locs → lv_has ls 16 [(0, .ref q1), (1, .ref q2), (2, .int (zI ((lo : Int)))), (3, .int (zI ((hi : Int)))), (8, .int (f0 kp)), (9, .int (g0 kp)), (10, .int (zI ((xa : Int)))), (11, .int (zI ((xb : Int)))), (12, .int (zI ((xb : Int) - 1))), (13, .int (zI ((xd : Int) - 1)))] → W p l e (zr (d + 1 + 1) 0 0 (40 * (d + 1) + 20)) s m args below meth c H locs 0 0 Q (F0 m 311 ls []) := by
        intro xa xb xd f g H locs ls hpt hp hP hD hS hl
        have hsh := zPt_short hpt hp hVx
        obtain ⟨h0, -⟩ := id hpt
        refine lv_iload hx hb dX2_quickSort_311 (lv_at hl 6 rfl) ?_
        refine lv_iload_n hx hb dX2_quickSort_313 rfl (lv_at hl 2 rfl) ?_
        refine kz_isub (E := ((xa - lo : Nat) : Int)) hx hb dX2_quickSort_314 (by omega) ?_
        refine lv_iload hx hb dX2_quickSort_315 (lv_at hl 7 rfl) ?_
        refine lv_iload hx hb dX2_quickSort_317 (lv_at hl 6 rfl) ?_
        refine kz_isub (E := ((xb - xa : Nat) : Int)) hx hb dX2_quickSort_319 (by omega) ?_
        refine kz_mmin (xa - lo) (xb - xa) hx hb (by rw [hml]; exact hl.1.symm) hown hts (by show 1 ≤ d + 1 + 1; omega) (by show 0 + 13 ≤ 40 * (d + 1) + 20; omega) (Nat.le_of_ble_eq_true rfl) (Nat.le_of_ble_eq_true rfl) dX2_quickSort_320 (by omega) (by omega) (by omega) (by omega) ?_
        obtain ⟨s1, hs1⟩ : ∃ z, z = min (xa - lo) (xb - xa) := ⟨_, rfl⟩
        rw [← hs1]
        refine lv_istore (lv' := [(14, .int (zI ((s1 : Int)))), (0, .ref q1), (1, .ref q2), (2, .int (zI ((lo : Int)))), (3, .int (zI ((hi : Int)))), (8, .int (f0 kp)), (9, .int (g0 kp)), (10, .int (zI ((xa : Int)))), (11, .int (zI ((xb : Int)))), (12, .int (zI ((xb : Int) - 1))), (13, .int (zI ((xd : Int) - 1)))]) hx hb dX2_quickSort_323 hl (by decide) rfl (fun ls hl => ?_)
        refine lv_aload_n hx hb dX2_quickSort_325 rfl (lv_at hl 1 rfl) ?_
        refine lv_aload_n hx hb dX2_quickSort_326 rfl (lv_at hl 2 rfl) ?_
        refine lv_iload_n hx hb dX2_quickSort_327 rfl (lv_at hl 3 rfl) ?_
        refine lv_iload hx hb dX2_quickSort_328 (lv_at hl 8 rfl) ?_
        refine lv_iload hx hb dX2_quickSort_330 (lv_at hl 0 rfl) ?_
        refine kz_isub (E := ((xb - s1 : Nat) : Int)) hx hb dX2_quickSort_332 (by omega) ?_
        refine lv_iload hx hb dX2_quickSort_333 (lv_at hl 0 rfl) ?_
        refine zcallSv (As := [.ref q1, .ref q2, .int (zI ((lo : Int))), .int (zI (((xb - s1 : Nat) : Int))), .int (zI ((s1 : Int)))]) (rest := []) (wr := []) ⟨hx, hb, hml, hown, hts⟩ [0, 1] [] (met_swapN l dC dI dA H q1 q2 f g lo (xb - s1) s1 (by omega) (by omega)) (va_cwS 5 hts (lw_S q87 q88 q7 q89) rfl rfl rfl (by decide +kernel) ⟨(by show 1 + 1 ≤ d + 1 + 1; omega), (by show 8 + (6 + 11) + 25 ≤ 40 * (d + 1) + 20; omega)⟩) hK hP hD hS hA rfl rfl (by decide) (by decide) (by decide) rfl rfl hl.1 (Nat.le_of_ble_eq_true rfl) dX2_quickSort_335 ⟨Nat.le_of_ble_eq_true rfl, Nat.le_of_ble_eq_true rfl⟩ (fun u H locs hw hP hD hS => ?_)
        have hP : va_P (dC, dI) vwCl [(q1, .inl (dA, 48, .inl (zsN f lo (xb - s1) s1))), (q2, .inl (dA, 48, .inl (zsN g lo (xb - s1) s1)))] H := hP
        have hD : va_D A [(q1, .inl (dA, 48, .inl (zsN f lo (xb - s1) s1))), (q2, .inl (dA, 48, .inl (zsN g lo (xb - s1) s1)))] := hD
        refine lv_iload hx hb dX2_quickSort_338 (lv_at hl 10 rfl) ?_
        refine lv_iload hx hb dX2_quickSort_340 (lv_at hl 9 rfl) ?_
        refine kz_isub (E := ((xd - xb : Nat) : Int)) hx hb dX2_quickSort_342 (by omega) ?_
        refine lv_iload_n hx hb dX2_quickSort_343 rfl (lv_at hl 4 rfl) ?_
        refine lv_iload hx hb dX2_quickSort_344 (lv_at hl 10 rfl) ?_
        refine kz_isub (E := (hi : Int) - ((xd : Int) - 1)) hx hb dX2_quickSort_346 (by omega) ?_
        refine lv_iconst (v := zI (1)) hx hb dX2_quickSort_347 rfl ?_
        refine kz_isub (E := ((hi - xd : Nat) : Int)) hx hb dX2_quickSort_348 (by omega) ?_
        refine kz_mmin (xd - xb) (hi - xd) hx hb (by rw [hml]; exact hl.1.symm) hown hts (by show 1 ≤ d + 1 + 1; omega) (by show 0 + 13 ≤ 40 * (d + 1) + 20; omega) (Nat.le_of_ble_eq_true rfl) (Nat.le_of_ble_eq_true rfl) dX2_quickSort_349 (by omega) (by omega) (by omega) (by omega) ?_
        obtain ⟨t1, ht1⟩ : ∃ z, z = min (xd - xb) (hi - xd) := ⟨_, rfl⟩
        rw [← ht1]
        refine lv_istore (lv' := [(14, .int (zI ((t1 : Int)))), (0, .ref q1), (1, .ref q2), (2, .int (zI ((lo : Int)))), (3, .int (zI ((hi : Int)))), (8, .int (f0 kp)), (9, .int (g0 kp)), (10, .int (zI ((xa : Int)))), (11, .int (zI ((xb : Int)))), (12, .int (zI ((xb : Int) - 1))), (13, .int (zI ((xd : Int) - 1)))]) hx hb dX2_quickSort_352 hl (by decide) rfl (fun ls hl => ?_)
        refine lv_aload_n hx hb dX2_quickSort_354 rfl (lv_at hl 1 rfl) ?_
        refine lv_aload_n hx hb dX2_quickSort_355 rfl (lv_at hl 2 rfl) ?_
        refine lv_iload hx hb dX2_quickSort_356 (lv_at hl 8 rfl) ?_
        refine lv_iload_n hx hb dX2_quickSort_358 rfl (lv_at hl 4 rfl) ?_
        refine lv_iload hx hb dX2_quickSort_359 (lv_at hl 0 rfl) ?_
        refine kz_isub (E := ((hi - t1 : Nat) : Int)) hx hb dX2_quickSort_361 (by omega) ?_
        refine lv_iload hx hb dX2_quickSort_362 (lv_at hl 0 rfl) ?_
        refine zcallSv (As := [.ref q1, .ref q2, .int (zI ((xb : Int))), .int (zI (((hi - t1 : Nat) : Int))), .int (zI ((t1 : Int)))]) (rest := []) (wr := []) ⟨hx, hb, hml, hown, hts⟩ [0, 1] [] (met_swapN l dC dI dA H q1 q2 (zsN f lo (xb - s1) s1) (zsN g lo (xb - s1) s1) xb (hi - t1) t1 (by omega) (by omega)) (va_cwS 5 hts (lw_S q87 q88 q7 q89) rfl rfl rfl (by decide +kernel) ⟨(by show 1 + 1 ≤ d + 1 + 1; omega), (by show 8 + (6 + 11) + 25 ≤ 40 * (d + 1) + 20; omega)⟩) hK hP hD hS hA rfl rfl (by decide) (by decide) (by decide) rfl rfl hl.1 (Nat.le_of_ble_eq_true rfl) dX2_quickSort_364 ⟨Nat.le_of_ble_eq_true rfl, Nat.le_of_ble_eq_true rfl⟩ (fun u H locs hw hP hD hS => ?_)
        have hP : va_P (dC, dI) vwCl [(q1, .inl (dA, 48, .inl (zsN (zsN f lo (xb - s1) s1) xb (hi - t1) t1))), (q2, .inl (dA, 48, .inl (zsN (zsN g lo (xb - s1) s1) xb (hi - t1) t1)))] H := hP
        have hD : va_D A [(q1, .inl (dA, 48, .inl (zsN (zsN f lo (xb - s1) s1) xb (hi - t1) t1))), (q2, .inl (dA, 48, .inl (zsN (zsN g lo (xb - s1) s1) xb (hi - t1) t1)))] := hD
        have hk2 : zkk (zsN (zsN f lo (xb - s1) s1) xb (hi - t1) t1) (zsN (zsN g lo (xb - s1) s1) xb (hi - t1) t1) = zvK (zvK (zkk f g) lo (xb - s1) s1) xb (hi - t1) t1 := by rw [zkk_vs, zkk_vs]
        have hp2 := zPm_trans hp (zPt_perm hpt hs1 ht1)
        have h3p := zPt_three hpt hs1 ht1
        rw [← hk2] at hp2 h3p
        generalize hF2 : zsN (zsN f lo (xb - s1) s1) xb (hi - t1) t1 = f2 at hP hD hp2 h3p
        generalize hG2 : zsN (zsN g lo (xb - s1) s1) xb (hi - t1) t1 = g2 at hP hD hp2 h3p
        refine lv_iload hx hb dX2_quickSort_367 (lv_at hl 8 rfl) ?_
        refine lv_iload hx hb dX2_quickSort_369 (lv_at hl 7 rfl) ?_
        refine kz_isub (E := ((xb - xa : Nat) : Int)) hx hb dX2_quickSort_371 (by omega) ?_
        refine lv_dup hx hb dX2_quickSort_372 rfl ?_
        refine lv_istore (lv' := [(14, .int (zI (((xb - xa : Nat) : Int)))), (0, .ref q1), (1, .ref q2), (2, .int (zI ((lo : Int)))), (3, .int (zI ((hi : Int)))), (8, .int (f0 kp)), (9, .int (g0 kp)), (10, .int (zI ((xa : Int)))), (11, .int (zI ((xb : Int)))), (12, .int (zI ((xb : Int) - 1))), (13, .int (zI ((xd : Int) - 1)))]) hx hb dX2_quickSort_373 hl (by decide) rfl (fun ls hl => ?_)
        refine lv_iconst (v := zI (1)) hx hb dX2_quickSort_375 rfl ?_
        refine kz_icmp_le (tgt := 389) hx hb dX2_quickSort_376 (by decide) (by omega) (fun c3 => ?_) (fun c3 => ?_)
        · skip
          exact T2 xa xb xd f2 g2 f2 g2 H locs ls (by omega) (by omega) (by omega) hp2 h3p (zSO_short _ (by omega)) hP hD hS (lv_sub hl [1, 2, 3, 4, 5, 6, 7, 8, 9, 10] rfl)
        · skip
          refine lv_aload_n hx hb dX2_quickSort_379 rfl (lv_at hl 1 rfl) ?_
          refine lv_aload_n hx hb dX2_quickSort_380 rfl (lv_at hl 2 rfl) ?_
          refine lv_iload_n hx hb dX2_quickSort_381 rfl (lv_at hl 3 rfl) ?_
          refine lv_iload_n hx hb dX2_quickSort_382 rfl (lv_at hl 3 rfl) ?_
          refine lv_iload hx hb dX2_quickSort_383 (lv_at hl 0 rfl) ?_
          refine kz_iadd (E := ((lo + (xb - xa) : Nat) : Int)) hx hb dX2_quickSort_385 (by omega) ?_
          refine zcallSv (As := [.ref q1, .ref q2, .int (zI ((lo : Int))), .int (zI (((lo + (xb - xa) : Nat) : Int)))]) (rest := []) (wr := []) ⟨hx, hb, hml, hown, hts⟩ [0, 1] [] (ihd H q1 q2 f2 g2 lo (lo + (xb - xa)) (by omega) (by omega) (by omega)) (va_cwS 4 hts (lw_S q90 q70 q7 q71) rfl rfl rfl (by decide +kernel) ⟨(by show d + 1 + 1 ≤ d + 1 + 1; omega), (by show 8 + (16 + 11) + (40 * d + 20) ≤ 40 * (d + 1) + 20; omega)⟩) hK hP hD hS hA rfl rfl (by decide) (by decide) (by decide) rfl rfl hl.1 (Nat.le_of_ble_eq_true rfl) dX2_quickSort_386 ⟨Nat.le_of_ble_eq_true rfl, Nat.le_of_ble_eq_true rfl⟩ (fun u H locs hw hP hD hS => ?_)
          have hP : va_P (dC, dI) vwCl [(q1, .inl (dA, 48, .inl (u.1))), (q2, .inl (dA, 48, .inl (u.2)))] H := hP
          have hD : va_D A [(q1, .inl (dA, 48, .inl (u.1))), (q2, .inl (dA, 48, .inl (u.2)))] := hD
          exact T2 xa xb xd f2 g2 u.1 u.2 H locs ls (by omega) (by omega) (by omega) hp2 h3p hw hP hD hS (lv_sub hl [1, 2, 3, 4, 5, 6, 7, 8, 9, 10] rfl)
      have AB : ∀ n : Nat, (∀ (xa xb xc xd : Nat) (f g : Nat → Int32) (H : Heap) (locs : List Loc) (ls : Array Slot), xc - xb < n → zPt (zkk f g) V lo hi xa xb xc xd → zPm (zkk f0 g0) (zkk f g) lo hi → va_P (dC, dI) vwCl [(q1, .inl (dA, 48, .inl (f))), (q2, .inl (dA, 48, .inl (g)))] H → va_D A [(q1, .inl (dA, 48, .inl (f))), (q2, .inl (dA, 48, .inl (g)))] → va_S A H0 H locs → lv_has ls 16 [(0, .ref q1), (1, .ref q2), (2, .int (zI ((lo : Int)))), (3, .int (zI ((hi : Int)))), (8, .int (f0 kp)), (9, .int (g0 kp)), (10, .int (zI ((xa : Int)))), (11, .int (zI ((xb : Int)))), (12, .int (zI ((xc : Int) - 1))), (13, .int (zI ((xd : Int) - 1)))] → W p l e (zr (d + 1 + 1) 0 0 (40 * (d + 1) + 20)) s m args below meth c H locs 0 0 Q (F0 m 153 ls [])) ∧ (∀ (xa xb xc xd : Nat) (f g : Nat → Int32) (H : Heap) (locs : List Loc) (ls : Array Slot), xc - xb < n → (xb < xc → V < zkk f g xb) → zPt (zkk f g) V lo hi xa xb xc xd → zPm (zkk f0 g0) (zkk f g) lo hi → va_P (dC, dI) vwCl [(q1, .inl (dA, 48, .inl (f))), (q2, .inl (dA, 48, .inl (g)))] H → va_D A [(q1, .inl (dA, 48, .inl (f))), (q2, .inl (dA, 48, .inl (g)))] → va_S A H0 H locs → lv_has ls 16 [(0, .ref q1), (1, .ref q2), (2, .int (zI ((lo : Int)))), (3, .int (zI ((hi : Int)))), (8, .int (f0 kp)), (9, .int (g0 kp)), (10, .int (zI ((xa : Int)))), (11, .int (zI ((xb : Int)))), (12, .int (zI ((xc : Int) - 1))), (13, .int (zI ((xd : Int) - 1)))] → W p l e (zr (d + 1 + 1) 0 0 (40 * (d + 1) + 20)) s m args below meth c H locs 0 0 Q (F0 m 218 ls [])) := by
        intro n
        induction n with
        | zero => exact ⟨fun xa xb xc xd f g H locs ls h => absurd h (Nat.not_lt_zero _), fun xa xb xc xd f g H locs ls h => absurd h (Nat.not_lt_zero _)⟩
        | succ n ih =>
          obtain ⟨ihA, ihB⟩ := ih
          have B1 : ∀ (xa xb xc xd : Nat) (f g : Nat → Int32) (H : Heap) (locs : List Loc) (ls : Array Slot), xc - xb < n + 1 → (xb < xc → V < zkk f g xb) → zPt (zkk f g) V lo hi xa xb xc xd → zPm (zkk f0 g0) (zkk f g) lo hi → va_P (dC, dI) vwCl [(q1, .inl (dA, 48, .inl (f))), (q2, .inl (dA, 48, .inl (g)))] H → va_D A [(q1, .inl (dA, 48, .inl (f))), (q2, .inl (dA, 48, .inl (g)))] → va_S A H0 H locs → lv_has ls 16 [(0, .ref q1), (1, .ref q2), (2, .int (zI ((lo : Int)))), (3, .int (zI ((hi : Int)))), (8, .int (f0 kp)), (9, .int (g0 kp)), (10, .int (zI ((xa : Int)))), (11, .int (zI ((xb : Int)))), (12, .int (zI ((xc : Int) - 1))), (13, .int (zI ((xd : Int) - 1)))] → W p l e (zr (d + 1 + 1) 0 0 (40 * (d + 1) + 20)) s m args below meth c H locs 0 0 Q (F0 m 218 ls []) := by
            intro xa xb xc xd f g H locs ls hn hb0 hpt hp hP hD hS hl
            obtain ⟨h0, -⟩ := id hpt
            refine lv_iload hx hb dX2_quickSort_218 (lv_at hl 8 rfl) ?_
            refine lv_iload hx hb dX2_quickSort_220 (lv_at hl 7 rfl) ?_
            refine kz_icmp_lt (tgt := 283) hx hb dX2_quickSort_222 (by decide) (by omega) (fun c3 => ?_) (fun c3 => ?_)
            · skip
              have e : xc = xb := by omega
              subst e
              refine lv_iload hx hb dX2_quickSort_283 (lv_at hl 7 rfl) ?_
              refine lv_iload hx hb dX2_quickSort_285 (lv_at hl 8 rfl) ?_
              refine kz_icmp_le (tgt := 293) hx hb dX2_quickSort_287 (by decide) (by omega) (fun c4 => ?_) (fun c4 => ?_)
              · skip
                omega
              · skip
                refine lv_goto (tgt := 311) hx hb dX2_quickSort_290 (by decide) ?_
                exact T1 xa xc xd f g H locs ls hpt hp hP hD hS (lv_sub hl [0, 1, 2, 3, 4, 5, 6, 7, 8, 9] rfl)
            · skip
              obtain ⟨xk, rfl⟩ : ∃ z, xc = z + 1 := ⟨xc - 1, by omega⟩
              have J : ∀ (r : Int32) (locs : List Loc) (ls : Array Slot), ((r < 0 ↔ zkk f g xk < V) ∧ (r = 0 ↔ zkk f g xk = V) ∧ (0 < r ↔ V < zkk f g xk)) → va_S A H0 H locs → lv_has ls 16 [(0, .ref q1), (1, .ref q2), (2, .int (zI ((lo : Int)))), (3, .int (zI ((hi : Int)))), (8, .int (f0 kp)), (9, .int (g0 kp)), (10, .int (zI ((xa : Int)))), (11, .int (zI ((xb : Int)))), (12, .int (zI (((xk + 1 : Nat) : Int) - 1))), (13, .int (zI ((xd : Int) - 1)))] → W p l e (zr (d + 1 + 1) 0 0 (40 * (d + 1) + 20)) s m args below meth c H locs 0 0 Q (F0 m 254 ls [.int (r)]) := by
                intro r locs ls hr hS hl
                refine lv_dup hx hb dX2_quickSort_254 rfl ?_
                refine lv_istore (lv' := [(14, .int (r)), (0, .ref q1), (1, .ref q2), (2, .int (zI ((lo : Int)))), (3, .int (zI ((hi : Int)))), (8, .int (f0 kp)), (9, .int (g0 kp)), (10, .int (zI ((xa : Int)))), (11, .int (zI ((xb : Int)))), (12, .int (zI (((xk + 1 : Nat) : Int) - 1))), (13, .int (zI ((xd : Int) - 1)))]) hx hb dX2_quickSort_255 hl (by decide) rfl (fun ls hl => ?_)
                refine lv_if_lt (tgt := 283) hx hb dX2_quickSort_257 (by decide) (fun c4 => ?_) (fun c4 => ?_)
                · skip
                  have hkx := hr.1.mp c4
                  have hbk : xb < xk := by
                    rcases Nat.lt_or_ge xb xk with w | w
                    · exact w
                    · exfalso
                      have e : xb = xk := by omega
                      subst e
                      have := hb0 (by omega)
                      omega
                  refine lv_iload hx hb dX2_quickSort_283 (lv_at hl 8 rfl) ?_
                  refine lv_iload hx hb dX2_quickSort_285 (lv_at hl 9 rfl) ?_
                  refine kz_icmp_le (tgt := 293) hx hb dX2_quickSort_287 (by decide) (by omega) (fun c5 => ?_) (fun c5 => ?_)
                  · skip
                    refine lv_aload_n hx hb dX2_quickSort_293 rfl (lv_at hl 1 rfl) ?_
                    refine lv_aload_n hx hb dX2_quickSort_294 rfl (lv_at hl 2 rfl) ?_
                    refine lv_iload hx hb dX2_quickSort_295 (lv_at hl 8 rfl) ?_
                    refine kz_iinc (E := ((xb + 1 : Nat) : Int)) (lv' := [(11, .int (zI (((xb + 1 : Nat) : Int)))), (14, .int (r)), (0, .ref q1), (1, .ref q2), (2, .int (zI ((lo : Int)))), (3, .int (zI ((hi : Int)))), (8, .int (f0 kp)), (9, .int (g0 kp)), (10, .int (zI ((xa : Int)))), (12, .int (zI (((xk + 1 : Nat) : Int) - 1))), (13, .int (zI ((xd : Int) - 1)))]) hx hb dX2_quickSort_297 hl (k := 8) rfl (by omega) (by decide) rfl (fun ls hl => ?_)
                    refine lv_iload hx hb dX2_quickSort_300 (lv_at hl 9 rfl) ?_
                    refine kz_iinc (E := (xk : Int) - 1) (lv' := [(12, .int (zI ((xk : Int) - 1))), (11, .int (zI (((xb + 1 : Nat) : Int)))), (14, .int (r)), (0, .ref q1), (1, .ref q2), (2, .int (zI ((lo : Int)))), (3, .int (zI ((hi : Int)))), (8, .int (f0 kp)), (9, .int (g0 kp)), (10, .int (zI ((xa : Int)))), (13, .int (zI ((xd : Int) - 1)))]) hx hb dX2_quickSort_302 hl (k := 9) rfl (by omega) (by decide) rfl (fun ls hl => ?_)
                    refine W.eq (g2 := F0 m 305 ls [.int (zI ((xk : Int))), .int (zI ((xb : Int))), .ref q2, .ref q1]) (by rw [show zI (((xk + 1 : Nat) : Int) - 1) = zI (xk : Int) from zI_c (by omega)]) ?_
                    refine zcallSv (As := [.ref q1, .ref q2, .int (zI ((xb : Int))), .int (zI ((xk : Int)))]) (rest := []) (wr := []) ⟨hx, hb, hml, hown, hts⟩ [0, 1] [] (met_swap l dC dI dA H q1 q2 f g xb xk (by omega) (by omega)) (va_cwS 4 hts (lw_S q81 q82 q7 q83) rfl rfl rfl (by decide +kernel) ⟨(by show 0 + 1 ≤ d + 1 + 1; omega), (by show 8 + (6 + 11) + 0 ≤ 40 * (d + 1) + 20; omega)⟩) hK hP hD hS hA rfl rfl (by decide) (by decide) (by decide) rfl rfl hl.1 (Nat.le_of_ble_eq_true rfl) dX2_quickSort_305 ⟨Nat.le_of_ble_eq_true rfl, Nat.le_of_ble_eq_true rfl⟩ (fun u H locs hw hP hD hS => ?_)
                    have hP : va_P (dC, dI) vwCl [(q1, .inl (dA, 48, .inl (zsw f xb xk))), (q2, .inl (dA, 48, .inl (zsw g xb xk)))] H := hP
                    have hD : va_D A [(q1, .inl (dA, 48, .inl (zsw f xb xk))), (q2, .inl (dA, 48, .inl (zsw g xb xk)))] := hD
                    refine lv_goto (tgt := 153) hx hb dX2_quickSort_308 (by decide) ?_
                    exact ihA xa (xb + 1) xk xd (zsw f xb xk) (zsw g xb xk) H locs ls (by omega) (by rw [zkk_sw]; exact zPt_sw hpt hbk (hb0 (by omega)) hkx) (by rw [zkk_sw]; exact zPm_trans hp (zPm_sw _ (by omega) (by omega) (by omega) (by omega))) hP hD hS (lv_sub hl [3, 4, 5, 6, 7, 8, 9, 1, 0, 10] rfl)
                  · skip
                    omega
                · skip
                  refine lv_iload hx hb dX2_quickSort_260 (lv_at hl 0 rfl) ?_
                  refine lv_if_ne (tgt := 277) hx hb dX2_quickSort_262 (by decide) (fun c5 => ?_) (fun c5 => ?_)
                  · skip
                    have hgt : V < zkk f g xk := by
                      have a1 : ¬ zkk f g xk < V := fun z => c4 (hr.1.mpr z)
                      have a2 : ¬ zkk f g xk = V := fun z => c5 (hr.2.1.mpr z)
                      omega
                    refine kz_iinc (E := (xk : Int) - 1) (lv' := [(12, .int (zI ((xk : Int) - 1))), (14, .int (r)), (0, .ref q1), (1, .ref q2), (2, .int (zI ((lo : Int)))), (3, .int (zI ((hi : Int)))), (8, .int (f0 kp)), (9, .int (g0 kp)), (10, .int (zI ((xa : Int)))), (11, .int (zI ((xb : Int)))), (13, .int (zI ((xd : Int) - 1)))]) hx hb dX2_quickSort_277 hl (k := 9) rfl (by omega) (by decide) rfl (fun ls hl => ?_)
                    refine lv_goto (tgt := 218) hx hb dX2_quickSort_280 (by decide) ?_
                    exact ihB xa xb xk xd f g H locs ls (by omega) (fun _ => hb0 (by omega)) (zPt_gt hpt (by omega) hgt) hp hP hD hS (lv_sub hl [2, 3, 4, 5, 6, 7, 8, 9, 0, 10] rfl)
                  · skip
                    have heq : zkk f g xk = V := hr.2.1.mp c5
                    obtain ⟨xe, rfl⟩ : ∃ z, xd = z + 1 := ⟨xd - 1, by omega⟩
                    refine lv_aload_n hx hb dX2_quickSort_265 rfl (lv_at hl 1 rfl) ?_
                    refine lv_aload_n hx hb dX2_quickSort_266 rfl (lv_at hl 2 rfl) ?_
                    refine lv_iload hx hb dX2_quickSort_267 (lv_at hl 9 rfl) ?_
                    refine lv_iload hx hb dX2_quickSort_269 (lv_at hl 10 rfl) ?_
                    refine kz_iinc (E := (xe : Int) - 1) (lv' := [(13, .int (zI ((xe : Int) - 1))), (14, .int (r)), (0, .ref q1), (1, .ref q2), (2, .int (zI ((lo : Int)))), (3, .int (zI ((hi : Int)))), (8, .int (f0 kp)), (9, .int (g0 kp)), (10, .int (zI ((xa : Int)))), (11, .int (zI ((xb : Int)))), (12, .int (zI (((xk + 1 : Nat) : Int) - 1)))]) hx hb dX2_quickSort_271 hl (k := 10) rfl (by omega) (by decide) rfl (fun ls hl => ?_)
                    refine W.eq (g2 := F0 m 274 ls [.int (zI ((xe : Int))), .int (zI ((xk : Int))), .ref q2, .ref q1]) (by rw [show zI (((xk + 1 : Nat) : Int) - 1) = zI (xk : Int) from zI_c (by omega), show zI (((xe + 1 : Nat) : Int) - 1) = zI (xe : Int) from zI_c (by omega)]) ?_
                    refine zcallSv (As := [.ref q1, .ref q2, .int (zI ((xk : Int))), .int (zI ((xe : Int)))]) (rest := []) (wr := []) ⟨hx, hb, hml, hown, hts⟩ [0, 1] [] (met_swap l dC dI dA H q1 q2 f g xk xe (by omega) (by omega)) (va_cwS 4 hts (lw_S q81 q82 q7 q83) rfl rfl rfl (by decide +kernel) ⟨(by show 0 + 1 ≤ d + 1 + 1; omega), (by show 8 + (6 + 11) + 0 ≤ 40 * (d + 1) + 20; omega)⟩) hK hP hD hS hA rfl rfl (by decide) (by decide) (by decide) rfl rfl hl.1 (Nat.le_of_ble_eq_true rfl) dX2_quickSort_274 ⟨Nat.le_of_ble_eq_true rfl, Nat.le_of_ble_eq_true rfl⟩ (fun u H locs hw hP hD hS => ?_)
                    have hP : va_P (dC, dI) vwCl [(q1, .inl (dA, 48, .inl (zsw f xk xe))), (q2, .inl (dA, 48, .inl (zsw g xk xe)))] H := hP
                    have hD : va_D A [(q1, .inl (dA, 48, .inl (zsw f xk xe))), (q2, .inl (dA, 48, .inl (zsw g xk xe)))] := hD
                    refine kz_iinc (E := (xk : Int) - 1) (lv' := [(12, .int (zI ((xk : Int) - 1))), (13, .int (zI ((xe : Int) - 1))), (14, .int (r)), (0, .ref q1), (1, .ref q2), (2, .int (zI ((lo : Int)))), (3, .int (zI ((hi : Int)))), (8, .int (f0 kp)), (9, .int (g0 kp)), (10, .int (zI ((xa : Int)))), (11, .int (zI ((xb : Int))))]) hx hb dX2_quickSort_277 hl (k := 10) rfl (by omega) (by decide) rfl (fun ls hl => ?_)
                    refine lv_goto (tgt := 218) hx hb dX2_quickSort_280 (by decide) ?_
                    exact ihB xa xb xk xe (zsw f xk xe) (zsw g xk xe) H locs ls (by omega) (fun z => by rw [zkk_sw, zswK_o _ (by omega) (by omega)]; exact hb0 (by omega)) (by rw [zkk_sw]; exact zPt_eqR hpt (by omega) heq) (by rw [zkk_sw]; exact zPm_trans hp (zPm_sw _ (by omega) (by omega) (by omega) (by omega))) hP hD hS (lv_sub hl [3, 4, 5, 6, 7, 8, 9, 10, 0, 1] rfl)
              refine lv_aload_n hx hb dX2_quickSort_225 rfl (lv_at hl 0 rfl) ?_
              refine lv_iload hx hb dX2_quickSort_226 (lv_at hl 8 rfl) ?_
              refine kz_iald (k := xk) hx hb hK hP 0 0 rfl rfl (by omega) (by omega) (by omega) dX2_quickSort_228 ?_
              refine lv_iload hx hb dX2_quickSort_229 (lv_at hl 4 rfl) ?_
              refine zcallSp (As := [.int (f xk), .int (f0 kp)]) (rest := []) ⟨hx, hb, hml, hown, hts⟩ [] (met_compare l dC dI dA H _ _) (va_cwS 2 hts (lw_S q75 q76 q8 q77) rfl rfl rfl (by decide +kernel) ⟨(by show 0 + 1 ≤ d + 1 + 1; omega), (by show 8 + (2 + 11) + 0 ≤ 40 * (d + 1) + 20; omega)⟩) hK hP hD hS rfl (by decide) rfl rfl hl.1 (Nat.le_of_ble_eq_true rfl) dX2_quickSort_231 ⟨Nat.le_of_ble_eq_true rfl, Nat.le_of_ble_eq_true rfl⟩ (fun r locs hw hS => ?_)
              obtain rfl : r = zcmp (f xk) (f0 kp) := hw
              refine lv_dup hx hb dX2_quickSort_234 rfl ?_
              refine lv_istore (lv' := [(15, .int (zcmp (f xk) (f0 kp))), (0, .ref q1), (1, .ref q2), (2, .int (zI ((lo : Int)))), (3, .int (zI ((hi : Int)))), (8, .int (f0 kp)), (9, .int (g0 kp)), (10, .int (zI ((xa : Int)))), (11, .int (zI ((xb : Int)))), (12, .int (zI (((xk + 1 : Nat) : Int) - 1))), (13, .int (zI ((xd : Int) - 1)))]) hx hb dX2_quickSort_235 hl (by decide) rfl (fun ls hl => ?_)
              refine lv_if_ne (tgt := 252) hx hb dX2_quickSort_237 (by decide) (fun c4 => ?_) (fun c4 => ?_)
              · skip
                refine lv_iload hx hb dX2_quickSort_252 (lv_at hl 0 rfl) ?_
                exact J _ locs ls (by rw [hV]; exact zcmp_n c4) hS (lv_sub hl [1, 2, 3, 4, 5, 6, 7, 8, 9, 10] rfl)
              · skip
                refine lv_aload_n hx hb dX2_quickSort_240 rfl (lv_at hl 2 rfl) ?_
                refine lv_iload hx hb dX2_quickSort_241 (lv_at hl 9 rfl) ?_
                refine kz_iald (k := xk) hx hb hK hP 1 0 rfl rfl (by omega) (by omega) (by omega) dX2_quickSort_243 ?_
                refine lv_iload hx hb dX2_quickSort_244 (lv_at hl 6 rfl) ?_
                refine zcallSp (As := [.int (g xk), .int (g0 kp)]) (rest := []) ⟨hx, hb, hml, hown, hts⟩ [] (met_compare l dC dI dA H _ _) (va_cwS 2 hts (lw_S q75 q76 q8 q77) rfl rfl rfl (by decide +kernel) ⟨(by show 0 + 1 ≤ d + 1 + 1; omega), (by show 8 + (2 + 11) + 0 ≤ 40 * (d + 1) + 20; omega)⟩) hK hP hD hS rfl (by decide) rfl rfl hl.1 (Nat.le_of_ble_eq_true rfl) dX2_quickSort_246 ⟨Nat.le_of_ble_eq_true rfl, Nat.le_of_ble_eq_true rfl⟩ (fun r2 locs hw2 hS => ?_)
                obtain rfl : r2 = zcmp (g xk) (g0 kp) := hw2
                refine lv_goto (tgt := 254) hx hb dX2_quickSort_249 (by decide) ?_
                exact J _ locs ls (by rw [hV]; exact zcmp_e c4) hS (lv_sub hl [1, 2, 3, 4, 5, 6, 7, 8, 9, 10] rfl)
          refine ⟨?_, B1⟩
          intro xa xb xc xd f g H locs ls hn hpt hp hP hD hS hl
          obtain ⟨h0, -⟩ := id hpt
          refine lv_iload hx hb dX2_quickSort_153 (lv_at hl 7 rfl) ?_
          refine lv_iload hx hb dX2_quickSort_155 (lv_at hl 8 rfl) ?_
          refine kz_icmp_gt (tgt := 218) hx hb dX2_quickSort_157 (by decide) (by omega) (fun c3 => ?_) (fun c3 => ?_)
          · skip
            exact B1 xa xb xc xd f g H locs ls hn (fun z => by omega) hpt hp hP hD hS (lv_sub hl [0, 1, 2, 3, 4, 5, 6, 7, 8, 9] rfl)
          · skip
            have hbc : xb < xc := by omega
            have J : ∀ (r : Int32) (locs : List Loc) (ls : Array Slot), ((r < 0 ↔ zkk f g xb < V) ∧ (r = 0 ↔ zkk f g xb = V) ∧ (0 < r ↔ V < zkk f g xb)) → va_S A H0 H locs → lv_has ls 16 [(0, .ref q1), (1, .ref q2), (2, .int (zI ((lo : Int)))), (3, .int (zI ((hi : Int)))), (8, .int (f0 kp)), (9, .int (g0 kp)), (10, .int (zI ((xa : Int)))), (11, .int (zI ((xb : Int)))), (12, .int (zI ((xc : Int) - 1))), (13, .int (zI ((xd : Int) - 1)))] → W p l e (zr (d + 1 + 1) 0 0 (40 * (d + 1) + 20)) s m args below meth c H locs 0 0 Q (F0 m 189 ls [.int (r)]) := by
              intro r locs ls hr hS hl
              refine lv_dup hx hb dX2_quickSort_189 rfl ?_
              refine lv_istore (lv' := [(14, .int (r)), (0, .ref q1), (1, .ref q2), (2, .int (zI ((lo : Int)))), (3, .int (zI ((hi : Int)))), (8, .int (f0 kp)), (9, .int (g0 kp)), (10, .int (zI ((xa : Int)))), (11, .int (zI ((xb : Int)))), (12, .int (zI ((xc : Int) - 1))), (13, .int (zI ((xd : Int) - 1)))]) hx hb dX2_quickSort_190 hl (by decide) rfl (fun ls hl => ?_)
              refine lv_if_gt (tgt := 218) hx hb dX2_quickSort_192 (by decide) (fun c4 => ?_) (fun c4 => ?_)
              · skip
                exact B1 xa xb xc xd f g H locs ls hn (fun _ => hr.2.2.mp c4) hpt hp hP hD hS (lv_sub hl [1, 2, 3, 4, 5, 6, 7, 8, 9, 10] rfl)
              · skip
                refine lv_iload hx hb dX2_quickSort_195 (lv_at hl 0 rfl) ?_
                refine lv_if_ne (tgt := 212) hx hb dX2_quickSort_197 (by decide) (fun c5 => ?_) (fun c5 => ?_)
                · skip
                  have hlt : zkk f g xb < V := by
                    have a1 : ¬ V < zkk f g xb := fun z => c4 (hr.2.2.mpr z)
                    have a2 : ¬ zkk f g xb = V := fun z => c5 (hr.2.1.mpr z)
                    omega
                  refine kz_iinc (E := ((xb + 1 : Nat) : Int)) (lv' := [(11, .int (zI (((xb + 1 : Nat) : Int)))), (14, .int (r)), (0, .ref q1), (1, .ref q2), (2, .int (zI ((lo : Int)))), (3, .int (zI ((hi : Int)))), (8, .int (f0 kp)), (9, .int (g0 kp)), (10, .int (zI ((xa : Int)))), (12, .int (zI ((xc : Int) - 1))), (13, .int (zI ((xd : Int) - 1)))]) hx hb dX2_quickSort_212 hl (k := 8) rfl (by omega) (by decide) rfl (fun ls hl => ?_)
                  refine lv_goto (tgt := 153) hx hb dX2_quickSort_215 (by decide) ?_
                  exact ihA xa (xb + 1) xc xd f g H locs ls (by omega) (zPt_lt hpt hbc hlt) hp hP hD hS (lv_sub hl [2, 3, 4, 5, 6, 7, 8, 0, 9, 10] rfl)
                · skip
                  have heq : zkk f g xb = V := hr.2.1.mp c5
                  refine lv_aload_n hx hb dX2_quickSort_200 rfl (lv_at hl 1 rfl) ?_
                  refine lv_aload_n hx hb dX2_quickSort_201 rfl (lv_at hl 2 rfl) ?_
                  refine lv_iload hx hb dX2_quickSort_202 (lv_at hl 7 rfl) ?_
                  refine kz_iinc (E := ((xa + 1 : Nat) : Int)) (lv' := [(10, .int (zI (((xa + 1 : Nat) : Int)))), (14, .int (r)), (0, .ref q1), (1, .ref q2), (2, .int (zI ((lo : Int)))), (3, .int (zI ((hi : Int)))), (8, .int (f0 kp)), (9, .int (g0 kp)), (11, .int (zI ((xb : Int)))), (12, .int (zI ((xc : Int) - 1))), (13, .int (zI ((xd : Int) - 1)))]) hx hb dX2_quickSort_204 hl (k := 7) rfl (by omega) (by decide) rfl (fun ls hl => ?_)
                  refine lv_iload hx hb dX2_quickSort_207 (lv_at hl 8 rfl) ?_
                  refine zcallSv (As := [.ref q1, .ref q2, .int (zI ((xa : Int))), .int (zI ((xb : Int)))]) (rest := []) (wr := []) ⟨hx, hb, hml, hown, hts⟩ [0, 1] [] (met_swap l dC dI dA H q1 q2 f g xa xb (by omega) (by omega)) (va_cwS 4 hts (lw_S q81 q82 q7 q83) rfl rfl rfl (by decide +kernel) ⟨(by show 0 + 1 ≤ d + 1 + 1; omega), (by show 8 + (6 + 11) + 0 ≤ 40 * (d + 1) + 20; omega)⟩) hK hP hD hS hA rfl rfl (by decide) (by decide) (by decide) rfl rfl hl.1 (Nat.le_of_ble_eq_true rfl) dX2_quickSort_209 ⟨Nat.le_of_ble_eq_true rfl, Nat.le_of_ble_eq_true rfl⟩ (fun u H locs hw hP hD hS => ?_)
                  have hP : va_P (dC, dI) vwCl [(q1, .inl (dA, 48, .inl (zsw f xa xb))), (q2, .inl (dA, 48, .inl (zsw g xa xb)))] H := hP
                  have hD : va_D A [(q1, .inl (dA, 48, .inl (zsw f xa xb))), (q2, .inl (dA, 48, .inl (zsw g xa xb)))] := hD
                  refine kz_iinc (E := ((xb + 1 : Nat) : Int)) (lv' := [(11, .int (zI (((xb + 1 : Nat) : Int)))), (10, .int (zI (((xa + 1 : Nat) : Int)))), (14, .int (r)), (0, .ref q1), (1, .ref q2), (2, .int (zI ((lo : Int)))), (3, .int (zI ((hi : Int)))), (8, .int (f0 kp)), (9, .int (g0 kp)), (12, .int (zI ((xc : Int) - 1))), (13, .int (zI ((xd : Int) - 1)))]) hx hb dX2_quickSort_212 hl (k := 8) rfl (by omega) (by decide) rfl (fun ls hl => ?_)
                  refine lv_goto (tgt := 153) hx hb dX2_quickSort_215 (by decide) ?_
                  exact ihA (xa + 1) (xb + 1) xc xd (zsw f xa xb) (zsw g xa xb) H locs ls (by omega) (by rw [zkk_sw]; exact zPt_eqL hpt hbc heq) (by rw [zkk_sw]; exact zPm_trans hp (zPm_sw _ (by omega) (by omega) (by omega) (by omega))) hP hD hS (lv_sub hl [3, 4, 5, 6, 7, 8, 1, 0, 9, 10] rfl)
            refine lv_aload_n hx hb dX2_quickSort_160 rfl (lv_at hl 0 rfl) ?_
            refine lv_iload hx hb dX2_quickSort_161 (lv_at hl 7 rfl) ?_
            refine kz_iald (k := xb) hx hb hK hP 0 0 rfl rfl (by omega) (by omega) (by omega) dX2_quickSort_163 ?_
            refine lv_iload hx hb dX2_quickSort_164 (lv_at hl 4 rfl) ?_
            refine zcallSp (As := [.int (f xb), .int (f0 kp)]) (rest := []) ⟨hx, hb, hml, hown, hts⟩ [] (met_compare l dC dI dA H _ _) (va_cwS 2 hts (lw_S q75 q76 q8 q77) rfl rfl rfl (by decide +kernel) ⟨(by show 0 + 1 ≤ d + 1 + 1; omega), (by show 8 + (2 + 11) + 0 ≤ 40 * (d + 1) + 20; omega)⟩) hK hP hD hS rfl (by decide) rfl rfl hl.1 (Nat.le_of_ble_eq_true rfl) dX2_quickSort_166 ⟨Nat.le_of_ble_eq_true rfl, Nat.le_of_ble_eq_true rfl⟩ (fun r locs hw hS => ?_)
            obtain rfl : r = zcmp (f xb) (f0 kp) := hw
            refine lv_dup hx hb dX2_quickSort_169 rfl ?_
            refine lv_istore (lv' := [(15, .int (zcmp (f xb) (f0 kp))), (0, .ref q1), (1, .ref q2), (2, .int (zI ((lo : Int)))), (3, .int (zI ((hi : Int)))), (8, .int (f0 kp)), (9, .int (g0 kp)), (10, .int (zI ((xa : Int)))), (11, .int (zI ((xb : Int)))), (12, .int (zI ((xc : Int) - 1))), (13, .int (zI ((xd : Int) - 1)))]) hx hb dX2_quickSort_170 hl (by decide) rfl (fun ls hl => ?_)
            refine lv_if_ne (tgt := 187) hx hb dX2_quickSort_172 (by decide) (fun c4 => ?_) (fun c4 => ?_)
            · skip
              refine lv_iload hx hb dX2_quickSort_187 (lv_at hl 0 rfl) ?_
              exact J _ locs ls (by rw [hV]; exact zcmp_n c4) hS (lv_sub hl [1, 2, 3, 4, 5, 6, 7, 8, 9, 10] rfl)
            · skip
              refine lv_aload_n hx hb dX2_quickSort_175 rfl (lv_at hl 2 rfl) ?_
              refine lv_iload hx hb dX2_quickSort_176 (lv_at hl 8 rfl) ?_
              refine kz_iald (k := xb) hx hb hK hP 1 0 rfl rfl (by omega) (by omega) (by omega) dX2_quickSort_178 ?_
              refine lv_iload hx hb dX2_quickSort_179 (lv_at hl 6 rfl) ?_
              refine zcallSp (As := [.int (g xb), .int (g0 kp)]) (rest := []) ⟨hx, hb, hml, hown, hts⟩ [] (met_compare l dC dI dA H _ _) (va_cwS 2 hts (lw_S q75 q76 q8 q77) rfl rfl rfl (by decide +kernel) ⟨(by show 0 + 1 ≤ d + 1 + 1; omega), (by show 8 + (2 + 11) + 0 ≤ 40 * (d + 1) + 20; omega)⟩) hK hP hD hS rfl (by decide) rfl rfl hl.1 (Nat.le_of_ble_eq_true rfl) dX2_quickSort_181 ⟨Nat.le_of_ble_eq_true rfl, Nat.le_of_ble_eq_true rfl⟩ (fun r2 locs hw2 hS => ?_)
              obtain rfl : r2 = zcmp (g xb) (g0 kp) := hw2
              refine lv_goto (tgt := 189) hx hb dX2_quickSort_184 (by decide) ?_
              exact J _ locs ls (by rw [hV]; exact zcmp_e c4) hS (lv_sub hl [1, 2, 3, 4, 5, 6, 7, 8, 9, 10] rfl)
      exact (AB (hi - lo + 1)).1 lo lo hi hi f0 g0 H0 locs ls (by omega) (zPt_0 _ _ hlh) (zPm_refl _ _ _) hP hD hS (lv_sub hl [10, 11, 12, 13, 5, 4, 3, 2, 1, 0] rfl)
    · skip
      omega
  · skip
    have c1 : hi - lo < 16 := by omega
    refine lv_aload_n hx hb dX2_quickSort_12 rfl (lv_at hl 1 rfl) ?_
    refine lv_aload_n hx hb dX2_quickSort_13 rfl (lv_at hl 2 rfl) ?_
    refine lv_iload_n hx hb dX2_quickSort_14 rfl (lv_at hl 3 rfl) ?_
    refine lv_iload_n hx hb dX2_quickSort_15 rfl (lv_at hl 4 rfl) ?_
    refine zcallSv (As := [.ref q1, .ref q2, .int (zI ((lo : Int))), .int (zI ((hi : Int)))]) (rest := []) (wr := []) ⟨hx, hb, hml, hown, hts⟩ [0, 1] [] (met_sel l dC dI dA H0 q1 q2 f0 g0 lo hi hlh h48) (va_cwS 4 hts (lw_S q72 q73 q7 q74) rfl rfl rfl (by decide +kernel) ⟨(by show 1 + 1 ≤ d + 1 + 1; omega), (by show 8 + (8 + 11) + 21 ≤ 40 * (d + 1) + 20; omega)⟩) hK hP hD hS hA rfl rfl (by decide) (by decide) (by decide) rfl rfl hl.1 (Nat.le_of_ble_eq_true rfl) dX2_quickSort_16 ⟨Nat.le_of_ble_eq_true rfl, Nat.le_of_ble_eq_true rfl⟩ (fun u H locs hw hP hD hS => ?_)
    have hP : va_P (dC, dI) vwCl [(q1, .inl (dA, 48, .inl (u.1))), (q2, .inl (dA, 48, .inl (u.2)))] H := hP
    have hD : va_D A [(q1, .inl (dA, 48, .inl (u.1))), (q2, .inl (dA, 48, .inl (u.2)))] := hD
    exact hend _ _ _ _ u dX2_quickSort_19 hw hP hD hS
theorem met_quick (l : Launch) (dC : Nat → ClassId) (dI : Nat → Nat → Nat) (dA : ClassId) : ∀ d : Nat, zQk l dC dI dA d
  | 0 => fun H0 q1 q2 f0 g0 lo hi h1 h2 h3 => absurd h3 (Nat.not_lt_zero _)
  | d + 1 => quick_step l dC dI dA d (met_quick l dC dI dA d)
end
section
set_option maxHeartbeats 4000000 in
set_option maxRecDepth 100000 in
/-- radixSort of a short range: quickSort -/
theorem met_radix (l : Launch) (dC : Nat → ClassId) (dI : Nat → Nat → Nat) (dA : ClassId) (H0 : Heap) (q1 q2 : Nat) (f0 g0 : Nat → Int32) (lo hi : Nat) (hlh : lo ≤ hi) (h48 : hi ≤ 48) : Met l yX2_radixSort (ws_ yX2_radixSort cX2_radixSort 24 none) (zr 51 0 0 2100) (zPc [.ref q1, .ref q2, .int (zI (lo : Int)), .int (zI (hi : Int))] H0 (dC, dI) dA (z2 dA q1 q2 f0 g0)) (zQv (fun u : (Nat → Int32) × (Nat → Int32) => zSO (zkk f0 g0) (zkk u.1 u.2) lo hi) (fun u => z2 dA q1 q2 u.1 u.2) (dC, dI) dA (z2 dA q1 q2 f0 g0) H0.size) 0 0 (va_A (z2 dA q1 q2 f0 g0) H0.size) := by
  refine zMet_v (cc := cX2_radixSort) (maxL := 24) (by decide) (Nat.le_of_ble_eq_true rfl) ?_
  intro p e s m args below meth c A Q hx hb hml hts hown hnm hK hP hD hS hA hend ls hl
  have hl : lv_has ls 24 [(0, .ref q1), (1, .ref q2), (2, .int (zI ((lo : Int)))), (3, .int (zI ((hi : Int))))] := hl
  have hown : s.vm.findClass RX2 = some m.cls := hown
  have hP : va_P (dC, dI) vwCl [(q1, .inl (dA, 48, .inl (f0))), (q2, .inl (dA, 48, .inl (g0)))] H0 := hP
  have hD : va_D A [(q1, .inl (dA, 48, .inl (f0))), (q2, .inl (dA, 48, .inl (g0)))] := hD
  refine lv_iload_n hx hb dX2_radixSort_0 rfl (lv_at hl 3 rfl) ?_
  refine lv_iload_n hx hb dX2_radixSort_1 rfl (lv_at hl 2 rfl) ?_
  refine kz_isub (E := (hi : Int) - (lo : Int)) hx hb dX2_radixSort_2 (by omega) ?_
  refine lv_sipush (v := zI (1024)) hx hb dX2_radixSort_3 (by decide +kernel) ?_
  refine kz_icmp_ge (tgt := 17) hx hb dX2_radixSort_6 (by decide) (by omega) (fun c1 => ?_) (fun c1 => ?_)
  · skip
    omega
  · skip
    refine lv_aload_n hx hb dX2_radixSort_9 rfl (lv_at hl 0 rfl) ?_
    refine lv_aload_n hx hb dX2_radixSort_10 rfl (lv_at hl 1 rfl) ?_
    refine lv_iload_n hx hb dX2_radixSort_11 rfl (lv_at hl 2 rfl) ?_
    refine lv_iload_n hx hb dX2_radixSort_12 rfl (lv_at hl 3 rfl) ?_
    refine zcallSv (As := [.ref q1, .ref q2, .int (zI ((lo : Int))), .int (zI ((hi : Int)))]) (rest := []) (wr := []) ⟨hx, hb, hml, hown, hts⟩ [0, 1] [] (met_quick l dC dI dA 49 H0 q1 q2 f0 g0 lo hi hlh h48 (by omega)) (va_cwS 4 hts (lw_S q90 q70 q7 q71) rfl rfl rfl (by decide +kernel) ⟨Nat.le_of_ble_eq_true rfl, Nat.le_of_ble_eq_true rfl⟩) hK hP hD hS hA rfl rfl (by decide) (by decide) (by decide) rfl rfl hl.1 (Nat.le_of_ble_eq_true rfl) dX2_radixSort_13 ⟨Nat.le_of_ble_eq_true rfl, Nat.le_of_ble_eq_true rfl⟩ (fun u H locs hw hP hD hS => ?_)
    have hP : va_P (dC, dI) vwCl [(q1, .inl (dA, 48, .inl (u.1))), (q2, .inl (dA, 48, .inl (u.2)))] H := hP
    have hD : va_D A [(q1, .inl (dA, 48, .inl (u.1))), (q2, .inl (dA, 48, .inl (u.2)))] := hD
    exact hend _ _ _ _ u dX2_radixSort_16 hw hP hD hS
end
section
abbrev z3 (dA : ClassId) (q3 q1 q2 : Nat) (r f g : Nat → Int32) : va_W := [(q3, .inl (dA, 48, .inl r)), (q1, .inl (dA, 48, .inl f)), (q2, .inl (dA, 48, .inl g))]
/-- what the indirect sort leaves: each place at its rank -/
def zIx (f g : Nat → Int32) (lo hi : Nat) (r0 r : Nat → Int32) : Prop := ∀ x, x < 48 → r (zat (zkk f g) lo hi x) = if lo ≤ x ∧ x < hi then zI (x : Int) else r0 x
theorem zIx_of {f g : Nat → Int32} {lo hi i : Nat} {r0 r : Nat → Int32} {pn : Nat → Nat} (h : zOut (zkk f g) lo hi i r pn) (h1 : hi ≤ i) (h48 : hi ≤ 48) (ho : ∀ x, x < lo ∨ hi ≤ x → r x = r0 x) : zIx f g lo hi r0 r := by
  intro x hx48
  by_cases q : lo ≤ x ∧ x < hi
  · rw [if_pos q]
    exact zOut_end h h1 (by omega) q.1 q.2
  · rw [if_neg q, zat_out _ (by omega)]
    exact ho x (by omega)
set_option maxHeartbeats 4000000 in
set_option maxRecDepth 100000 in
/-- insertionSortIndirect, from the places in order -/
theorem met_ins (l : Launch) (dC : Nat → ClassId) (dI : Nat → Nat → Nat) (dA : ClassId) (H0 : Heap) (q3 q1 q2 : Nat) (r0 f g : Nat → Int32) (lo hi : Nat) (hlh : lo ≤ hi) (h48 : hi ≤ 48) (h0 : ∀ x, lo ≤ x → x < hi → r0 x = zI (x : Int)) : Met l yX2_insertionSortIndirect (ws_ yX2_insertionSortIndirect cX2_insertionSortIndirect 9 none) (zr 0 0 0 0) (zPc [.ref q3, .ref q1, .ref q2, .int (zI (lo : Int)), .int (zI (hi : Int))] H0 (dC, dI) dA (z3 dA q3 q1 q2 r0 f g)) (zQv (fun u : Nat → Int32 => zIx f g lo hi r0 u) (fun u => z3 dA q3 q1 q2 u f g) (dC, dI) dA (z3 dA q3 q1 q2 r0 f g) H0.size) 0 0 (va_A (z3 dA q3 q1 q2 r0 f g) H0.size) := by
  refine zMet_v (cc := cX2_insertionSortIndirect) (maxL := 9) (by decide) (Nat.le_of_ble_eq_true rfl) ?_
  intro p e s m args below meth c A Q hx hb hml hts hown hnm hK hP hD hS hA hend ls hl
  have hl : lv_has ls 9 [(0, .ref q3), (1, .ref q1), (2, .ref q2), (3, .int (zI ((lo : Int)))), (4, .int (zI ((hi : Int))))] := hl
  have hown : s.vm.findClass RX2 = some m.cls := hown
  have hP : va_P (dC, dI) vwCl [(q3, .inl (dA, 48, .inl (r0))), (q1, .inl (dA, 48, .inl (f))), (q2, .inl (dA, 48, .inl (g)))] H0 := hP
  have hD : va_D A [(q3, .inl (dA, 48, .inl (r0))), (q1, .inl (dA, 48, .inl (f))), (q2, .inl (dA, 48, .inl (g)))] := hD
  obtain ⟨K, hKe⟩ : ∃ z, z = zkk f g := ⟨_, rfl⟩
  have loop : ∀ (k i : Nat) (r : Nat → Int32) (pn : Nat → Nat) (H : Heap) (locs : List Loc) (ls : Array Slot), hi < i + k → lo < i → i ≤ hi + 1 → zOut K lo hi i r pn → (∀ x, x < lo ∨ hi ≤ x → r x = r0 x) → va_P (dC, dI) vwCl [(q3, .inl (dA, 48, .inl (r))), (q1, .inl (dA, 48, .inl (f))), (q2, .inl (dA, 48, .inl (g)))] H → va_D A [(q3, .inl (dA, 48, .inl (r))), (q1, .inl (dA, 48, .inl (f))), (q2, .inl (dA, 48, .inl (g)))] → va_S A H0 H locs → lv_has ls 9 [(0, .ref q3), (1, .ref q1), (2, .ref q2), (3, .int (zI ((lo : Int)))), (4, .int (zI ((hi : Int)))), (5, .int (zI ((i : Int) - 1)))] → W p l e (zr 0 0 0 0) s m args below meth c H locs 0 0 Q (F0 m 3 ls []) := by
    intro k
    induction k with
    | zero =>
      intro i r pn H locs ls h1 h2 h2b ho hout hP hD hS hl
      refine kz_iinc (E := (i : Int)) (lv' := [(5, .int (zI ((i : Int)))), (0, .ref q3), (1, .ref q1), (2, .ref q2), (3, .int (zI ((lo : Int)))), (4, .int (zI ((hi : Int))))]) hx hb dX2_insertionSortIndirect_3 hl (k := 5) rfl (by omega) (by decide) rfl (fun ls hl => ?_)
      refine lv_iload hx hb dX2_insertionSortIndirect_6 (lv_at hl 0 rfl) ?_
      refine lv_iload hx hb dX2_insertionSortIndirect_8 (lv_at hl 5 rfl) ?_
      refine kz_icmp_ge (tgt := 107) hx hb dX2_insertionSortIndirect_10 (by decide) (by omega) (fun c1 => ?_) (fun c1 => ?_)
      · skip
        exact hend _ _ _ _ r dX2_insertionSortIndirect_107 (zIx_of (by rw [← hKe]; exact ho) (by omega) h48 hout) hP hD hS
      · skip
        omega
    | succ k ih =>
      intro i r pn H locs ls h1 h2 h2b ho hout hP hD hS hl
      refine kz_iinc (E := (i : Int)) (lv' := [(5, .int (zI ((i : Int)))), (0, .ref q3), (1, .ref q1), (2, .ref q2), (3, .int (zI ((lo : Int)))), (4, .int (zI ((hi : Int))))]) hx hb dX2_insertionSortIndirect_3 hl (k := 5) rfl (by omega) (by decide) rfl (fun ls hl => ?_)
      refine lv_iload hx hb dX2_insertionSortIndirect_6 (lv_at hl 0 rfl) ?_
      refine lv_iload hx hb dX2_insertionSortIndirect_8 (lv_at hl 5 rfl) ?_
      refine kz_icmp_ge (tgt := 107) hx hb dX2_insertionSortIndirect_10 (by decide) (by omega) (fun c1 => ?_) (fun c1 => ?_)
      · skip
        exact hend _ _ _ _ r dX2_insertionSortIndirect_107 (zIx_of (by rw [← hKe]; exact ho) (by omega) h48 hout) hP hD hS
      · skip
        have hih : i < hi := by omega
        have ST : ∀ (j : Nat) (r2 : Nat → Int32) (pn2 : Nat → Nat) (H : Heap) (locs : List Loc) (ls : Array Slot), zIns K lo hi i j r2 pn2 → (j = lo ∨ (lo < j ∧ ¬ K i < K (pn2 (j - 1)))) → (∀ x, x < lo ∨ hi ≤ x → r2 x = r0 x) → va_P (dC, dI) vwCl [(q3, .inl (dA, 48, .inl (r2))), (q1, .inl (dA, 48, .inl (f))), (q2, .inl (dA, 48, .inl (g)))] H → va_D A [(q3, .inl (dA, 48, .inl (r2))), (q1, .inl (dA, 48, .inl (f))), (q2, .inl (dA, 48, .inl (g)))] → va_S A H0 H locs → lv_has ls 9 [(0, .ref q3), (1, .ref q1), (2, .ref q2), (3, .int (zI ((lo : Int)))), (4, .int (zI ((hi : Int)))), (5, .int (zI ((i : Int)))), (6, .int (zI ((i : Int)))), (7, .int (zI ((j : Int))))] → W p l e (zr 0 0 0 0) s m args below meth c H locs 0 0 Q (F0 m 98 ls []) := by
          intro j r2 pn2 H locs ls hi2 hst hout2 hP hD hS hl
          obtain ⟨hj, -⟩ := id hi2
          refine lv_aload_n hx hb dX2_insertionSortIndirect_98 rfl (lv_at hl 0 rfl) ?_
          refine lv_iload hx hb dX2_insertionSortIndirect_99 (lv_at hl 7 rfl) ?_
          refine lv_iload hx hb dX2_insertionSortIndirect_101 (lv_at hl 6 rfl) ?_
          refine kz_iast (k := j) hx hb hK hP hD hS 0 0 rfl rfl (by omega) (by omega) (by omega) dX2_insertionSortIndirect_103 (fun H locs hP hD hS => ?_)
          have hP : va_P (dC, dI) vwCl [(q3, .inl (dA, 48, .inl (upd r2 j (zI ((i : Int)))))), (q1, .inl (dA, 48, .inl (f))), (q2, .inl (dA, 48, .inl (g)))] H := hP
          have hD : va_D A [(q3, .inl (dA, 48, .inl (upd r2 j (zI ((i : Int)))))), (q1, .inl (dA, 48, .inl (f))), (q2, .inl (dA, 48, .inl (g)))] := hD
          refine lv_goto (tgt := 3) hx hb dX2_insertionSortIndirect_104 (by decide) ?_
          refine ih (i + 1) (upd r2 j (zI (i : Int))) (zuN pn2 j i) H locs ls (by omega) (by omega) (by omega) (zIns_end hi2 (by omega) hst) (fun x hx2 => ?_) hP hD hS ?_
          · show (if x = j then zI (i : Int) else r2 x) = r0 x
            rw [if_neg (by omega)]
            exact hout2 x hx2
          · rw [show (((i + 1 : Nat) : Int) - 1) = (i : Int) by omega]
            exact lv_sub hl [0, 1, 2, 3, 4, 5] rfl
        have IN : ∀ (k2 j : Nat) (r2 : Nat → Int32) (pn2 : Nat → Nat) (H : Heap) (locs : List Loc) (ls : Array Slot), j ≤ k2 → lo < j → zIns K lo hi i j r2 pn2 → (∀ x, x < lo ∨ hi ≤ x → r2 x = r0 x) → va_P (dC, dI) vwCl [(q3, .inl (dA, 48, .inl (r2))), (q1, .inl (dA, 48, .inl (f))), (q2, .inl (dA, 48, .inl (g)))] H → va_D A [(q3, .inl (dA, 48, .inl (r2))), (q1, .inl (dA, 48, .inl (f))), (q2, .inl (dA, 48, .inl (g)))] → va_S A H0 H locs → lv_has ls 9 [(0, .ref q3), (1, .ref q1), (2, .ref q2), (3, .int (zI ((lo : Int)))), (4, .int (zI ((hi : Int)))), (5, .int (zI ((i : Int)))), (6, .int (zI ((i : Int)))), (7, .int (zI ((j : Int)))), (8, .int (zI (((pn2 (j - 1) : Nat) : Int))))] → W p l e (zr 0 0 0 0) s m args below meth c H locs 0 0 Q (F0 m 31 ls []) := by
          intro k2
          induction k2 with
          | zero =>
            intro j r2 pn2 H locs ls g1 g2
            omega
          | succ k2 ih2 =>
            intro j r2 pn2 H locs ls g1 g2 hi2 hout2 hP hD hS hl
            obtain ⟨jj, rfl⟩ : ∃ z, j = z + 1 := ⟨j - 1, by omega⟩
            obtain ⟨a0, a1, a2, a3, -, -⟩ := id hi2
            have hpj := a2 jj (by omega) (by omega) (by omega)
            have hpr := a1 jj (by omega) (by omega)
            rw [show jj + 1 - 1 = jj by omega] at hl
            have SH : K i < K (pn2 jj) → ∀ (ls : Array Slot), lv_has ls 9 [(0, .ref q3), (1, .ref q1), (2, .ref q2), (3, .int (zI ((lo : Int)))), (4, .int (zI ((hi : Int)))), (5, .int (zI ((i : Int)))), (6, .int (zI ((i : Int)))), (7, .int (zI (((jj + 1 : Nat) : Int)))), (8, .int (zI (((pn2 jj : Nat) : Int))))] → W p l e (zr 0 0 0 0) s m args below meth c H locs 0 0 Q (F0 m 64 ls []) := by
              intro hlt ls hl
              have hi3 := zIns_shift hi2 (by omega) (by omega) hlt
              refine lv_aload_n hx hb dX2_insertionSortIndirect_64 rfl (lv_at hl 0 rfl) ?_
              refine lv_iload hx hb dX2_insertionSortIndirect_65 (lv_at hl 7 rfl) ?_
              refine lv_iload hx hb dX2_insertionSortIndirect_67 (lv_at hl 8 rfl) ?_
              refine kz_iast (k := jj + 1) hx hb hK hP hD hS 0 0 rfl rfl (by omega) (by omega) (by omega) dX2_insertionSortIndirect_69 (fun H locs hP hD hS => ?_)
              have hP : va_P (dC, dI) vwCl [(q3, .inl (dA, 48, .inl (upd r2 (jj + 1) (zI (((pn2 jj : Nat) : Int)))))), (q1, .inl (dA, 48, .inl (f))), (q2, .inl (dA, 48, .inl (g)))] H := hP
              have hD : va_D A [(q3, .inl (dA, 48, .inl (upd r2 (jj + 1) (zI (((pn2 jj : Nat) : Int)))))), (q1, .inl (dA, 48, .inl (f))), (q2, .inl (dA, 48, .inl (g)))] := hD
              rw [← hpr] at hP hD
              have hout3 : ∀ x, x < lo ∨ hi ≤ x → upd r2 (jj + 1) (r2 jj) x = r0 x := by
                intro x hx3
                show (if x = jj + 1 then r2 jj else r2 x) = r0 x
                rw [if_neg (by omega)]
                exact hout2 x hx3
              generalize upd r2 (jj + 1) (r2 jj) = r3 at hP hD hi3 hout3
              generalize zuN pn2 (jj + 1) (pn2 jj) = pn3 at hi3
              refine lv_iload_n hx hb dX2_insertionSortIndirect_70 rfl (lv_at hl 3 rfl) ?_
              refine lv_iload hx hb dX2_insertionSortIndirect_71 (lv_at hl 7 rfl) ?_
              refine lv_iconst (v := zI (1)) hx hb dX2_insertionSortIndirect_73 rfl ?_
              refine kz_isub (E := (jj : Int)) hx hb dX2_insertionSortIndirect_74 (by omega) ?_
              refine kz_icmp_ne (tgt := 84) hx hb dX2_insertionSortIndirect_75 (by decide) (by omega) (fun c2 => ?_) (fun c2 => ?_)
              · skip
                obtain ⟨-, b1, -, -, -, -⟩ := id hi3
                have hpr3 := b1 (jj - 1) (by omega) (by omega)
                refine lv_aload_n hx hb dX2_insertionSortIndirect_84 rfl (lv_at hl 0 rfl) ?_
                refine kz_iinc (E := (jj : Int)) (lv' := [(7, .int (zI ((jj : Int)))), (0, .ref q3), (1, .ref q1), (2, .ref q2), (3, .int (zI ((lo : Int)))), (4, .int (zI ((hi : Int)))), (5, .int (zI ((i : Int)))), (6, .int (zI ((i : Int)))), (8, .int (zI (((pn2 jj : Nat) : Int))))]) hx hb dX2_insertionSortIndirect_85 hl (k := 7) rfl (by omega) (by decide) rfl (fun ls hl => ?_)
                refine lv_iload hx hb dX2_insertionSortIndirect_88 (lv_at hl 0 rfl) ?_
                refine lv_iconst (v := zI (1)) hx hb dX2_insertionSortIndirect_90 rfl ?_
                refine kz_isub (E := ((jj - 1 : Nat) : Int)) hx hb dX2_insertionSortIndirect_91 (by omega) ?_
                refine kz_iald (k := jj - 1) hx hb hK hP 0 0 rfl rfl (by omega) (by omega) (by omega) dX2_insertionSortIndirect_92 ?_
                rw [hpr3]
                refine lv_istore (lv' := [(8, .int (zI (((pn3 (jj - 1) : Nat) : Int)))), (7, .int (zI ((jj : Int)))), (0, .ref q3), (1, .ref q1), (2, .ref q2), (3, .int (zI ((lo : Int)))), (4, .int (zI ((hi : Int)))), (5, .int (zI ((i : Int)))), (6, .int (zI ((i : Int))))]) hx hb dX2_insertionSortIndirect_93 hl (by decide) rfl (fun ls hl => ?_)
                refine lv_goto (tgt := 31) hx hb dX2_insertionSortIndirect_95 (by decide) ?_
                exact ih2 jj r3 pn3 H locs ls (by omega) (by omega) hi3 hout3 hP hD hS (lv_sub hl [2, 3, 4, 5, 6, 7, 8, 1, 0] rfl)
              · skip
                refine kz_iinc (E := (jj : Int)) (lv' := [(7, .int (zI ((jj : Int)))), (0, .ref q3), (1, .ref q1), (2, .ref q2), (3, .int (zI ((lo : Int)))), (4, .int (zI ((hi : Int)))), (5, .int (zI ((i : Int)))), (6, .int (zI ((i : Int)))), (8, .int (zI (((pn2 jj : Nat) : Int))))]) hx hb dX2_insertionSortIndirect_78 hl (k := 7) rfl (by omega) (by decide) rfl (fun ls hl => ?_)
                refine lv_goto (tgt := 98) hx hb dX2_insertionSortIndirect_81 (by decide) ?_
                exact ST jj r3 pn3 H locs ls hi3 (Or.inl (by omega)) hout3 hP hD hS (lv_sub hl [1, 2, 3, 4, 5, 6, 7, 0] rfl)
            refine lv_aload_n hx hb dX2_insertionSortIndirect_31 rfl (lv_at hl 1 rfl) ?_
            refine lv_iload hx hb dX2_insertionSortIndirect_32 (lv_at hl 6 rfl) ?_
            refine kz_iald (k := i) hx hb hK hP 1 0 rfl rfl (by omega) (by omega) (by omega) dX2_insertionSortIndirect_34 ?_
            refine lv_aload_n hx hb dX2_insertionSortIndirect_35 rfl (lv_at hl 1 rfl) ?_
            refine lv_iload hx hb dX2_insertionSortIndirect_36 (lv_at hl 8 rfl) ?_
            refine kz_iald (k := pn2 jj) hx hb hK hP 1 0 rfl rfl (by omega) (by omega) (by omega) dX2_insertionSortIndirect_38 ?_
            refine lv_icmp_lt (tgt := 64) hx hb dX2_insertionSortIndirect_39 (by decide) (fun c2 => ?_) (fun c2 => ?_)
            · skip
              exact SH (by rw [hKe]; exact zk_lt1 c2) ls (lv_sub hl [0, 1, 2, 3, 4, 5, 6, 7, 8] rfl)
            · skip
              refine lv_aload_n hx hb dX2_insertionSortIndirect_42 rfl (lv_at hl 1 rfl) ?_
              refine lv_iload hx hb dX2_insertionSortIndirect_43 (lv_at hl 6 rfl) ?_
              refine kz_iald (k := i) hx hb hK hP 1 0 rfl rfl (by omega) (by omega) (by omega) dX2_insertionSortIndirect_45 ?_
              refine lv_aload_n hx hb dX2_insertionSortIndirect_46 rfl (lv_at hl 1 rfl) ?_
              refine lv_iload hx hb dX2_insertionSortIndirect_47 (lv_at hl 8 rfl) ?_
              refine kz_iald (k := pn2 jj) hx hb hK hP 1 0 rfl rfl (by omega) (by omega) (by omega) dX2_insertionSortIndirect_49 ?_
              refine lv_icmp_ne (tgt := 98) hx hb dX2_insertionSortIndirect_50 (by decide) (fun c3 => ?_) (fun c3 => ?_)
              · skip
                exact ST (jj + 1) r2 pn2 H locs ls hi2 (Or.inr ⟨by omega, by rw [show jj + 1 - 1 = jj by omega, hKe]; exact zk_nlt c2 (fun z => absurd z c3)⟩) hout2 hP hD hS (lv_sub hl [0, 1, 2, 3, 4, 5, 6, 7] rfl)
              · skip
                refine lv_aload_n hx hb dX2_insertionSortIndirect_53 rfl (lv_at hl 2 rfl) ?_
                refine lv_iload hx hb dX2_insertionSortIndirect_54 (lv_at hl 6 rfl) ?_
                refine kz_iald (k := i) hx hb hK hP 2 0 rfl rfl (by omega) (by omega) (by omega) dX2_insertionSortIndirect_56 ?_
                refine lv_aload_n hx hb dX2_insertionSortIndirect_57 rfl (lv_at hl 2 rfl) ?_
                refine lv_iload hx hb dX2_insertionSortIndirect_58 (lv_at hl 8 rfl) ?_
                refine kz_iald (k := pn2 jj) hx hb hK hP 2 0 rfl rfl (by omega) (by omega) (by omega) dX2_insertionSortIndirect_60 ?_
                refine lv_icmp_ge (tgt := 98) hx hb dX2_insertionSortIndirect_61 (by decide) (fun c4 => ?_) (fun c4 => ?_)
                · skip
                  exact ST (jj + 1) r2 pn2 H locs ls hi2 (Or.inr ⟨by omega, by rw [show jj + 1 - 1 = jj by omega, hKe]; exact zk_nlt c2 (fun _ => Int32.not_lt.mpr c4)⟩) hout2 hP hD hS (lv_sub hl [0, 1, 2, 3, 4, 5, 6, 7] rfl)
                · skip
                  exact SH (by rw [hKe]; exact zk_lt2 c3 (Int32.not_le.mp c4)) ls (lv_sub hl [0, 1, 2, 3, 4, 5, 6, 7, 8] rfl)
        obtain ⟨hi2, hpi⟩ := zIns_0 ho h2 hih
        obtain ⟨-, a1, -, -, -, -⟩ := id hi2
        have hri : r i = zI (i : Int) := by
          have z := a1 i (by omega) hih
          rw [hpi] at z
          exact z
        have hri1 := a1 (i - 1) (by omega) (by omega)
        refine lv_aload_n hx hb dX2_insertionSortIndirect_13 rfl (lv_at hl 1 rfl) ?_
        refine lv_iload hx hb dX2_insertionSortIndirect_14 (lv_at hl 0 rfl) ?_
        refine kz_iald (k := i) hx hb hK hP 0 0 rfl rfl (by omega) (by omega) (by omega) dX2_insertionSortIndirect_16 ?_
        rw [hri]
        refine lv_istore (lv' := [(6, .int (zI ((i : Int)))), (5, .int (zI ((i : Int)))), (0, .ref q3), (1, .ref q1), (2, .ref q2), (3, .int (zI ((lo : Int)))), (4, .int (zI ((hi : Int))))]) hx hb dX2_insertionSortIndirect_17 hl (by decide) rfl (fun ls hl => ?_)
        refine lv_iload hx hb dX2_insertionSortIndirect_19 (lv_at hl 1 rfl) ?_
        refine lv_istore (lv' := [(7, .int (zI ((i : Int)))), (6, .int (zI ((i : Int)))), (5, .int (zI ((i : Int)))), (0, .ref q3), (1, .ref q1), (2, .ref q2), (3, .int (zI ((lo : Int)))), (4, .int (zI ((hi : Int))))]) hx hb dX2_insertionSortIndirect_21 hl (by decide) rfl (fun ls hl => ?_)
        refine lv_aload_n hx hb dX2_insertionSortIndirect_23 rfl (lv_at hl 3 rfl) ?_
        refine lv_iload hx hb dX2_insertionSortIndirect_24 (lv_at hl 0 rfl) ?_
        refine lv_iconst (v := zI (1)) hx hb dX2_insertionSortIndirect_26 rfl ?_
        refine kz_isub (E := ((i - 1 : Nat) : Int)) hx hb dX2_insertionSortIndirect_27 (by omega) ?_
        refine kz_iald (k := i - 1) hx hb hK hP 0 0 rfl rfl (by omega) (by omega) (by omega) dX2_insertionSortIndirect_28 ?_
        rw [hri1]
        refine lv_istore (lv' := [(8, .int (zI (((pn (i - 1) : Nat) : Int)))), (7, .int (zI ((i : Int)))), (6, .int (zI ((i : Int)))), (5, .int (zI ((i : Int)))), (0, .ref q3), (1, .ref q1), (2, .ref q2), (3, .int (zI ((lo : Int)))), (4, .int (zI ((hi : Int))))]) hx hb dX2_insertionSortIndirect_29 hl (by decide) rfl (fun ls hl => ?_)
        exact IN i i r pn H locs ls (Nat.le_refl _) h2 hi2 hout hP hD hS (lv_sub hl [4, 5, 6, 7, 8, 3, 2, 1, 0] rfl)
  refine lv_iload_n hx hb dX2_insertionSortIndirect_0 rfl (lv_at hl 3 rfl) ?_
  refine lv_istore (lv' := [(5, .int (zI ((lo : Int)))), (0, .ref q3), (1, .ref q1), (2, .ref q2), (3, .int (zI ((lo : Int)))), (4, .int (zI ((hi : Int))))]) hx hb dX2_insertionSortIndirect_1 hl (by decide) rfl (fun ls hl => ?_)
  refine loop (hi + 1) (lo + 1) r0 (fun x => x) H0 [] ls (by omega) (by omega) (by omega) (zOut_0 K h0) (fun _ _ => rfl) hP hD hS ?_
  rw [show (((lo + 1 : Nat) : Int) - 1) = (lo : Int) by omega]
  exact lv_sub hl [1, 2, 3, 4, 5, 0] rfl
set_option maxHeartbeats 4000000 in
set_option maxRecDepth 100000 in
/-- radixSortIndirect of a short range -/
theorem met_rin (l : Launch) (dC : Nat → ClassId) (dI : Nat → Nat → Nat) (dA : ClassId) (H0 : Heap) (q3 q1 q2 : Nat) (r0 f g : Nat → Int32) (lo hi : Nat) (hlh : lo ≤ hi) (h48 : hi ≤ 48) (h0 : ∀ x, lo ≤ x → x < hi → r0 x = zI (x : Int)) : Met l yX2_radixSortIndirect (ws_ yX2_radixSortIndirect cX2_radixSortIndirect 26 none) (zr 1 0 0 28) (zPc [.ref q3, .ref q1, .ref q2, .int (zI (lo : Int)), .int (zI (hi : Int)), .int (zI 1)] H0 (dC, dI) dA (z3 dA q3 q1 q2 r0 f g)) (zQv (fun u : Nat → Int32 => zIx f g lo hi r0 u) (fun u => z3 dA q3 q1 q2 u f g) (dC, dI) dA (z3 dA q3 q1 q2 r0 f g) H0.size) 0 0 (va_A (z3 dA q3 q1 q2 r0 f g) H0.size) := by
  refine zMet_v (cc := cX2_radixSortIndirect) (maxL := 26) (by decide) (Nat.le_of_ble_eq_true rfl) ?_
  intro p e s m args below meth c A Q hx hb hml hts hown hnm hK hP hD hS hA hend ls hl
  have hl : lv_has ls 26 [(0, .ref q3), (1, .ref q1), (2, .ref q2), (3, .int (zI ((lo : Int)))), (4, .int (zI ((hi : Int)))), (5, .int (zI (1)))] := hl
  have hown : s.vm.findClass RX2 = some m.cls := hown
  have hP : va_P (dC, dI) vwCl [(q3, .inl (dA, 48, .inl (r0))), (q1, .inl (dA, 48, .inl (f))), (q2, .inl (dA, 48, .inl (g)))] H0 := hP
  have hD : va_D A [(q3, .inl (dA, 48, .inl (r0))), (q1, .inl (dA, 48, .inl (f))), (q2, .inl (dA, 48, .inl (g)))] := hD
  refine lv_iload hx hb dX2_radixSortIndirect_0 (lv_at hl 4 rfl) ?_
  refine lv_iload_n hx hb dX2_radixSortIndirect_2 rfl (lv_at hl 3 rfl) ?_
  refine kz_isub (E := (hi : Int) - (lo : Int)) hx hb dX2_radixSortIndirect_3 (by omega) ?_
  refine lv_bipush (v := zI (64)) hx hb dX2_radixSortIndirect_4 (by decide +kernel) ?_
  refine kz_icmp_ge (tgt := 19) hx hb dX2_radixSortIndirect_6 (by decide) (by omega) (fun c1 => ?_) (fun c1 => ?_)
  · skip
    omega
  · skip
    refine lv_aload_n hx hb dX2_radixSortIndirect_9 rfl (lv_at hl 0 rfl) ?_
    refine lv_aload_n hx hb dX2_radixSortIndirect_10 rfl (lv_at hl 1 rfl) ?_
    refine lv_aload_n hx hb dX2_radixSortIndirect_11 rfl (lv_at hl 2 rfl) ?_
    refine lv_iload_n hx hb dX2_radixSortIndirect_12 rfl (lv_at hl 3 rfl) ?_
    refine lv_iload hx hb dX2_radixSortIndirect_13 (lv_at hl 4 rfl) ?_
    refine zcallSv (As := [.ref q3, .ref q1, .ref q2, .int (zI ((lo : Int))), .int (zI ((hi : Int)))]) (rest := []) (wr := []) ⟨hx, hb, hml, hown, hts⟩ [0, 1, 2] [] (met_ins l dC dI dA H0 q3 q1 q2 r0 f g lo hi hlh h48 h0) (va_cwS 5 hts (lw_S q105 q106 q7 q107) rfl rfl rfl (by decide +kernel) ⟨Nat.le_of_ble_eq_true rfl, Nat.le_of_ble_eq_true rfl⟩) hK hP hD hS hA rfl rfl (by decide) (by decide) (by decide) rfl rfl hl.1 (Nat.le_of_ble_eq_true rfl) dX2_radixSortIndirect_15 ⟨Nat.le_of_ble_eq_true rfl, Nat.le_of_ble_eq_true rfl⟩ (fun u H locs hw hP hD hS => ?_)
    have hP : va_P (dC, dI) vwCl [(q3, .inl (dA, 48, .inl (u))), (q1, .inl (dA, 48, .inl (f))), (q2, .inl (dA, 48, .inl (g)))] H := hP
    have hD : va_D A [(q3, .inl (dA, 48, .inl (u))), (q1, .inl (dA, 48, .inl (f))), (q2, .inl (dA, 48, .inl (g)))] := hD
    exact hend _ _ _ _ u dX2_radixSortIndirect_18 hw hP hD hS
end
section
/-- an object of either kind and its three arrays -/
abbrev zo (ci : Nat) (dA : ClassId) (h0 q1 q2 q3 : Nat) (f g r : Nat → Int32) : va_W := [(h0, .inr (ci, [.ref q1, .ref q2, .ref q3])), (q1, .inl (dA, 48, .inl f)), (q2, .inl (dA, 48, .inl g)), (q3, .inl (dA, 48, .inl r))]
def zfr (x : Int32) : Nat := zw x % 49
def zto (x t : Int32) : Nat := zfr x + zw t % (49 - zfr x)
theorem zfr_le (x : Int32) : zfr x ≤ 48 := by
  unfold zfr
  omega
theorem zto_le (x t : Int32) : zto x t ≤ 48 := by
  have h1 := zfr_le x
  have h2 := Nat.mod_lt (zw t) (show 0 < 49 - zfr x by omega)
  unfold zto
  omega
theorem zfr_to (x t : Int32) : zfr x ≤ zto x t := Nat.le_add_right _ _
/-- what a sort of pairs leaves: each pair at its rank -/
def zSx (f g : Nat → Int32) (lo hi : Nat) (f2 g2 : Nat → Int32) : Prop := ∀ i, i < 48 → f2 (zat (zkk f g) lo hi i) = f i ∧ g2 (zat (zkk f g) lo hi i) = g i
theorem zSx_of {f g f2 g2 : Nat → Int32} {lo hi : Nat} (h : zSO (zkk f g) (zkk f2 g2) lo hi) (h48 : hi ≤ 48) : zSx f g lo hi f2 g2 := fun i _ => zk2_inj (zSO_at h (by omega) i)
theorem zSx_one {f g f2 g2 f3 g3 : Nat → Int32} {lo hi : Nat} (h48 : hi ≤ 48) (h : zSx f g lo hi f2 g2) (h' : zSx f g lo hi f3 g3) : (∀ k, k < 48 → f3 k = f2 k) ∧ (∀ k, k < 48 → g3 k = g2 k) := by
  constructor
  · intro k hk
    obtain ⟨i, hi', e⟩ := zat_onto (zkk f g) (lo := lo) (hi := hi) (N := 48) (by omega) h48 hk
    rw [← e, (h i hi').1, (h' i hi').1]
  · intro k hk
    obtain ⟨i, hi', e⟩ := zat_onto (zkk f g) (lo := lo) (hi := hi) (N := 48) (by omega) h48 hk
    rw [← e, (h i hi').2, (h' i hi').2]
theorem zIx_one {f g r r2 r3 : Nat → Int32} {lo hi : Nat} (h48 : hi ≤ 48) (h : zIx f g lo hi r r2) (h' : zIx f g lo hi r r3) : ∀ k, k < 48 → r3 k = r2 k := by
  intro k hk
  obtain ⟨i, hi', e⟩ := zat_onto (zkk f g) (lo := lo) (hi := hi) (N := 48) (by omega) h48 hk
  rw [← e, h i hi', h' i hi']

set_option maxHeartbeats 4000000 in
set_option maxRecDepth 100000 in
theorem met0_anew (l : Launch) (dC : Nat → ClassId) (dI : Nat → Nat → Nat) (dA : ClassId) (H0 : Heap) (h0 q1 q2 q3 : Nat) (f g r : Nat → Int32) : Met l yX0_anew (ws_ yX0_anew cX0_anew 2 none) (zr 0 0 0 0) (zPc [.ref h0] H0 (dC, dI) dA (zo 0 dA h0 q1 q2 q3 f g r)) (zQv (fun u : Nat → Int32 => ∀ j, j < 48 → u j = zI (j : Int)) (fun u => zo 0 dA h0 q1 q2 q3 f g u) (dC, dI) dA (zo 0 dA h0 q1 q2 q3 f g r) H0.size) 0 0 (va_A (zo 0 dA h0 q1 q2 q3 f g r) H0.size) := by
  refine zMet_v (cc := cX0_anew) (maxL := 2) (by decide) (Nat.le_of_ble_eq_true rfl) ?_
  intro p e s m args below meth c A Q hx hb hml hts hown hnm hK hP hD hS hA hend ls hl
  have hl : lv_has ls 2 [(0, .ref h0)] := hl
  have hown : s.vm.findClass RX0 = some m.cls := hown
  have hP : va_P (dC, dI) vwCl [(h0, .inr (0, [.ref q1, .ref q2, .ref q3])), (q1, .inl (dA, 48, .inl (f))), (q2, .inl (dA, 48, .inl (g))), (q3, .inl (dA, 48, .inl (r)))] H0 := hP
  have hD : va_D A [(h0, .inr (0, [.ref q1, .ref q2, .ref q3])), (q1, .inl (dA, 48, .inl (f))), (q2, .inl (dA, 48, .inl (g))), (q3, .inl (dA, 48, .inl (r)))] := hD
  have loop : ∀ (k i : Nat) (r2 : Nat → Int32) (H : Heap) (locs : List Loc) (ls : Array Slot), i + k = 48 → (∀ j, j < i → r2 j = zI (j : Int)) → va_P (dC, dI) vwCl [(h0, .inr (0, [.ref q1, .ref q2, .ref q3])), (q1, .inl (dA, 48, .inl (f))), (q2, .inl (dA, 48, .inl (g))), (q3, .inl (dA, 48, .inl (r2)))] H → va_D A [(h0, .inr (0, [.ref q1, .ref q2, .ref q3])), (q1, .inl (dA, 48, .inl (f))), (q2, .inl (dA, 48, .inl (g))), (q3, .inl (dA, 48, .inl (r2)))] → va_S A H0 H locs → lv_has ls 2 [(0, .ref h0), (1, .int (zI ((i : Int))))] → W p l e (zr 0 0 0 0) s m args below meth c H locs 0 0 Q (F0 m 2 ls []) := by
    intro k
    induction k with
    | zero =>
      intro i r2 H locs ls h1 h2 hP hD hS hl
      refine lv_iload_n hx hb dX0_anew_2 rfl (lv_at hl 1 rfl) ?_
      refine lv_bipush (v := zI (48)) hx hb dX0_anew_3 (by decide +kernel) ?_
      refine kz_icmp_ge (tgt := 21) hx hb dX0_anew_5 (by decide) (by omega) (fun c1 => ?_) (fun c1 => ?_)
      · skip
        exact hend _ _ _ _ r2 dX0_anew_21 (fun j hj => h2 j (by omega)) hP hD hS
      · skip
        omega
    | succ k ih =>
      intro i r2 H locs ls h1 h2 hP hD hS hl
      refine lv_iload_n hx hb dX0_anew_2 rfl (lv_at hl 1 rfl) ?_
      refine lv_bipush (v := zI (48)) hx hb dX0_anew_3 (by decide +kernel) ?_
      refine kz_icmp_ge (tgt := 21) hx hb dX0_anew_5 (by decide) (by omega) (fun c1 => ?_) (fun c1 => ?_)
      · skip
        omega
      · skip
        refine lv_aload_n hx hb dX0_anew_8 rfl (lv_at hl 0 rfl) ?_
        refine va_get (D := (dC, dI)) (ci := 0) (v := .ref q3) (C := RX0) (T := TX0) (N := 3) hx hb hts in_X0 hown hK hP 0 rfl rfl 2 (by decide) (hts _ q26) (fun _ h9 => h9) rfl dX0_anew_9 ?_
        refine lv_iload_n hx hb dX0_anew_12 rfl (lv_at hl 1 rfl) ?_
        refine lv_iload_n hx hb dX0_anew_13 rfl (lv_at hl 1 rfl) ?_
        refine kz_iast (k := i) hx hb hK hP hD hS 3 0 rfl rfl (by omega) (by omega) (by omega) dX0_anew_14 (fun H locs hP hD hS => ?_)
        have hP : va_P (dC, dI) vwCl [(h0, .inr (0, [.ref q1, .ref q2, .ref q3])), (q1, .inl (dA, 48, .inl (f))), (q2, .inl (dA, 48, .inl (g))), (q3, .inl (dA, 48, .inl (upd r2 i (zI ((i : Int))))))] H := hP
        have hD : va_D A [(h0, .inr (0, [.ref q1, .ref q2, .ref q3])), (q1, .inl (dA, 48, .inl (f))), (q2, .inl (dA, 48, .inl (g))), (q3, .inl (dA, 48, .inl (upd r2 i (zI ((i : Int))))))] := hD
        refine kz_iinc (E := ((i + 1 : Nat) : Int)) (lv' := [(1, .int (zI (((i + 1 : Nat) : Int)))), (0, .ref h0)]) hx hb dX0_anew_15 hl (k := 1) rfl (by omega) (by decide) rfl (fun ls hl => ?_)
        refine lv_goto (tgt := 2) hx hb dX0_anew_18 (by decide) ?_
        refine ih (i + 1) (upd r2 i (zI (i : Int))) H locs ls (by omega) (fun j hj => ?_) hP hD hS (lv_sub hl [1, 0] rfl)
        show (if j = i then zI (i : Int) else r2 j) = zI (j : Int)
        by_cases e : j = i
        · rw [if_pos e, e]
        · rw [if_neg e]
          exact h2 j (by omega)
  refine lv_iconst (v := zI (0)) hx hb dX0_anew_0 rfl ?_
  refine lv_istore_n (lv' := [(1, .int (zI (0))), (0, .ref h0)]) hx hb dX0_anew_1 rfl hl (by decide) rfl (fun ls hl => ?_)
  exact loop 48 0 r H0 [] ls (by omega) (fun j hj => absurd hj (Nat.not_lt_zero _)) hP hD hS (lv_sub hl [1, 0] rfl)
set_option maxHeartbeats 4000000 in
set_option maxRecDepth 100000 in
theorem met0_init (l : Launch) (dC : Nat → ClassId) (dI : Nat → Nat → Nat) (dA : ClassId) (H0 : Heap) (h0 : Nat) : Met l yX0_init (ws_ yX0_init cX0_init 1 none) (zr 3 3 144 100) (zPc [.ref h0] H0 (dC, dI) dA ([(h0, .inr (0, [.null, .null, .null]))])) (zQv (fun u : (Nat × Nat × Nat) × (Nat → Int32) => ∀ j, j < 48 → u.2 j = zI (j : Int)) (fun u => zo 0 dA h0 u.1.1 u.1.2.1 u.1.2.2 (fun _ => 0) (fun _ => 0) u.2) (dC, dI) dA ([(h0, .inr (0, [.null, .null, .null]))]) H0.size) 3 144 (va_A ([(h0, .inr (0, [.null, .null, .null]))]) H0.size) := by
  refine zMet_v (cc := cX0_init) (maxL := 1) (by decide) (Nat.le_of_ble_eq_true rfl) ?_
  intro p e s m args below meth c A Q hx hb hml hts hown hnm hK hP hD hS hA hend ls hl
  have hl : lv_has ls 1 [(0, .ref h0)] := hl
  have hown : s.vm.findClass RX0 = some m.cls := hown
  have hP : va_P (dC, dI) vwCl [(h0, .inr (0, [.null, .null, .null]))] H0 := hP
  have hD : va_D A [(h0, .inr (0, [.null, .null, .null]))] := hD
  refine lv_aload_n hx hb dX0_init_0 rfl (lv_at hl 0 rfl) ?_
  refine W.objInit hx hb hown (hts _ q17) (hts _ q18) (hts _ q19) rfl (by rw [hml]; exact hl.1) rfl dX0_init_1 (Nat.le_of_ble_eq_true rfl) (Nat.le_of_ble_eq_true rfl) ?_
  refine W.eq (g2 := F0 m 4 ls []) rfl ?_
  refine lv_aload_n hx hb dX0_init_4 rfl (lv_at hl 0 rfl) ?_
  refine lv_bipush (v := zI (48)) hx hb dX0_init_5 (by decide +kernel) ?_
  refine kz_newa hx hb (hts _ q34) hK hP hD hS hA (Nat.le_of_ble_eq_true rfl) (Nat.le_of_ble_eq_true rfl) dX0_init_7 (fun n1 H hP hD hS => ?_)
  have hP : va_P (dC, dI) vwCl [(h0, .inr (0, [.null, .null, .null])), (n1, .inl (dA, 48, .inl (fun _ => 0)))] H := hP
  have hD : va_D A [(h0, .inr (0, [.null, .null, .null])), (n1, .inl (dA, 48, .inl (fun _ => 0)))] := hD
  refine va_putF (D := (dC, dI)) (ci := 0) (v := .ref n1) (ty := .array .int) (C := RX0) (T := TX0) (N := 3) hx hb hts in_X0 tyX0 tyX0_ok nmX0 hown hK hP hD hS 0 rfl rfl 0 (by decide) (hts _ q24) (fun _ h9 => h9) rfl hnm rfl (by decide +kernel) rfl rfl (Nat.le_of_ble_eq_true rfl) dX0_init_9 (fun H locs hP hD hS => ?_)
  have hP : va_P (dC, dI) vwCl [(h0, .inr (0, [.ref n1, .null, .null])), (n1, .inl (dA, 48, .inl (fun _ => 0)))] H := hP
  have hD : va_D A [(h0, .inr (0, [.ref n1, .null, .null])), (n1, .inl (dA, 48, .inl (fun _ => 0)))] := hD
  refine lv_aload_n hx hb dX0_init_12 rfl (lv_at hl 0 rfl) ?_
  refine lv_bipush (v := zI (48)) hx hb dX0_init_13 (by decide +kernel) ?_
  refine kz_newa hx hb (hts _ q34) hK hP hD hS hA (Nat.le_of_ble_eq_true rfl) (Nat.le_of_ble_eq_true rfl) dX0_init_15 (fun n2 H hP hD hS => ?_)
  have hP : va_P (dC, dI) vwCl [(h0, .inr (0, [.ref n1, .null, .null])), (n1, .inl (dA, 48, .inl (fun _ => 0))), (n2, .inl (dA, 48, .inl (fun _ => 0)))] H := hP
  have hD : va_D A [(h0, .inr (0, [.ref n1, .null, .null])), (n1, .inl (dA, 48, .inl (fun _ => 0))), (n2, .inl (dA, 48, .inl (fun _ => 0)))] := hD
  refine va_putF (D := (dC, dI)) (ci := 0) (v := .ref n2) (ty := .array .int) (C := RX0) (T := TX0) (N := 3) hx hb hts in_X0 tyX0 tyX0_ok nmX0 hown hK hP hD hS 0 rfl rfl 1 (by decide) (hts _ q25) (fun _ h9 => h9) rfl hnm rfl (by decide +kernel) rfl rfl (Nat.le_of_ble_eq_true rfl) dX0_init_17 (fun H locs hP hD hS => ?_)
  have hP : va_P (dC, dI) vwCl [(h0, .inr (0, [.ref n1, .ref n2, .null])), (n1, .inl (dA, 48, .inl (fun _ => 0))), (n2, .inl (dA, 48, .inl (fun _ => 0)))] H := hP
  have hD : va_D A [(h0, .inr (0, [.ref n1, .ref n2, .null])), (n1, .inl (dA, 48, .inl (fun _ => 0))), (n2, .inl (dA, 48, .inl (fun _ => 0)))] := hD
  refine lv_aload_n hx hb dX0_init_20 rfl (lv_at hl 0 rfl) ?_
  refine lv_bipush (v := zI (48)) hx hb dX0_init_21 (by decide +kernel) ?_
  refine kz_newa hx hb (hts _ q34) hK hP hD hS hA (Nat.le_of_ble_eq_true rfl) (Nat.le_of_ble_eq_true rfl) dX0_init_23 (fun n3 H hP hD hS => ?_)
  have hP : va_P (dC, dI) vwCl [(h0, .inr (0, [.ref n1, .ref n2, .null])), (n1, .inl (dA, 48, .inl (fun _ => 0))), (n2, .inl (dA, 48, .inl (fun _ => 0))), (n3, .inl (dA, 48, .inl (fun _ => 0)))] H := hP
  have hD : va_D A [(h0, .inr (0, [.ref n1, .ref n2, .null])), (n1, .inl (dA, 48, .inl (fun _ => 0))), (n2, .inl (dA, 48, .inl (fun _ => 0))), (n3, .inl (dA, 48, .inl (fun _ => 0)))] := hD
  refine va_putF (D := (dC, dI)) (ci := 0) (v := .ref n3) (ty := .array .int) (C := RX0) (T := TX0) (N := 3) hx hb hts in_X0 tyX0 tyX0_ok nmX0 hown hK hP hD hS 0 rfl rfl 2 (by decide) (hts _ q26) (fun _ h9 => h9) rfl hnm rfl (by decide +kernel) rfl rfl (Nat.le_of_ble_eq_true rfl) dX0_init_25 (fun H locs hP hD hS => ?_)
  have hP : va_P (dC, dI) vwCl [(h0, .inr (0, [.ref n1, .ref n2, .ref n3])), (n1, .inl (dA, 48, .inl (fun _ => 0))), (n2, .inl (dA, 48, .inl (fun _ => 0))), (n3, .inl (dA, 48, .inl (fun _ => 0)))] H := hP
  have hD : va_D A [(h0, .inr (0, [.ref n1, .ref n2, .ref n3])), (n1, .inl (dA, 48, .inl (fun _ => 0))), (n2, .inl (dA, 48, .inl (fun _ => 0))), (n3, .inl (dA, 48, .inl (fun _ => 0)))] := hD
  refine lv_aload_n hx hb dX0_init_28 rfl (lv_at hl 0 rfl) ?_
  refine zcallVv (q := (RX0, TX0, 3)) (ci := 0) (As := []) (rest := []) (wr := []) ⟨hx, hb, hml, hown, hts⟩ [0, 1, 2, 3] [] (met0_anew l dC dI dA H h0 n1 n2 n3 (fun _ => 0) (fun _ => 0) (fun _ => 0)) (cwV 0 hts (lw_V q20 q21 q22 q5 q23) rfl rfl rfl (by decide +kernel) ⟨Nat.le_of_ble_eq_true rfl, Nat.le_of_ble_eq_true rfl⟩) hK hP hD hS hA rfl rfl (by decide) (by decide) (by decide) rfl rfl rfl rfl hl.1 (Nat.le_of_ble_eq_true rfl) dX0_init_29 ⟨Nat.le_of_ble_eq_true rfl, Nat.le_of_ble_eq_true rfl⟩ (fun u H locs hw hP hD hS => ?_)
  have hP : va_P (dC, dI) vwCl [(h0, .inr (0, [.ref n1, .ref n2, .ref n3])), (n1, .inl (dA, 48, .inl (fun _ => 0))), (n2, .inl (dA, 48, .inl (fun _ => 0))), (n3, .inl (dA, 48, .inl (u)))] H := hP
  have hD : va_D A [(h0, .inr (0, [.ref n1, .ref n2, .ref n3])), (n1, .inl (dA, 48, .inl (fun _ => 0))), (n2, .inl (dA, 48, .inl (fun _ => 0))), (n3, .inl (dA, 48, .inl (u)))] := hD
  exact hend _ _ _ _ ((n1, n2, n3), u) dX0_init_32 hw hP hD hS
set_option maxHeartbeats 4000000 in
set_option maxRecDepth 100000 in
theorem met0_set (l : Launch) (dC : Nat → ClassId) (dI : Nat → Nat → Nat) (dA : ClassId) (H0 : Heap) (h0 q1 q2 q3 : Nat) (f g r : Nat → Int32) (x a b : Int32) : Met l yX0_set (ws_ yX0_set cX0_set 5 none) (zr 0 0 0 0) (zPc [.ref h0, .int x, .int a, .int b] H0 (dC, dI) dA (zo 0 dA h0 q1 q2 q3 f g r)) (zQv (fun _ : Unit => True) (fun _ => zo 0 dA h0 q1 q2 q3 (upd f (zw x % 48) a) (upd g (zw x % 48) b) r) (dC, dI) dA (zo 0 dA h0 q1 q2 q3 f g r) H0.size) 0 0 (va_A (zo 0 dA h0 q1 q2 q3 f g r) H0.size) := by
  refine zMet_v (cc := cX0_set) (maxL := 5) (by decide) (Nat.le_of_ble_eq_true rfl) ?_
  intro p e s m args below meth c A Q hx hb hml hts hown hnm hK hP hD hS hA hend ls hl
  have hl : lv_has ls 5 [(0, .ref h0), (1, .int (x)), (2, .int (a)), (3, .int (b))] := hl
  have hown : s.vm.findClass RX0 = some m.cls := hown
  have hP : va_P (dC, dI) vwCl [(h0, .inr (0, [.ref q1, .ref q2, .ref q3])), (q1, .inl (dA, 48, .inl (f))), (q2, .inl (dA, 48, .inl (g))), (q3, .inl (dA, 48, .inl (r)))] H0 := hP
  have hD : va_D A [(h0, .inr (0, [.ref q1, .ref q2, .ref q3])), (q1, .inl (dA, 48, .inl (f))), (q2, .inl (dA, 48, .inl (g))), (q3, .inl (dA, 48, .inl (r)))] := hD
  refine lv_iload_n hx hb dX0_set_0 rfl (lv_at hl 1 rfl) ?_
  refine lv_ldc hx hb hown (hts _ q40) dX0_set_1 ?_
  refine kz_and31 hx hb dX0_set_3 ?_
  refine lv_bipush (v := zI (48)) hx hb dX0_set_4 (by decide +kernel) ?_
  refine kz_irem (zw x) (48) hx hb dX0_set_6 (zI_c (by omega)) (zI_c (by omega)) (zw_lt _) (by omega) (by omega) ?_
  refine lv_istore (lv' := [(4, .int (zI ((((zw x) % 48 : Nat) : Int)))), (0, .ref h0), (1, .int (x)), (2, .int (a)), (3, .int (b))]) hx hb dX0_set_7 hl (by decide) rfl (fun ls hl => ?_)
  refine lv_aload_n hx hb dX0_set_9 rfl (lv_at hl 1 rfl) ?_
  refine va_get (D := (dC, dI)) (ci := 0) (v := .ref q1) (C := RX0) (T := TX0) (N := 3) hx hb hts in_X0 hown hK hP 0 rfl rfl 0 (by decide) (hts _ q24) (fun _ h9 => h9) rfl dX0_set_10 ?_
  refine lv_iload hx hb dX0_set_13 (lv_at hl 0 rfl) ?_
  refine lv_iload_n hx hb dX0_set_15 rfl (lv_at hl 3 rfl) ?_
  refine kz_iast (k := (zw x) % 48) hx hb hK hP hD hS 1 0 rfl rfl (by omega) (by omega) (by omega) dX0_set_16 (fun H locs hP hD hS => ?_)
  have hP : va_P (dC, dI) vwCl [(h0, .inr (0, [.ref q1, .ref q2, .ref q3])), (q1, .inl (dA, 48, .inl (upd f ((zw x) % 48) (a)))), (q2, .inl (dA, 48, .inl (g))), (q3, .inl (dA, 48, .inl (r)))] H := hP
  have hD : va_D A [(h0, .inr (0, [.ref q1, .ref q2, .ref q3])), (q1, .inl (dA, 48, .inl (upd f ((zw x) % 48) (a)))), (q2, .inl (dA, 48, .inl (g))), (q3, .inl (dA, 48, .inl (r)))] := hD
  refine lv_aload_n hx hb dX0_set_17 rfl (lv_at hl 1 rfl) ?_
  refine va_get (D := (dC, dI)) (ci := 0) (v := .ref q2) (C := RX0) (T := TX0) (N := 3) hx hb hts in_X0 hown hK hP 0 rfl rfl 1 (by decide) (hts _ q25) (fun _ h9 => h9) rfl dX0_set_18 ?_
  refine lv_iload hx hb dX0_set_21 (lv_at hl 0 rfl) ?_
  refine lv_iload_n hx hb dX0_set_23 rfl (lv_at hl 4 rfl) ?_
  refine kz_iast (k := (zw x) % 48) hx hb hK hP hD hS 2 0 rfl rfl (by omega) (by omega) (by omega) dX0_set_24 (fun H locs hP hD hS => ?_)
  have hP : va_P (dC, dI) vwCl [(h0, .inr (0, [.ref q1, .ref q2, .ref q3])), (q1, .inl (dA, 48, .inl (upd f ((zw x) % 48) (a)))), (q2, .inl (dA, 48, .inl (upd g ((zw x) % 48) (b)))), (q3, .inl (dA, 48, .inl (r)))] H := hP
  have hD : va_D A [(h0, .inr (0, [.ref q1, .ref q2, .ref q3])), (q1, .inl (dA, 48, .inl (upd f ((zw x) % 48) (a)))), (q2, .inl (dA, 48, .inl (upd g ((zw x) % 48) (b)))), (q3, .inl (dA, 48, .inl (r)))] := hD
  exact hend _ _ _ _ () dX0_set_25 trivial hP hD hS
set_option maxHeartbeats 4000000 in
set_option maxRecDepth 100000 in
theorem met0_few (l : Launch) (dC : Nat → ClassId) (dI : Nat → Nat → Nat) (dA : ClassId) (H0 : Heap) (h0 q1 q2 q3 : Nat) (f g r : Nat → Int32) (x a b : Int32) : Met l yX0_few (ws_ yX0_few cX0_few 5 none) (zr 0 0 0 0) (zPc [.ref h0, .int x, .int a, .int b] H0 (dC, dI) dA (zo 0 dA h0 q1 q2 q3 f g r)) (zQv (fun _ : Unit => True) (fun _ => zo 0 dA h0 q1 q2 q3 (upd f (zw x % 48) (a &&& zI (3))) (upd g (zw x % 48) (b &&& zI (3))) r) (dC, dI) dA (zo 0 dA h0 q1 q2 q3 f g r) H0.size) 0 0 (va_A (zo 0 dA h0 q1 q2 q3 f g r) H0.size) := by
  refine zMet_v (cc := cX0_few) (maxL := 5) (by decide) (Nat.le_of_ble_eq_true rfl) ?_
  intro p e s m args below meth c A Q hx hb hml hts hown hnm hK hP hD hS hA hend ls hl
  have hl : lv_has ls 5 [(0, .ref h0), (1, .int (x)), (2, .int (a)), (3, .int (b))] := hl
  have hown : s.vm.findClass RX0 = some m.cls := hown
  have hP : va_P (dC, dI) vwCl [(h0, .inr (0, [.ref q1, .ref q2, .ref q3])), (q1, .inl (dA, 48, .inl (f))), (q2, .inl (dA, 48, .inl (g))), (q3, .inl (dA, 48, .inl (r)))] H0 := hP
  have hD : va_D A [(h0, .inr (0, [.ref q1, .ref q2, .ref q3])), (q1, .inl (dA, 48, .inl (f))), (q2, .inl (dA, 48, .inl (g))), (q3, .inl (dA, 48, .inl (r)))] := hD
  refine lv_iload_n hx hb dX0_few_0 rfl (lv_at hl 1 rfl) ?_
  refine lv_ldc hx hb hown (hts _ q40) dX0_few_1 ?_
  refine kz_and31 hx hb dX0_few_3 ?_
  refine lv_bipush (v := zI (48)) hx hb dX0_few_4 (by decide +kernel) ?_
  refine kz_irem (zw x) (48) hx hb dX0_few_6 (zI_c (by omega)) (zI_c (by omega)) (zw_lt _) (by omega) (by omega) ?_
  refine lv_istore (lv' := [(4, .int (zI ((((zw x) % 48 : Nat) : Int)))), (0, .ref h0), (1, .int (x)), (2, .int (a)), (3, .int (b))]) hx hb dX0_few_7 hl (by decide) rfl (fun ls hl => ?_)
  refine lv_aload_n hx hb dX0_few_9 rfl (lv_at hl 1 rfl) ?_
  refine va_get (D := (dC, dI)) (ci := 0) (v := .ref q1) (C := RX0) (T := TX0) (N := 3) hx hb hts in_X0 hown hK hP 0 rfl rfl 0 (by decide) (hts _ q24) (fun _ h9 => h9) rfl dX0_few_10 ?_
  refine lv_iload hx hb dX0_few_13 (lv_at hl 0 rfl) ?_
  refine lv_iload_n hx hb dX0_few_15 rfl (lv_at hl 3 rfl) ?_
  refine lv_iconst (v := zI (3)) hx hb dX0_few_16 rfl ?_
  refine lv_iand hx hb dX0_few_17 ?_
  refine kz_iast (k := (zw x) % 48) hx hb hK hP hD hS 1 0 rfl rfl (by omega) (by omega) (by omega) dX0_few_18 (fun H locs hP hD hS => ?_)
  have hP : va_P (dC, dI) vwCl [(h0, .inr (0, [.ref q1, .ref q2, .ref q3])), (q1, .inl (dA, 48, .inl (upd f ((zw x) % 48) ((a &&& zI (3)))))), (q2, .inl (dA, 48, .inl (g))), (q3, .inl (dA, 48, .inl (r)))] H := hP
  have hD : va_D A [(h0, .inr (0, [.ref q1, .ref q2, .ref q3])), (q1, .inl (dA, 48, .inl (upd f ((zw x) % 48) ((a &&& zI (3)))))), (q2, .inl (dA, 48, .inl (g))), (q3, .inl (dA, 48, .inl (r)))] := hD
  refine lv_aload_n hx hb dX0_few_19 rfl (lv_at hl 1 rfl) ?_
  refine va_get (D := (dC, dI)) (ci := 0) (v := .ref q2) (C := RX0) (T := TX0) (N := 3) hx hb hts in_X0 hown hK hP 0 rfl rfl 1 (by decide) (hts _ q25) (fun _ h9 => h9) rfl dX0_few_20 ?_
  refine lv_iload hx hb dX0_few_23 (lv_at hl 0 rfl) ?_
  refine lv_iload_n hx hb dX0_few_25 rfl (lv_at hl 4 rfl) ?_
  refine lv_iconst (v := zI (3)) hx hb dX0_few_26 rfl ?_
  refine lv_iand hx hb dX0_few_27 ?_
  refine kz_iast (k := (zw x) % 48) hx hb hK hP hD hS 2 0 rfl rfl (by omega) (by omega) (by omega) dX0_few_28 (fun H locs hP hD hS => ?_)
  have hP : va_P (dC, dI) vwCl [(h0, .inr (0, [.ref q1, .ref q2, .ref q3])), (q1, .inl (dA, 48, .inl (upd f ((zw x) % 48) ((a &&& zI (3)))))), (q2, .inl (dA, 48, .inl (upd g ((zw x) % 48) ((b &&& zI (3)))))), (q3, .inl (dA, 48, .inl (r)))] H := hP
  have hD : va_D A [(h0, .inr (0, [.ref q1, .ref q2, .ref q3])), (q1, .inl (dA, 48, .inl (upd f ((zw x) % 48) ((a &&& zI (3)))))), (q2, .inl (dA, 48, .inl (upd g ((zw x) % 48) ((b &&& zI (3)))))), (q3, .inl (dA, 48, .inl (r)))] := hD
  exact hend _ _ _ _ () dX0_few_29 trivial hP hD hS
set_option maxHeartbeats 4000000 in
set_option maxRecDepth 100000 in
theorem met0_first (l : Launch) (dC : Nat → ClassId) (dI : Nat → Nat → Nat) (dA : ClassId) (H0 : Heap) (h0 q1 q2 q3 : Nat) (f g r : Nat → Int32) (x : Int32) : Met l yX0_first (ws_ yX0_first cX0_first 2 (some .int)) (zr 1 0 0 20) (zPc [.ref h0, .int x] H0 (dC, dI) dA (zo 0 dA h0 q1 q2 q3 f g r)) (zQp (fun z => z = f (zw x % 48)) H0) 0 0 (fun _ => False) := by
  refine zMet_p (cc := cX0_first) (maxL := 2) (ty := .int) (by decide) (Nat.le_of_ble_eq_true rfl) ?_
  intro p e s m args below meth c Q hx hb hml hts hown hK hP hD hS hend ls hl
  have hl : lv_has ls 2 [(0, .ref h0), (1, .int (x))] := hl
  have hown : s.vm.findClass RX0 = some m.cls := hown
  have hP : va_P (dC, dI) vwCl [(h0, .inr (0, [.ref q1, .ref q2, .ref q3])), (q1, .inl (dA, 48, .inl (f))), (q2, .inl (dA, 48, .inl (g))), (q3, .inl (dA, 48, .inl (r)))] H0 := hP
  have hD : va_D (fun _ => True) [(h0, .inr (0, [.ref q1, .ref q2, .ref q3])), (q1, .inl (dA, 48, .inl (f))), (q2, .inl (dA, 48, .inl (g))), (q3, .inl (dA, 48, .inl (r)))] := hD
  refine lv_aload_n hx hb dX0_first_0 rfl (lv_at hl 0 rfl) ?_
  refine va_get (D := (dC, dI)) (ci := 0) (v := .ref q1) (C := RX0) (T := TX0) (N := 3) hx hb hts in_X0 hown hK hP 0 rfl rfl 0 (by decide) (hts _ q24) (fun _ h9 => h9) rfl dX0_first_1 ?_
  refine lv_iload_n hx hb dX0_first_4 rfl (lv_at hl 1 rfl) ?_
  refine lv_ldc hx hb hown (hts _ q40) dX0_first_5 ?_
  refine kz_and31 hx hb dX0_first_7 ?_
  refine lv_bipush (v := zI (48)) hx hb dX0_first_8 (by decide +kernel) ?_
  refine kz_irem (zw x) (48) hx hb dX0_first_10 (zI_c (by omega)) (zI_c (by omega)) (zw_lt _) (by omega) (by omega) ?_
  refine kz_iald (k := (zw x) % 48) hx hb hK hP 1 0 rfl rfl (by omega) (by omega) (by omega) dX0_first_11 ?_
  exact hend _ _ ls _ dX0_first_12 rfl rfl hS
set_option maxHeartbeats 4000000 in
set_option maxRecDepth 100000 in
theorem met0_second (l : Launch) (dC : Nat → ClassId) (dI : Nat → Nat → Nat) (dA : ClassId) (H0 : Heap) (h0 q1 q2 q3 : Nat) (f g r : Nat → Int32) (x : Int32) : Met l yX0_second (ws_ yX0_second cX0_second 2 (some .int)) (zr 1 0 0 20) (zPc [.ref h0, .int x] H0 (dC, dI) dA (zo 0 dA h0 q1 q2 q3 f g r)) (zQp (fun z => z = g (zw x % 48)) H0) 0 0 (fun _ => False) := by
  refine zMet_p (cc := cX0_second) (maxL := 2) (ty := .int) (by decide) (Nat.le_of_ble_eq_true rfl) ?_
  intro p e s m args below meth c Q hx hb hml hts hown hK hP hD hS hend ls hl
  have hl : lv_has ls 2 [(0, .ref h0), (1, .int (x))] := hl
  have hown : s.vm.findClass RX0 = some m.cls := hown
  have hP : va_P (dC, dI) vwCl [(h0, .inr (0, [.ref q1, .ref q2, .ref q3])), (q1, .inl (dA, 48, .inl (f))), (q2, .inl (dA, 48, .inl (g))), (q3, .inl (dA, 48, .inl (r)))] H0 := hP
  have hD : va_D (fun _ => True) [(h0, .inr (0, [.ref q1, .ref q2, .ref q3])), (q1, .inl (dA, 48, .inl (f))), (q2, .inl (dA, 48, .inl (g))), (q3, .inl (dA, 48, .inl (r)))] := hD
  refine lv_aload_n hx hb dX0_second_0 rfl (lv_at hl 0 rfl) ?_
  refine va_get (D := (dC, dI)) (ci := 0) (v := .ref q2) (C := RX0) (T := TX0) (N := 3) hx hb hts in_X0 hown hK hP 0 rfl rfl 1 (by decide) (hts _ q25) (fun _ h9 => h9) rfl dX0_second_1 ?_
  refine lv_iload_n hx hb dX0_second_4 rfl (lv_at hl 1 rfl) ?_
  refine lv_ldc hx hb hown (hts _ q40) dX0_second_5 ?_
  refine kz_and31 hx hb dX0_second_7 ?_
  refine lv_bipush (v := zI (48)) hx hb dX0_second_8 (by decide +kernel) ?_
  refine kz_irem (zw x) (48) hx hb dX0_second_10 (zI_c (by omega)) (zI_c (by omega)) (zw_lt _) (by omega) (by omega) ?_
  refine kz_iald (k := (zw x) % 48) hx hb hK hP 2 0 rfl rfl (by omega) (by omega) (by omega) dX0_second_11 ?_
  exact hend _ _ ls _ dX0_second_12 rfl rfl hS
set_option maxHeartbeats 4000000 in
set_option maxRecDepth 100000 in
theorem met0_place (l : Launch) (dC : Nat → ClassId) (dI : Nat → Nat → Nat) (dA : ClassId) (H0 : Heap) (h0 q1 q2 q3 : Nat) (f g r : Nat → Int32) (x : Int32) : Met l yX0_place (ws_ yX0_place cX0_place 2 (some .int)) (zr 1 0 0 20) (zPc [.ref h0, .int x] H0 (dC, dI) dA (zo 0 dA h0 q1 q2 q3 f g r)) (zQp (fun z => z = r (zw x % 48)) H0) 0 0 (fun _ => False) := by
  refine zMet_p (cc := cX0_place) (maxL := 2) (ty := .int) (by decide) (Nat.le_of_ble_eq_true rfl) ?_
  intro p e s m args below meth c Q hx hb hml hts hown hK hP hD hS hend ls hl
  have hl : lv_has ls 2 [(0, .ref h0), (1, .int (x))] := hl
  have hown : s.vm.findClass RX0 = some m.cls := hown
  have hP : va_P (dC, dI) vwCl [(h0, .inr (0, [.ref q1, .ref q2, .ref q3])), (q1, .inl (dA, 48, .inl (f))), (q2, .inl (dA, 48, .inl (g))), (q3, .inl (dA, 48, .inl (r)))] H0 := hP
  have hD : va_D (fun _ => True) [(h0, .inr (0, [.ref q1, .ref q2, .ref q3])), (q1, .inl (dA, 48, .inl (f))), (q2, .inl (dA, 48, .inl (g))), (q3, .inl (dA, 48, .inl (r)))] := hD
  refine lv_aload_n hx hb dX0_place_0 rfl (lv_at hl 0 rfl) ?_
  refine va_get (D := (dC, dI)) (ci := 0) (v := .ref q3) (C := RX0) (T := TX0) (N := 3) hx hb hts in_X0 hown hK hP 0 rfl rfl 2 (by decide) (hts _ q26) (fun _ h9 => h9) rfl dX0_place_1 ?_
  refine lv_iload_n hx hb dX0_place_4 rfl (lv_at hl 1 rfl) ?_
  refine lv_ldc hx hb hown (hts _ q40) dX0_place_5 ?_
  refine kz_and31 hx hb dX0_place_7 ?_
  refine lv_bipush (v := zI (48)) hx hb dX0_place_8 (by decide +kernel) ?_
  refine kz_irem (zw x) (48) hx hb dX0_place_10 (zI_c (by omega)) (zI_c (by omega)) (zw_lt _) (by omega) (by omega) ?_
  refine kz_iald (k := (zw x) % 48) hx hb hK hP 3 0 rfl rfl (by omega) (by omega) (by omega) dX0_place_11 ?_
  exact hend _ _ ls _ dX0_place_12 rfl rfl hS
set_option maxHeartbeats 4000000 in
set_option maxRecDepth 100000 in
theorem met0_from (l : Launch) (dC : Nat → ClassId) (dI : Nat → Nat → Nat) (dA : ClassId) (H0 : Heap) (h0 q1 q2 q3 : Nat) (x : Int32) : Met l yX0_from (ws_ yX0_from cX0_from 2 (some .int)) (zr 0 0 0 0) (zPc [.ref h0, .int x] H0 (dC, dI) dA ([(h0, .inr (0, [.ref q1, .ref q2, .ref q3]))])) (zQp (fun r => r = zI ((zfr x : Nat) : Int)) H0) 0 0 (fun _ => False) := by
  refine zMet_p (cc := cX0_from) (maxL := 2) (ty := .int) (by decide) (Nat.le_of_ble_eq_true rfl) ?_
  intro p e s m args below meth c Q hx hb hml hts hown hK hP hD hS hend ls hl
  have hl : lv_has ls 2 [(0, .ref h0), (1, .int (x))] := hl
  have hown : s.vm.findClass RX0 = some m.cls := hown
  refine lv_iload_n hx hb dX0_from_0 rfl (lv_at hl 1 rfl) ?_
  refine lv_ldc hx hb hown (hts _ q40) dX0_from_1 ?_
  refine kz_and31 hx hb dX0_from_3 ?_
  refine lv_bipush (v := zI (49)) hx hb dX0_from_4 (by decide +kernel) ?_
  refine kz_irem (zw x) (49) hx hb dX0_from_6 (zI_c (by omega)) (zI_c (by omega)) (zw_lt _) (by omega) (by omega) ?_
  exact hend _ _ ls _ dX0_from_7 rfl rfl hS
set_option maxHeartbeats 4000000 in
set_option maxRecDepth 100000 in
theorem met0_to (l : Launch) (dC : Nat → ClassId) (dI : Nat → Nat → Nat) (dA : ClassId) (H0 : Heap) (h0 q1 q2 q3 : Nat) (x t : Int32) : Met l yX0_to (ws_ yX0_to cX0_to 3 (some .int)) (zr 0 0 0 0) (zPc [.ref h0, .int (zI ((zfr x : Nat) : Int)), .int t] H0 (dC, dI) dA ([(h0, .inr (0, [.ref q1, .ref q2, .ref q3]))])) (zQp (fun r => r = zI ((zto x t : Nat) : Int)) H0) 0 0 (fun _ => False) := by
  refine zMet_p (cc := cX0_to) (maxL := 3) (ty := .int) (by decide) (Nat.le_of_ble_eq_true rfl) ?_
  intro p e s m args below meth c Q hx hb hml hts hown hK hP hD hS hend ls hl
  have hl : lv_has ls 3 [(0, .ref h0), (1, .int (zI (((zfr x : Nat) : Int)))), (2, .int (t))] := hl
  have hown : s.vm.findClass RX0 = some m.cls := hown
  have hx48 := zfr_le x
  refine lv_iload_n hx hb dX0_to_0 rfl (lv_at hl 1 rfl) ?_
  refine lv_iload_n hx hb dX0_to_1 rfl (lv_at hl 2 rfl) ?_
  refine lv_ldc hx hb hown (hts _ q40) dX0_to_2 ?_
  refine kz_and31 hx hb dX0_to_4 ?_
  refine lv_bipush (v := zI (49)) hx hb dX0_to_5 (by decide +kernel) ?_
  refine lv_iload_n hx hb dX0_to_7 rfl (lv_at hl 1 rfl) ?_
  refine kz_isub (E := ((49 - zfr x : Nat) : Int)) hx hb dX0_to_8 (by omega) ?_
  refine kz_irem (zw t) (49 - zfr x) hx hb dX0_to_9 (zI_c (by omega)) (zI_c (by omega)) (zw_lt _) (by omega) (by omega) ?_
  refine kz_iadd (E := ((zfr x + zw t % (49 - zfr x) : Nat) : Int)) hx hb dX0_to_10 (by omega) ?_
  exact hend _ _ ls _ dX0_to_11 rfl rfl hS
set_option maxHeartbeats 4000000 in
set_option maxRecDepth 100000 in
theorem met0_quick (l : Launch) (dC : Nat → ClassId) (dI : Nat → Nat → Nat) (dA : ClassId) (H0 : Heap) (h0 q1 q2 q3 : Nat) (f g r : Nat → Int32) (x t : Int32) : Met l yX0_quick (ws_ yX0_quick cX0_quick 4 none) (zr 52 0 0 2100) (zPc [.ref h0, .int x, .int t] H0 (dC, dI) dA (zo 0 dA h0 q1 q2 q3 f g r)) (zQv (fun u : (Nat → Int32) × (Nat → Int32) => zSx f g (zfr x) (zto x t) u.1 u.2) (fun u => zo 0 dA h0 q1 q2 q3 u.1 u.2 r) (dC, dI) dA (zo 0 dA h0 q1 q2 q3 f g r) H0.size) 0 0 (va_A (zo 0 dA h0 q1 q2 q3 f g r) H0.size) := by
  refine zMet_v (cc := cX0_quick) (maxL := 4) (by decide) (Nat.le_of_ble_eq_true rfl) ?_
  intro p e s m args below meth c A Q hx hb hml hts hown hnm hK hP hD hS hA hend ls hl
  have hl : lv_has ls 4 [(0, .ref h0), (1, .int (x)), (2, .int (t))] := hl
  have hown : s.vm.findClass RX0 = some m.cls := hown
  have hP : va_P (dC, dI) vwCl [(h0, .inr (0, [.ref q1, .ref q2, .ref q3])), (q1, .inl (dA, 48, .inl (f))), (q2, .inl (dA, 48, .inl (g))), (q3, .inl (dA, 48, .inl (r)))] H0 := hP
  have hD : va_D A [(h0, .inr (0, [.ref q1, .ref q2, .ref q3])), (q1, .inl (dA, 48, .inl (f))), (q2, .inl (dA, 48, .inl (g))), (q3, .inl (dA, 48, .inl (r)))] := hD
  refine lv_aload_n hx hb dX0_quick_0 rfl (lv_at hl 0 rfl) ?_
  refine lv_iload_n hx hb dX0_quick_1 rfl (lv_at hl 1 rfl) ?_
  refine zcallVp (q := (RX0, TX0, 3)) (ci := 0) (As := [.int (x)]) (rest := []) ⟨hx, hb, hml, hown, hts⟩ [0] (met0_from l dC dI dA H0 h0 q1 q2 q3 x) (cwV 1 hts (lw_V q61 q63 qs0 q5 q64) rfl rfl rfl (by decide +kernel) ⟨Nat.le_of_ble_eq_true rfl, Nat.le_of_ble_eq_true rfl⟩) hK hP hD hS rfl (by decide) rfl rfl rfl rfl hl.1 (Nat.le_of_ble_eq_true rfl) dX0_quick_2 ⟨Nat.le_of_ble_eq_true rfl, Nat.le_of_ble_eq_true rfl⟩ (fun r locs hw hS => ?_)
  obtain rfl : r = zI (((zfr x : Nat) : Int)) := hw
  refine lv_istore_n (lv' := [(3, .int (zI (((zfr x : Nat) : Int)))), (0, .ref h0), (1, .int (x)), (2, .int (t))]) hx hb dX0_quick_5 rfl hl (by decide) rfl (fun ls hl => ?_)
  refine lv_aload_n hx hb dX0_quick_6 rfl (lv_at hl 1 rfl) ?_
  refine va_get (D := (dC, dI)) (ci := 0) (v := .ref q1) (C := RX0) (T := TX0) (N := 3) hx hb hts in_X0 hown hK hP 0 rfl rfl 0 (by decide) (hts _ q24) (fun _ h9 => h9) rfl dX0_quick_7 ?_
  refine lv_aload_n hx hb dX0_quick_10 rfl (lv_at hl 1 rfl) ?_
  refine va_get (D := (dC, dI)) (ci := 0) (v := .ref q2) (C := RX0) (T := TX0) (N := 3) hx hb hts in_X0 hown hK hP 0 rfl rfl 1 (by decide) (hts _ q25) (fun _ h9 => h9) rfl dX0_quick_11 ?_
  refine lv_iload_n hx hb dX0_quick_14 rfl (lv_at hl 0 rfl) ?_
  refine lv_aload_n hx hb dX0_quick_15 rfl (lv_at hl 1 rfl) ?_
  refine lv_iload_n hx hb dX0_quick_16 rfl (lv_at hl 0 rfl) ?_
  refine lv_iload_n hx hb dX0_quick_17 rfl (lv_at hl 3 rfl) ?_
  refine zcallVp (q := (RX0, TX0, 3)) (ci := 0) (As := [.int (zI (((zfr x : Nat) : Int))), .int (t)]) (rest := [.int (zI (((zfr x : Nat) : Int))), .ref q2, .ref q1]) ⟨hx, hb, hml, hown, hts⟩ [0] (met0_to l dC dI dA H0 h0 q1 q2 q3 x t) (cwV 2 hts (lw_V q65 q67 qs1 q5 q68) rfl rfl rfl (by decide +kernel) ⟨Nat.le_of_ble_eq_true rfl, Nat.le_of_ble_eq_true rfl⟩) hK hP hD hS rfl (by decide) rfl rfl rfl rfl hl.1 (Nat.le_of_ble_eq_true rfl) dX0_quick_18 ⟨Nat.le_of_ble_eq_true rfl, Nat.le_of_ble_eq_true rfl⟩ (fun r locs hw hS => ?_)
  obtain rfl : r = zI (((zto x t : Nat) : Int)) := hw
  refine zcallSv (As := [.ref q1, .ref q2, .int (zI (((zfr x : Nat) : Int))), .int (zI (((zto x t : Nat) : Int)))]) (rest := []) (wr := [(h0, .inr (0, [.ref q1, .ref q2, .ref q3])), (q3, .inl (dA, 48, .inl (r)))]) ⟨hx, hb, hml, hown, hts⟩ [1, 2] [0, 3] (met_quick l dC dI dA 49 H0 q1 q2 f g (zfr x) (zto x t) (zfr_to x t) (zto_le x t) (by have := zto_le x t; omega)) (va_cwS 4 hts (lw_S q69 q70 q7 q71) rfl rfl rfl (by decide +kernel) ⟨Nat.le_of_ble_eq_true rfl, Nat.le_of_ble_eq_true rfl⟩) hK hP hD hS hA rfl rfl (by decide) (by decide) (by decide) rfl rfl hl.1 (Nat.le_of_ble_eq_true rfl) dX0_quick_21 ⟨Nat.le_of_ble_eq_true rfl, Nat.le_of_ble_eq_true rfl⟩ (fun u H locs hw hP hD hS => ?_)
  have hP : va_P (dC, dI) vwCl [(h0, .inr (0, [.ref q1, .ref q2, .ref q3])), (q3, .inl (dA, 48, .inl (r))), (q1, .inl (dA, 48, .inl (u.1))), (q2, .inl (dA, 48, .inl (u.2)))] H := hP
  have hD : va_D A [(h0, .inr (0, [.ref q1, .ref q2, .ref q3])), (q3, .inl (dA, 48, .inl (r))), (q1, .inl (dA, 48, .inl (u.1))), (q2, .inl (dA, 48, .inl (u.2)))] := hD
  have hP := hP.sub (ws' := [(h0, .inr (0, [.ref q1, .ref q2, .ref q3])), (q1, .inl (dA, 48, .inl (u.1))), (q2, .inl (dA, 48, .inl (u.2))), (q3, .inl (dA, 48, .inl (r)))]) [0, 2, 3, 1] rfl
  have hD := hD.sub (ws' := [(h0, .inr (0, [.ref q1, .ref q2, .ref q3])), (q1, .inl (dA, 48, .inl (u.1))), (q2, .inl (dA, 48, .inl (u.2))), (q3, .inl (dA, 48, .inl (r)))]) [0, 2, 3, 1] (by decide) rfl
  exact hend _ _ _ _ u dX0_quick_24 (zSx_of hw (zto_le x t)) hP hD hS
set_option maxHeartbeats 4000000 in
set_option maxRecDepth 100000 in
theorem met0_radix (l : Launch) (dC : Nat → ClassId) (dI : Nat → Nat → Nat) (dA : ClassId) (H0 : Heap) (h0 q1 q2 q3 : Nat) (f g r : Nat → Int32) (x t : Int32) : Met l yX0_radix (ws_ yX0_radix cX0_radix 4 none) (zr 53 0 0 2200) (zPc [.ref h0, .int x, .int t] H0 (dC, dI) dA (zo 0 dA h0 q1 q2 q3 f g r)) (zQv (fun u : (Nat → Int32) × (Nat → Int32) => zSx f g (zfr x) (zto x t) u.1 u.2) (fun u => zo 0 dA h0 q1 q2 q3 u.1 u.2 r) (dC, dI) dA (zo 0 dA h0 q1 q2 q3 f g r) H0.size) 0 0 (va_A (zo 0 dA h0 q1 q2 q3 f g r) H0.size) := by
  refine zMet_v (cc := cX0_radix) (maxL := 4) (by decide) (Nat.le_of_ble_eq_true rfl) ?_
  intro p e s m args below meth c A Q hx hb hml hts hown hnm hK hP hD hS hA hend ls hl
  have hl : lv_has ls 4 [(0, .ref h0), (1, .int (x)), (2, .int (t))] := hl
  have hown : s.vm.findClass RX0 = some m.cls := hown
  have hP : va_P (dC, dI) vwCl [(h0, .inr (0, [.ref q1, .ref q2, .ref q3])), (q1, .inl (dA, 48, .inl (f))), (q2, .inl (dA, 48, .inl (g))), (q3, .inl (dA, 48, .inl (r)))] H0 := hP
  have hD : va_D A [(h0, .inr (0, [.ref q1, .ref q2, .ref q3])), (q1, .inl (dA, 48, .inl (f))), (q2, .inl (dA, 48, .inl (g))), (q3, .inl (dA, 48, .inl (r)))] := hD
  refine lv_aload_n hx hb dX0_radix_0 rfl (lv_at hl 0 rfl) ?_
  refine lv_iload_n hx hb dX0_radix_1 rfl (lv_at hl 1 rfl) ?_
  refine zcallVp (q := (RX0, TX0, 3)) (ci := 0) (As := [.int (x)]) (rest := []) ⟨hx, hb, hml, hown, hts⟩ [0] (met0_from l dC dI dA H0 h0 q1 q2 q3 x) (cwV 1 hts (lw_V q61 q63 qs0 q5 q64) rfl rfl rfl (by decide +kernel) ⟨Nat.le_of_ble_eq_true rfl, Nat.le_of_ble_eq_true rfl⟩) hK hP hD hS rfl (by decide) rfl rfl rfl rfl hl.1 (Nat.le_of_ble_eq_true rfl) dX0_radix_2 ⟨Nat.le_of_ble_eq_true rfl, Nat.le_of_ble_eq_true rfl⟩ (fun r locs hw hS => ?_)
  obtain rfl : r = zI (((zfr x : Nat) : Int)) := hw
  refine lv_istore_n (lv' := [(3, .int (zI (((zfr x : Nat) : Int)))), (0, .ref h0), (1, .int (x)), (2, .int (t))]) hx hb dX0_radix_5 rfl hl (by decide) rfl (fun ls hl => ?_)
  refine lv_aload_n hx hb dX0_radix_6 rfl (lv_at hl 1 rfl) ?_
  refine va_get (D := (dC, dI)) (ci := 0) (v := .ref q1) (C := RX0) (T := TX0) (N := 3) hx hb hts in_X0 hown hK hP 0 rfl rfl 0 (by decide) (hts _ q24) (fun _ h9 => h9) rfl dX0_radix_7 ?_
  refine lv_aload_n hx hb dX0_radix_10 rfl (lv_at hl 1 rfl) ?_
  refine va_get (D := (dC, dI)) (ci := 0) (v := .ref q2) (C := RX0) (T := TX0) (N := 3) hx hb hts in_X0 hown hK hP 0 rfl rfl 1 (by decide) (hts _ q25) (fun _ h9 => h9) rfl dX0_radix_11 ?_
  refine lv_iload_n hx hb dX0_radix_14 rfl (lv_at hl 0 rfl) ?_
  refine lv_aload_n hx hb dX0_radix_15 rfl (lv_at hl 1 rfl) ?_
  refine lv_iload_n hx hb dX0_radix_16 rfl (lv_at hl 0 rfl) ?_
  refine lv_iload_n hx hb dX0_radix_17 rfl (lv_at hl 3 rfl) ?_
  refine zcallVp (q := (RX0, TX0, 3)) (ci := 0) (As := [.int (zI (((zfr x : Nat) : Int))), .int (t)]) (rest := [.int (zI (((zfr x : Nat) : Int))), .ref q2, .ref q1]) ⟨hx, hb, hml, hown, hts⟩ [0] (met0_to l dC dI dA H0 h0 q1 q2 q3 x t) (cwV 2 hts (lw_V q65 q67 qs1 q5 q68) rfl rfl rfl (by decide +kernel) ⟨Nat.le_of_ble_eq_true rfl, Nat.le_of_ble_eq_true rfl⟩) hK hP hD hS rfl (by decide) rfl rfl rfl rfl hl.1 (Nat.le_of_ble_eq_true rfl) dX0_radix_18 ⟨Nat.le_of_ble_eq_true rfl, Nat.le_of_ble_eq_true rfl⟩ (fun r locs hw hS => ?_)
  obtain rfl : r = zI (((zto x t : Nat) : Int)) := hw
  refine zcallSv (As := [.ref q1, .ref q2, .int (zI (((zfr x : Nat) : Int))), .int (zI (((zto x t : Nat) : Int)))]) (rest := []) (wr := [(h0, .inr (0, [.ref q1, .ref q2, .ref q3])), (q3, .inl (dA, 48, .inl (r)))]) ⟨hx, hb, hml, hown, hts⟩ [1, 2] [0, 3] (met_radix l dC dI dA H0 q1 q2 f g (zfr x) (zto x t) (zfr_to x t) (zto_le x t)) (va_cwS 4 hts (lw_S q95 q96 q7 q97) rfl rfl rfl (by decide +kernel) ⟨Nat.le_of_ble_eq_true rfl, Nat.le_of_ble_eq_true rfl⟩) hK hP hD hS hA rfl rfl (by decide) (by decide) (by decide) rfl rfl hl.1 (Nat.le_of_ble_eq_true rfl) dX0_radix_21 ⟨Nat.le_of_ble_eq_true rfl, Nat.le_of_ble_eq_true rfl⟩ (fun u H locs hw hP hD hS => ?_)
  have hP : va_P (dC, dI) vwCl [(h0, .inr (0, [.ref q1, .ref q2, .ref q3])), (q3, .inl (dA, 48, .inl (r))), (q1, .inl (dA, 48, .inl (u.1))), (q2, .inl (dA, 48, .inl (u.2)))] H := hP
  have hD : va_D A [(h0, .inr (0, [.ref q1, .ref q2, .ref q3])), (q3, .inl (dA, 48, .inl (r))), (q1, .inl (dA, 48, .inl (u.1))), (q2, .inl (dA, 48, .inl (u.2)))] := hD
  have hP := hP.sub (ws' := [(h0, .inr (0, [.ref q1, .ref q2, .ref q3])), (q1, .inl (dA, 48, .inl (u.1))), (q2, .inl (dA, 48, .inl (u.2))), (q3, .inl (dA, 48, .inl (r)))]) [0, 2, 3, 1] rfl
  have hD := hD.sub (ws' := [(h0, .inr (0, [.ref q1, .ref q2, .ref q3])), (q1, .inl (dA, 48, .inl (u.1))), (q2, .inl (dA, 48, .inl (u.2))), (q3, .inl (dA, 48, .inl (r)))]) [0, 2, 3, 1] (by decide) rfl
  exact hend _ _ _ _ u dX0_radix_24 (zSx_of hw (zto_le x t)) hP hD hS
set_option maxHeartbeats 4000000 in
set_option maxRecDepth 100000 in
theorem met0_indirect (l : Launch) (dC : Nat → ClassId) (dI : Nat → Nat → Nat) (dA : ClassId) (H0 : Heap) (h0 q1 q2 q3 : Nat) (f g r : Nat → Int32) (x t : Int32) : Met l yX0_indirect (ws_ yX0_indirect cX0_indirect 6 none) (zr 3 0 0 100) (zPc [.ref h0, .int x, .int t] H0 (dC, dI) dA (zo 0 dA h0 q1 q2 q3 f g r)) (zQv (fun u : Nat → Int32 => zIx f g (zfr x) (zto x t) r u) (fun u => zo 0 dA h0 q1 q2 q3 f g u) (dC, dI) dA (zo 0 dA h0 q1 q2 q3 f g r) H0.size) 0 0 (va_A (zo 0 dA h0 q1 q2 q3 f g r) H0.size) := by
  refine zMet_v (cc := cX0_indirect) (maxL := 6) (by decide) (Nat.le_of_ble_eq_true rfl) ?_
  intro p e s m args below meth c A Q hx hb hml hts hown hnm hK hP hD hS hA hend ls hl
  have hl : lv_has ls 6 [(0, .ref h0), (1, .int (x)), (2, .int (t))] := hl
  have hown : s.vm.findClass RX0 = some m.cls := hown
  have hP : va_P (dC, dI) vwCl [(h0, .inr (0, [.ref q1, .ref q2, .ref q3])), (q1, .inl (dA, 48, .inl (f))), (q2, .inl (dA, 48, .inl (g))), (q3, .inl (dA, 48, .inl (r)))] H0 := hP
  have hD : va_D A [(h0, .inr (0, [.ref q1, .ref q2, .ref q3])), (q1, .inl (dA, 48, .inl (f))), (q2, .inl (dA, 48, .inl (g))), (q3, .inl (dA, 48, .inl (r)))] := hD
  have hle := zto_le x t
  have hlh := zfr_to x t
  have loop : ∀ (k i : Nat) (r2 : Nat → Int32) (H : Heap) (locs : List Loc) (ls : Array Slot), i + k = zto x t → zfr x ≤ i → (∀ j, zfr x ≤ j → j < i → r2 j = zI (j : Int)) → (∀ j, j < zfr x ∨ i ≤ j → r2 j = r j) → va_P (dC, dI) vwCl [(h0, .inr (0, [.ref q1, .ref q2, .ref q3])), (q1, .inl (dA, 48, .inl (f))), (q2, .inl (dA, 48, .inl (g))), (q3, .inl (dA, 48, .inl (r2)))] H → va_D A [(h0, .inr (0, [.ref q1, .ref q2, .ref q3])), (q1, .inl (dA, 48, .inl (f))), (q2, .inl (dA, 48, .inl (g))), (q3, .inl (dA, 48, .inl (r2)))] → va_S A H0 H locs → lv_has ls 6 [(0, .ref h0), (3, .int (zI (((zfr x : Nat) : Int)))), (4, .int (zI (((zto x t : Nat) : Int)))), (5, .int (zI ((i : Int))))] → W p l e (zr 3 0 0 100) s m args below meth c H locs 0 0 Q (F0 m 17 ls []) := by
    intro k
    induction k with
    | zero =>
      intro i r2 H locs ls h1 h1b h2 h3 hP hD hS hl
      refine lv_iload hx hb dX0_indirect_17 (lv_at hl 3 rfl) ?_
      refine lv_iload hx hb dX0_indirect_19 (lv_at hl 2 rfl) ?_
      refine kz_icmp_ge (tgt := 39) hx hb dX0_indirect_21 (by decide) (by omega) (fun c1 => ?_) (fun c1 => ?_)
      · skip
        refine lv_aload_n hx hb dX0_indirect_39 rfl (lv_at hl 0 rfl) ?_
        refine va_get (D := (dC, dI)) (ci := 0) (v := .ref q3) (C := RX0) (T := TX0) (N := 3) hx hb hts in_X0 hown hK hP 0 rfl rfl 2 (by decide) (hts _ q26) (fun _ h9 => h9) rfl dX0_indirect_40 ?_
        refine lv_aload_n hx hb dX0_indirect_43 rfl (lv_at hl 0 rfl) ?_
        refine va_get (D := (dC, dI)) (ci := 0) (v := .ref q1) (C := RX0) (T := TX0) (N := 3) hx hb hts in_X0 hown hK hP 0 rfl rfl 0 (by decide) (hts _ q24) (fun _ h9 => h9) rfl dX0_indirect_44 ?_
        refine lv_aload_n hx hb dX0_indirect_47 rfl (lv_at hl 0 rfl) ?_
        refine va_get (D := (dC, dI)) (ci := 0) (v := .ref q2) (C := RX0) (T := TX0) (N := 3) hx hb hts in_X0 hown hK hP 0 rfl rfl 1 (by decide) (hts _ q25) (fun _ h9 => h9) rfl dX0_indirect_48 ?_
        refine lv_iload_n hx hb dX0_indirect_51 rfl (lv_at hl 1 rfl) ?_
        refine lv_iload hx hb dX0_indirect_52 (lv_at hl 2 rfl) ?_
        refine lv_iconst (v := zI (1)) hx hb dX0_indirect_54 rfl ?_
        refine zcallSv (As := [.ref q3, .ref q1, .ref q2, .int (zI (((zfr x : Nat) : Int))), .int (zI (((zto x t : Nat) : Int))), .int (zI (1))]) (rest := []) (wr := [(h0, .inr (0, [.ref q1, .ref q2, .ref q3]))]) ⟨hx, hb, hml, hown, hts⟩ [3, 1, 2] [0] (met_rin l dC dI dA H q3 q1 q2 r2 f g (zfr x) (zto x t) hlh hle (fun j g1 g2 => h2 j g1 (by omega))) (va_cwS 6 hts (lw_S q102 q103 q7 q104) rfl rfl rfl (by decide +kernel) ⟨Nat.le_of_ble_eq_true rfl, Nat.le_of_ble_eq_true rfl⟩) hK hP hD hS hA rfl rfl (by decide) (by decide) (by decide) rfl rfl hl.1 (Nat.le_of_ble_eq_true rfl) dX0_indirect_55 ⟨Nat.le_of_ble_eq_true rfl, Nat.le_of_ble_eq_true rfl⟩ (fun u H locs hw hP hD hS => ?_)
        have hP : va_P (dC, dI) vwCl [(h0, .inr (0, [.ref q1, .ref q2, .ref q3])), (q3, .inl (dA, 48, .inl (u))), (q1, .inl (dA, 48, .inl (f))), (q2, .inl (dA, 48, .inl (g)))] H := hP
        have hD : va_D A [(h0, .inr (0, [.ref q1, .ref q2, .ref q3])), (q3, .inl (dA, 48, .inl (u))), (q1, .inl (dA, 48, .inl (f))), (q2, .inl (dA, 48, .inl (g)))] := hD
        have hP := hP.sub (ws' := [(h0, .inr (0, [.ref q1, .ref q2, .ref q3])), (q1, .inl (dA, 48, .inl (f))), (q2, .inl (dA, 48, .inl (g))), (q3, .inl (dA, 48, .inl (u)))]) [0, 2, 3, 1] rfl
        have hD := hD.sub (ws' := [(h0, .inr (0, [.ref q1, .ref q2, .ref q3])), (q1, .inl (dA, 48, .inl (f))), (q2, .inl (dA, 48, .inl (g))), (q3, .inl (dA, 48, .inl (u)))]) [0, 2, 3, 1] (by decide) rfl
        refine hend _ _ _ _ u dX0_indirect_58 (fun y hy => ?_) hP hD hS
        rw [hw y hy]
        by_cases q : zfr x ≤ y ∧ y < zto x t
        · rw [if_pos q, if_pos q]
        · rw [if_neg q, if_neg q]
          exact h3 y (by omega)
      · skip
        omega
    | succ k ih =>
      intro i r2 H locs ls h1 h1b h2 h3 hP hD hS hl
      refine lv_iload hx hb dX0_indirect_17 (lv_at hl 3 rfl) ?_
      refine lv_iload hx hb dX0_indirect_19 (lv_at hl 2 rfl) ?_
      refine kz_icmp_ge (tgt := 39) hx hb dX0_indirect_21 (by decide) (by omega) (fun c1 => ?_) (fun c1 => ?_)
      · skip
        omega
      · skip
        refine lv_aload_n hx hb dX0_indirect_24 rfl (lv_at hl 0 rfl) ?_
        refine va_get (D := (dC, dI)) (ci := 0) (v := .ref q3) (C := RX0) (T := TX0) (N := 3) hx hb hts in_X0 hown hK hP 0 rfl rfl 2 (by decide) (hts _ q26) (fun _ h9 => h9) rfl dX0_indirect_25 ?_
        refine lv_iload hx hb dX0_indirect_28 (lv_at hl 3 rfl) ?_
        refine lv_iload hx hb dX0_indirect_30 (lv_at hl 3 rfl) ?_
        refine kz_iast (k := i) hx hb hK hP hD hS 3 0 rfl rfl (by omega) (by omega) (by omega) dX0_indirect_32 (fun H locs hP hD hS => ?_)
        have hP : va_P (dC, dI) vwCl [(h0, .inr (0, [.ref q1, .ref q2, .ref q3])), (q1, .inl (dA, 48, .inl (f))), (q2, .inl (dA, 48, .inl (g))), (q3, .inl (dA, 48, .inl (upd r2 i (zI ((i : Int))))))] H := hP
        have hD : va_D A [(h0, .inr (0, [.ref q1, .ref q2, .ref q3])), (q1, .inl (dA, 48, .inl (f))), (q2, .inl (dA, 48, .inl (g))), (q3, .inl (dA, 48, .inl (upd r2 i (zI ((i : Int))))))] := hD
        refine kz_iinc (E := ((i + 1 : Nat) : Int)) (lv' := [(5, .int (zI (((i + 1 : Nat) : Int)))), (0, .ref h0), (3, .int (zI (((zfr x : Nat) : Int)))), (4, .int (zI (((zto x t : Nat) : Int))))]) hx hb dX0_indirect_33 hl (k := 3) rfl (by omega) (by decide) rfl (fun ls hl => ?_)
        refine lv_goto (tgt := 17) hx hb dX0_indirect_36 (by decide) ?_
        refine ih (i + 1) (upd r2 i (zI (i : Int))) H locs ls (by omega) (by omega) (fun j g1 g2 => ?_) (fun j hj => ?_) hP hD hS (lv_sub hl [1, 2, 3, 0] rfl)
        · show (if j = i then zI (i : Int) else r2 j) = zI (j : Int)
          by_cases e : j = i
          · rw [if_pos e, e]
          · rw [if_neg e]
            exact h2 j g1 (by omega)
        · show (if j = i then zI (i : Int) else r2 j) = r j
          rw [if_neg (by omega)]
          exact h3 j (by omega)
  refine lv_aload_n hx hb dX0_indirect_0 rfl (lv_at hl 0 rfl) ?_
  refine lv_iload_n hx hb dX0_indirect_1 rfl (lv_at hl 1 rfl) ?_
  refine zcallVp (q := (RX0, TX0, 3)) (ci := 0) (As := [.int (x)]) (rest := []) ⟨hx, hb, hml, hown, hts⟩ [0] (met0_from l dC dI dA H0 h0 q1 q2 q3 x) (cwV 1 hts (lw_V q61 q63 qs0 q5 q64) rfl rfl rfl (by decide +kernel) ⟨Nat.le_of_ble_eq_true rfl, Nat.le_of_ble_eq_true rfl⟩) hK hP hD hS rfl (by decide) rfl rfl rfl rfl hl.1 (Nat.le_of_ble_eq_true rfl) dX0_indirect_2 ⟨Nat.le_of_ble_eq_true rfl, Nat.le_of_ble_eq_true rfl⟩ (fun r locs hw hS => ?_)
  obtain rfl : r = zI (((zfr x : Nat) : Int)) := hw
  refine lv_istore_n (lv' := [(3, .int (zI (((zfr x : Nat) : Int)))), (0, .ref h0), (1, .int (x)), (2, .int (t))]) hx hb dX0_indirect_5 rfl hl (by decide) rfl (fun ls hl => ?_)
  refine lv_aload_n hx hb dX0_indirect_6 rfl (lv_at hl 1 rfl) ?_
  refine lv_iload_n hx hb dX0_indirect_7 rfl (lv_at hl 0 rfl) ?_
  refine lv_iload_n hx hb dX0_indirect_8 rfl (lv_at hl 3 rfl) ?_
  refine zcallVp (q := (RX0, TX0, 3)) (ci := 0) (As := [.int (zI (((zfr x : Nat) : Int))), .int (t)]) (rest := []) ⟨hx, hb, hml, hown, hts⟩ [0] (met0_to l dC dI dA H0 h0 q1 q2 q3 x t) (cwV 2 hts (lw_V q65 q67 qs1 q5 q68) rfl rfl rfl (by decide +kernel) ⟨Nat.le_of_ble_eq_true rfl, Nat.le_of_ble_eq_true rfl⟩) hK hP hD hS rfl (by decide) rfl rfl rfl rfl hl.1 (Nat.le_of_ble_eq_true rfl) dX0_indirect_9 ⟨Nat.le_of_ble_eq_true rfl, Nat.le_of_ble_eq_true rfl⟩ (fun r locs hw hS => ?_)
  obtain rfl : r = zI (((zto x t : Nat) : Int)) := hw
  refine lv_istore (lv' := [(4, .int (zI (((zto x t : Nat) : Int)))), (3, .int (zI (((zfr x : Nat) : Int)))), (0, .ref h0), (1, .int (x)), (2, .int (t))]) hx hb dX0_indirect_12 hl (by decide) rfl (fun ls hl => ?_)
  refine lv_iload_n hx hb dX0_indirect_14 rfl (lv_at hl 1 rfl) ?_
  refine lv_istore (lv' := [(5, .int (zI (((zfr x : Nat) : Int)))), (4, .int (zI (((zto x t : Nat) : Int)))), (3, .int (zI (((zfr x : Nat) : Int)))), (0, .ref h0), (1, .int (x)), (2, .int (t))]) hx hb dX0_indirect_15 hl (by decide) rfl (fun ls hl => ?_)
  exact loop (zto x t - zfr x) (zfr x) r H0 locs ls (by omega) (Nat.le_refl _) (fun j g1 g2 => by omega) (fun _ _ => rfl) hP hD hS (lv_sub hl [3, 2, 1, 0] rfl)
end
section
set_option maxHeartbeats 4000000 in
set_option maxRecDepth 100000 in
theorem met1_anew (l : Launch) (dC : Nat → ClassId) (dI : Nat → Nat → Nat) (dA : ClassId) (H0 : Heap) (h0 q1 q2 q3 : Nat) (f g r : Nat → Int32) : Met l yX1_anew (ws_ yX1_anew cX1_anew 2 none) (zr 0 0 0 0) (zPc [.ref h0] H0 (dC, dI) dA (zo 1 dA h0 q1 q2 q3 f g r)) (zQv (fun u : Nat → Int32 => ∀ j, j < 48 → u j = zI (j : Int)) (fun u => zo 1 dA h0 q1 q2 q3 f g u) (dC, dI) dA (zo 1 dA h0 q1 q2 q3 f g r) H0.size) 0 0 (va_A (zo 1 dA h0 q1 q2 q3 f g r) H0.size) := by
  refine zMet_v (cc := cX1_anew) (maxL := 2) (by decide) (Nat.le_of_ble_eq_true rfl) ?_
  intro p e s m args below meth c A Q hx hb hml hts hown hnm hK hP hD hS hA hend ls hl
  have hl : lv_has ls 2 [(0, .ref h0)] := hl
  have hown : s.vm.findClass RX1 = some m.cls := hown
  have hP : va_P (dC, dI) vwCl [(h0, .inr (1, [.ref q1, .ref q2, .ref q3])), (q1, .inl (dA, 48, .inl (f))), (q2, .inl (dA, 48, .inl (g))), (q3, .inl (dA, 48, .inl (r)))] H0 := hP
  have hD : va_D A [(h0, .inr (1, [.ref q1, .ref q2, .ref q3])), (q1, .inl (dA, 48, .inl (f))), (q2, .inl (dA, 48, .inl (g))), (q3, .inl (dA, 48, .inl (r)))] := hD
  have loop : ∀ (k i : Nat) (r2 : Nat → Int32) (H : Heap) (locs : List Loc) (ls : Array Slot), i + k = 48 → (∀ j, j < i → r2 j = zI (j : Int)) → va_P (dC, dI) vwCl [(h0, .inr (1, [.ref q1, .ref q2, .ref q3])), (q1, .inl (dA, 48, .inl (f))), (q2, .inl (dA, 48, .inl (g))), (q3, .inl (dA, 48, .inl (r2)))] H → va_D A [(h0, .inr (1, [.ref q1, .ref q2, .ref q3])), (q1, .inl (dA, 48, .inl (f))), (q2, .inl (dA, 48, .inl (g))), (q3, .inl (dA, 48, .inl (r2)))] → va_S A H0 H locs → lv_has ls 2 [(0, .ref h0), (1, .int (zI ((i : Int))))] → W p l e (zr 0 0 0 0) s m args below meth c H locs 0 0 Q (F0 m 2 ls []) := by
    intro k
    induction k with
    | zero =>
      intro i r2 H locs ls h1 h2 hP hD hS hl
      refine lv_iload_n hx hb dX1_anew_2 rfl (lv_at hl 1 rfl) ?_
      refine lv_bipush (v := zI (48)) hx hb dX1_anew_3 (by decide +kernel) ?_
      refine kz_icmp_ge (tgt := 21) hx hb dX1_anew_5 (by decide) (by omega) (fun c1 => ?_) (fun c1 => ?_)
      · skip
        exact hend _ _ _ _ r2 dX1_anew_21 (fun j hj => h2 j (by omega)) hP hD hS
      · skip
        omega
    | succ k ih =>
      intro i r2 H locs ls h1 h2 hP hD hS hl
      refine lv_iload_n hx hb dX1_anew_2 rfl (lv_at hl 1 rfl) ?_
      refine lv_bipush (v := zI (48)) hx hb dX1_anew_3 (by decide +kernel) ?_
      refine kz_icmp_ge (tgt := 21) hx hb dX1_anew_5 (by decide) (by omega) (fun c1 => ?_) (fun c1 => ?_)
      · skip
        omega
      · skip
        refine lv_aload_n hx hb dX1_anew_8 rfl (lv_at hl 0 rfl) ?_
        refine va_get (D := (dC, dI)) (ci := 1) (v := .ref q3) (C := RX1) (T := TX1) (N := 3) hx hb hts in_X1 hown hK hP 0 rfl rfl 2 (by decide) (hts _ q126) (fun _ h9 => h9) rfl dX1_anew_9 ?_
        refine lv_iload_n hx hb dX1_anew_12 rfl (lv_at hl 1 rfl) ?_
        refine lv_iload_n hx hb dX1_anew_13 rfl (lv_at hl 1 rfl) ?_
        refine kz_iast (k := i) hx hb hK hP hD hS 3 0 rfl rfl (by omega) (by omega) (by omega) dX1_anew_14 (fun H locs hP hD hS => ?_)
        have hP : va_P (dC, dI) vwCl [(h0, .inr (1, [.ref q1, .ref q2, .ref q3])), (q1, .inl (dA, 48, .inl (f))), (q2, .inl (dA, 48, .inl (g))), (q3, .inl (dA, 48, .inl (upd r2 i (zI ((i : Int))))))] H := hP
        have hD : va_D A [(h0, .inr (1, [.ref q1, .ref q2, .ref q3])), (q1, .inl (dA, 48, .inl (f))), (q2, .inl (dA, 48, .inl (g))), (q3, .inl (dA, 48, .inl (upd r2 i (zI ((i : Int))))))] := hD
        refine kz_iinc (E := ((i + 1 : Nat) : Int)) (lv' := [(1, .int (zI (((i + 1 : Nat) : Int)))), (0, .ref h0)]) hx hb dX1_anew_15 hl (k := 1) rfl (by omega) (by decide) rfl (fun ls hl => ?_)
        refine lv_goto (tgt := 2) hx hb dX1_anew_18 (by decide) ?_
        refine ih (i + 1) (upd r2 i (zI (i : Int))) H locs ls (by omega) (fun j hj => ?_) hP hD hS (lv_sub hl [1, 0] rfl)
        show (if j = i then zI (i : Int) else r2 j) = zI (j : Int)
        by_cases e : j = i
        · rw [if_pos e, e]
        · rw [if_neg e]
          exact h2 j (by omega)
  refine lv_iconst (v := zI (0)) hx hb dX1_anew_0 rfl ?_
  refine lv_istore_n (lv' := [(1, .int (zI (0))), (0, .ref h0)]) hx hb dX1_anew_1 rfl hl (by decide) rfl (fun ls hl => ?_)
  exact loop 48 0 r H0 [] ls (by omega) (fun j hj => absurd hj (Nat.not_lt_zero _)) hP hD hS (lv_sub hl [1, 0] rfl)
set_option maxHeartbeats 4000000 in
set_option maxRecDepth 100000 in
theorem met1_init (l : Launch) (dC : Nat → ClassId) (dI : Nat → Nat → Nat) (dA : ClassId) (H0 : Heap) (h0 : Nat) : Met l yX1_init (ws_ yX1_init cX1_init 1 none) (zr 3 3 144 100) (zPc [.ref h0] H0 (dC, dI) dA ([(h0, .inr (1, [.null, .null, .null]))])) (zQv (fun u : (Nat × Nat × Nat) × (Nat → Int32) => ∀ j, j < 48 → u.2 j = zI (j : Int)) (fun u => zo 1 dA h0 u.1.1 u.1.2.1 u.1.2.2 (fun _ => 0) (fun _ => 0) u.2) (dC, dI) dA ([(h0, .inr (1, [.null, .null, .null]))]) H0.size) 3 144 (va_A ([(h0, .inr (1, [.null, .null, .null]))]) H0.size) := by
  refine zMet_v (cc := cX1_init) (maxL := 1) (by decide) (Nat.le_of_ble_eq_true rfl) ?_
  intro p e s m args below meth c A Q hx hb hml hts hown hnm hK hP hD hS hA hend ls hl
  have hl : lv_has ls 1 [(0, .ref h0)] := hl
  have hown : s.vm.findClass RX1 = some m.cls := hown
  have hP : va_P (dC, dI) vwCl [(h0, .inr (1, [.null, .null, .null]))] H0 := hP
  have hD : va_D A [(h0, .inr (1, [.null, .null, .null]))] := hD
  refine lv_aload_n hx hb dX1_init_0 rfl (lv_at hl 0 rfl) ?_
  refine W.objInit hx hb hown (hts _ q119) (hts _ q18) (hts _ q19) rfl (by rw [hml]; exact hl.1) rfl dX1_init_1 (Nat.le_of_ble_eq_true rfl) (Nat.le_of_ble_eq_true rfl) ?_
  refine W.eq (g2 := F0 m 4 ls []) rfl ?_
  refine lv_aload_n hx hb dX1_init_4 rfl (lv_at hl 0 rfl) ?_
  refine lv_bipush (v := zI (48)) hx hb dX1_init_5 (by decide +kernel) ?_
  refine kz_newa hx hb (hts _ q34) hK hP hD hS hA (Nat.le_of_ble_eq_true rfl) (Nat.le_of_ble_eq_true rfl) dX1_init_7 (fun n1 H hP hD hS => ?_)
  have hP : va_P (dC, dI) vwCl [(h0, .inr (1, [.null, .null, .null])), (n1, .inl (dA, 48, .inl (fun _ => 0)))] H := hP
  have hD : va_D A [(h0, .inr (1, [.null, .null, .null])), (n1, .inl (dA, 48, .inl (fun _ => 0)))] := hD
  refine va_put (D := (dC, dI)) (ci := 1) (v := .ref n1) (ty := .array .int) (C := RX1) (T := TX1) (N := 3) hx hb hts in_X1 tyX1 tyX1_ok nmX1 hown hK hP hD hS 0 rfl rfl 0 (by decide) (hts _ q124) (fun _ h9 => h9) rfl (by decide +kernel) rfl rfl (Nat.le_of_ble_eq_true rfl) dX1_init_9 (fun H locs hP hD hS => ?_)
  have hP : va_P (dC, dI) vwCl [(h0, .inr (1, [.ref n1, .null, .null])), (n1, .inl (dA, 48, .inl (fun _ => 0)))] H := hP
  have hD : va_D A [(h0, .inr (1, [.ref n1, .null, .null])), (n1, .inl (dA, 48, .inl (fun _ => 0)))] := hD
  refine lv_aload_n hx hb dX1_init_12 rfl (lv_at hl 0 rfl) ?_
  refine lv_bipush (v := zI (48)) hx hb dX1_init_13 (by decide +kernel) ?_
  refine kz_newa hx hb (hts _ q34) hK hP hD hS hA (Nat.le_of_ble_eq_true rfl) (Nat.le_of_ble_eq_true rfl) dX1_init_15 (fun n2 H hP hD hS => ?_)
  have hP : va_P (dC, dI) vwCl [(h0, .inr (1, [.ref n1, .null, .null])), (n1, .inl (dA, 48, .inl (fun _ => 0))), (n2, .inl (dA, 48, .inl (fun _ => 0)))] H := hP
  have hD : va_D A [(h0, .inr (1, [.ref n1, .null, .null])), (n1, .inl (dA, 48, .inl (fun _ => 0))), (n2, .inl (dA, 48, .inl (fun _ => 0)))] := hD
  refine va_put (D := (dC, dI)) (ci := 1) (v := .ref n2) (ty := .array .int) (C := RX1) (T := TX1) (N := 3) hx hb hts in_X1 tyX1 tyX1_ok nmX1 hown hK hP hD hS 0 rfl rfl 1 (by decide) (hts _ q125) (fun _ h9 => h9) rfl (by decide +kernel) rfl rfl (Nat.le_of_ble_eq_true rfl) dX1_init_17 (fun H locs hP hD hS => ?_)
  have hP : va_P (dC, dI) vwCl [(h0, .inr (1, [.ref n1, .ref n2, .null])), (n1, .inl (dA, 48, .inl (fun _ => 0))), (n2, .inl (dA, 48, .inl (fun _ => 0)))] H := hP
  have hD : va_D A [(h0, .inr (1, [.ref n1, .ref n2, .null])), (n1, .inl (dA, 48, .inl (fun _ => 0))), (n2, .inl (dA, 48, .inl (fun _ => 0)))] := hD
  refine lv_aload_n hx hb dX1_init_20 rfl (lv_at hl 0 rfl) ?_
  refine lv_bipush (v := zI (48)) hx hb dX1_init_21 (by decide +kernel) ?_
  refine kz_newa hx hb (hts _ q34) hK hP hD hS hA (Nat.le_of_ble_eq_true rfl) (Nat.le_of_ble_eq_true rfl) dX1_init_23 (fun n3 H hP hD hS => ?_)
  have hP : va_P (dC, dI) vwCl [(h0, .inr (1, [.ref n1, .ref n2, .null])), (n1, .inl (dA, 48, .inl (fun _ => 0))), (n2, .inl (dA, 48, .inl (fun _ => 0))), (n3, .inl (dA, 48, .inl (fun _ => 0)))] H := hP
  have hD : va_D A [(h0, .inr (1, [.ref n1, .ref n2, .null])), (n1, .inl (dA, 48, .inl (fun _ => 0))), (n2, .inl (dA, 48, .inl (fun _ => 0))), (n3, .inl (dA, 48, .inl (fun _ => 0)))] := hD
  refine va_put (D := (dC, dI)) (ci := 1) (v := .ref n3) (ty := .array .int) (C := RX1) (T := TX1) (N := 3) hx hb hts in_X1 tyX1 tyX1_ok nmX1 hown hK hP hD hS 0 rfl rfl 2 (by decide) (hts _ q126) (fun _ h9 => h9) rfl (by decide +kernel) rfl rfl (Nat.le_of_ble_eq_true rfl) dX1_init_25 (fun H locs hP hD hS => ?_)
  have hP : va_P (dC, dI) vwCl [(h0, .inr (1, [.ref n1, .ref n2, .ref n3])), (n1, .inl (dA, 48, .inl (fun _ => 0))), (n2, .inl (dA, 48, .inl (fun _ => 0))), (n3, .inl (dA, 48, .inl (fun _ => 0)))] H := hP
  have hD : va_D A [(h0, .inr (1, [.ref n1, .ref n2, .ref n3])), (n1, .inl (dA, 48, .inl (fun _ => 0))), (n2, .inl (dA, 48, .inl (fun _ => 0))), (n3, .inl (dA, 48, .inl (fun _ => 0)))] := hD
  refine lv_aload_n hx hb dX1_init_28 rfl (lv_at hl 0 rfl) ?_
  refine zcallVv (q := (RX1, TX1, 3)) (ci := 1) (As := []) (rest := []) (wr := []) ⟨hx, hb, hml, hown, hts⟩ [0, 1, 2, 3] [] (met1_anew l dC dI dA H h0 n1 n2 n3 (fun _ => 0) (fun _ => 0) (fun _ => 0)) (cwV 0 hts (lw_V q120 q121 q122 q6 q123) rfl rfl rfl (by decide +kernel) ⟨Nat.le_of_ble_eq_true rfl, Nat.le_of_ble_eq_true rfl⟩) hK hP hD hS hA rfl rfl (by decide) (by decide) (by decide) rfl rfl rfl rfl hl.1 (Nat.le_of_ble_eq_true rfl) dX1_init_29 ⟨Nat.le_of_ble_eq_true rfl, Nat.le_of_ble_eq_true rfl⟩ (fun u H locs hw hP hD hS => ?_)
  have hP : va_P (dC, dI) vwCl [(h0, .inr (1, [.ref n1, .ref n2, .ref n3])), (n1, .inl (dA, 48, .inl (fun _ => 0))), (n2, .inl (dA, 48, .inl (fun _ => 0))), (n3, .inl (dA, 48, .inl (u)))] H := hP
  have hD : va_D A [(h0, .inr (1, [.ref n1, .ref n2, .ref n3])), (n1, .inl (dA, 48, .inl (fun _ => 0))), (n2, .inl (dA, 48, .inl (fun _ => 0))), (n3, .inl (dA, 48, .inl (u)))] := hD
  exact hend _ _ _ _ ((n1, n2, n3), u) dX1_init_32 hw hP hD hS
set_option maxHeartbeats 4000000 in
set_option maxRecDepth 100000 in
theorem met1_plain (l : Launch) (dC : Nat → ClassId) (dI : Nat → Nat → Nat) (dA : ClassId) (H0 : Heap) (x : Int32) : Met l yX1_plain (ws_ yX1_plain cX1_plain 1 (some .int)) (zr 0 0 0 0) (zPc [.int x] H0 (dC, dI) dA ([])) (zQp (fun r => r = zI (zw x : Int)) H0) 0 0 (fun _ => False) := by
  refine zMet_p (cc := cX1_plain) (maxL := 1) (ty := .int) (by decide) (Nat.le_of_ble_eq_true rfl) ?_
  intro p e s m args below meth c Q hx hb hml hts hown hK hP hD hS hend ls hl
  have hl : lv_has ls 1 [(0, .int (x))] := hl
  have hown : s.vm.findClass RX1 = some m.cls := hown
  refine lv_iload_n hx hb dX1_plain_0 rfl (lv_at hl 0 rfl) ?_
  refine lv_ldc hx hb hown (hts _ q142) dX1_plain_1 ?_
  refine kz_and31 hx hb dX1_plain_3 ?_
  exact hend _ _ ls _ dX1_plain_4 rfl rfl hS
set_option maxHeartbeats 4000000 in
set_option maxRecDepth 100000 in
theorem met1_from (l : Launch) (dC : Nat → ClassId) (dI : Nat → Nat → Nat) (dA : ClassId) (H0 : Heap) (x : Int32) : Met l yX1_from (ws_ yX1_from cX1_from 1 (some .int)) (zr 1 0 0 20) (zPc [.int x] H0 (dC, dI) dA ([])) (zQp (fun r => r = zI ((zfr x : Nat) : Int)) H0) 0 0 (fun _ => False) := by
  refine zMet_p (cc := cX1_from) (maxL := 1) (ty := .int) (by decide) (Nat.le_of_ble_eq_true rfl) ?_
  intro p e s m args below meth c Q hx hb hml hts hown hK hP hD hS hend ls hl
  have hl : lv_has ls 1 [(0, .int (x))] := hl
  have hown : s.vm.findClass RX1 = some m.cls := hown
  refine lv_iload_n hx hb dX1_from_0 rfl (lv_at hl 0 rfl) ?_
  refine zcallSp (As := [.int (x)]) (rest := []) ⟨hx, hb, hml, hown, hts⟩ [] (met1_plain l dC dI dA H0 x) (va_cwS 1 hts (lw_S q139 q140 q6 q141) rfl rfl rfl (by decide +kernel) ⟨Nat.le_of_ble_eq_true rfl, Nat.le_of_ble_eq_true rfl⟩) hK hP hD hS rfl (by decide) rfl rfl hl.1 (Nat.le_of_ble_eq_true rfl) dX1_from_1 ⟨Nat.le_of_ble_eq_true rfl, Nat.le_of_ble_eq_true rfl⟩ (fun r locs hw hS => ?_)
  obtain rfl : r = zI ((zw x : Int)) := hw
  refine lv_bipush (v := zI (49)) hx hb dX1_from_4 (by decide +kernel) ?_
  refine kz_irem (zw x) (49) hx hb dX1_from_6 (zI_c (by omega)) (zI_c (by omega)) (zw_lt _) (by omega) (by omega) ?_
  exact hend _ _ ls _ dX1_from_7 rfl rfl hS
set_option maxHeartbeats 4000000 in
set_option maxRecDepth 100000 in
theorem met1_to (l : Launch) (dC : Nat → ClassId) (dI : Nat → Nat → Nat) (dA : ClassId) (H0 : Heap) (x t : Int32) : Met l yX1_to (ws_ yX1_to cX1_to 2 (some .int)) (zr 2 0 0 40) (zPc [.int x, .int t] H0 (dC, dI) dA ([])) (zQp (fun r => r = zI ((zto x t : Nat) : Int)) H0) 0 0 (fun _ => False) := by
  refine zMet_p (cc := cX1_to) (maxL := 2) (ty := .int) (by decide) (Nat.le_of_ble_eq_true rfl) ?_
  intro p e s m args below meth c Q hx hb hml hts hown hK hP hD hS hend ls hl
  have hl : lv_has ls 2 [(0, .int (x)), (1, .int (t))] := hl
  have hown : s.vm.findClass RX1 = some m.cls := hown
  have hx48 := zfr_le x
  refine lv_iload_n hx hb dX1_to_0 rfl (lv_at hl 0 rfl) ?_
  refine zcallSp (As := [.int (x)]) (rest := []) ⟨hx, hb, hml, hown, hts⟩ [] (met1_from l dC dI dA H0 x) (va_cwS 1 hts (lw_S q168 q169 q6 q170) rfl rfl rfl (by decide +kernel) ⟨Nat.le_of_ble_eq_true rfl, Nat.le_of_ble_eq_true rfl⟩) hK hP hD hS rfl (by decide) rfl rfl hl.1 (Nat.le_of_ble_eq_true rfl) dX1_to_1 ⟨Nat.le_of_ble_eq_true rfl, Nat.le_of_ble_eq_true rfl⟩ (fun r locs hw hS => ?_)
  obtain rfl : r = zI (((zfr x : Nat) : Int)) := hw
  refine lv_iload_n hx hb dX1_to_4 rfl (lv_at hl 1 rfl) ?_
  refine zcallSp (As := [.int (t)]) (rest := [.int (zI (((zfr x : Nat) : Int)))]) ⟨hx, hb, hml, hown, hts⟩ [] (met1_plain l dC dI dA H0 t) (va_cwS 1 hts (lw_S q139 q140 q6 q141) rfl rfl rfl (by decide +kernel) ⟨Nat.le_of_ble_eq_true rfl, Nat.le_of_ble_eq_true rfl⟩) hK hP hD hS rfl (by decide) rfl rfl hl.1 (Nat.le_of_ble_eq_true rfl) dX1_to_5 ⟨Nat.le_of_ble_eq_true rfl, Nat.le_of_ble_eq_true rfl⟩ (fun r locs hw hS => ?_)
  obtain rfl : r = zI ((zw t : Int)) := hw
  refine lv_bipush (v := zI (49)) hx hb dX1_to_8 (by decide +kernel) ?_
  refine lv_iload_n hx hb dX1_to_10 rfl (lv_at hl 0 rfl) ?_
  refine zcallSp (As := [.int (x)]) (rest := [.int (zI (49)), .int (zI ((zw t : Int))), .int (zI (((zfr x : Nat) : Int)))]) ⟨hx, hb, hml, hown, hts⟩ [] (met1_from l dC dI dA H0 x) (va_cwS 1 hts (lw_S q168 q169 q6 q170) rfl rfl rfl (by decide +kernel) ⟨Nat.le_of_ble_eq_true rfl, Nat.le_of_ble_eq_true rfl⟩) hK hP hD hS rfl (by decide) rfl rfl hl.1 (Nat.le_of_ble_eq_true rfl) dX1_to_11 ⟨Nat.le_of_ble_eq_true rfl, Nat.le_of_ble_eq_true rfl⟩ (fun r locs hw hS => ?_)
  obtain rfl : r = zI (((zfr x : Nat) : Int)) := hw
  refine kz_isub (E := ((49 - zfr x : Nat) : Int)) hx hb dX1_to_14 (by omega) ?_
  refine kz_irem (zw t) (49 - zfr x) hx hb dX1_to_15 (zI_c (by omega)) (zI_c (by omega)) (zw_lt _) (by omega) (by omega) ?_
  refine kz_iadd (E := ((zfr x + zw t % (49 - zfr x) : Nat) : Int)) hx hb dX1_to_16 (by omega) ?_
  exact hend _ _ ls _ dX1_to_17 rfl rfl hS
set_option maxHeartbeats 4000000 in
set_option maxRecDepth 100000 in
theorem met1_set (l : Launch) (dC : Nat → ClassId) (dI : Nat → Nat → Nat) (dA : ClassId) (H0 : Heap) (h0 q1 q2 q3 : Nat) (f g r : Nat → Int32) (x a b : Int32) : Met l yX1_set (ws_ yX1_set cX1_set 4 none) (zr 1 0 0 20) (zPc [.ref h0, .int x, .int a, .int b] H0 (dC, dI) dA (zo 1 dA h0 q1 q2 q3 f g r)) (zQv (fun _ : Unit => True) (fun _ => zo 1 dA h0 q1 q2 q3 (upd f (zw x % 48) a) (upd g (zw x % 48) b) r) (dC, dI) dA (zo 1 dA h0 q1 q2 q3 f g r) H0.size) 0 0 (va_A (zo 1 dA h0 q1 q2 q3 f g r) H0.size) := by
  refine zMet_v (cc := cX1_set) (maxL := 4) (by decide) (Nat.le_of_ble_eq_true rfl) ?_
  intro p e s m args below meth c A Q hx hb hml hts hown hnm hK hP hD hS hA hend ls hl
  have hl : lv_has ls 4 [(0, .ref h0), (1, .int (x)), (2, .int (a)), (3, .int (b))] := hl
  have hown : s.vm.findClass RX1 = some m.cls := hown
  have hP : va_P (dC, dI) vwCl [(h0, .inr (1, [.ref q1, .ref q2, .ref q3])), (q1, .inl (dA, 48, .inl (f))), (q2, .inl (dA, 48, .inl (g))), (q3, .inl (dA, 48, .inl (r)))] H0 := hP
  have hD : va_D A [(h0, .inr (1, [.ref q1, .ref q2, .ref q3])), (q1, .inl (dA, 48, .inl (f))), (q2, .inl (dA, 48, .inl (g))), (q3, .inl (dA, 48, .inl (r)))] := hD
  refine lv_aload_n hx hb dX1_set_0 rfl (lv_at hl 0 rfl) ?_
  refine va_get (D := (dC, dI)) (ci := 1) (v := .ref q1) (C := RX1) (T := TX1) (N := 3) hx hb hts in_X1 hown hK hP 0 rfl rfl 0 (by decide) (hts _ q124) (fun _ h9 => h9) rfl dX1_set_1 ?_
  refine lv_iload_n hx hb dX1_set_4 rfl (lv_at hl 1 rfl) ?_
  refine zcallSp (As := [.int (x)]) (rest := [.ref q1]) ⟨hx, hb, hml, hown, hts⟩ [] (met1_plain l dC dI dA H0 x) (va_cwS 1 hts (lw_S q139 q140 q6 q141) rfl rfl rfl (by decide +kernel) ⟨Nat.le_of_ble_eq_true rfl, Nat.le_of_ble_eq_true rfl⟩) hK hP hD hS rfl (by decide) rfl rfl hl.1 (Nat.le_of_ble_eq_true rfl) dX1_set_5 ⟨Nat.le_of_ble_eq_true rfl, Nat.le_of_ble_eq_true rfl⟩ (fun r locs hw hS => ?_)
  obtain rfl : r = zI ((zw x : Int)) := hw
  refine lv_bipush (v := zI (48)) hx hb dX1_set_8 (by decide +kernel) ?_
  refine kz_irem (zw x) (48) hx hb dX1_set_10 (zI_c (by omega)) (zI_c (by omega)) (zw_lt _) (by omega) (by omega) ?_
  refine lv_iload_n hx hb dX1_set_11 rfl (lv_at hl 2 rfl) ?_
  refine kz_iast (k := (zw x) % 48) hx hb hK hP hD hS 1 0 rfl rfl (by omega) (by omega) (by omega) dX1_set_12 (fun H locs hP hD hS => ?_)
  have hP : va_P (dC, dI) vwCl [(h0, .inr (1, [.ref q1, .ref q2, .ref q3])), (q1, .inl (dA, 48, .inl (upd f ((zw x) % 48) (a)))), (q2, .inl (dA, 48, .inl (g))), (q3, .inl (dA, 48, .inl (r)))] H := hP
  have hD : va_D A [(h0, .inr (1, [.ref q1, .ref q2, .ref q3])), (q1, .inl (dA, 48, .inl (upd f ((zw x) % 48) (a)))), (q2, .inl (dA, 48, .inl (g))), (q3, .inl (dA, 48, .inl (r)))] := hD
  refine lv_aload_n hx hb dX1_set_13 rfl (lv_at hl 0 rfl) ?_
  refine va_get (D := (dC, dI)) (ci := 1) (v := .ref q2) (C := RX1) (T := TX1) (N := 3) hx hb hts in_X1 hown hK hP 0 rfl rfl 1 (by decide) (hts _ q125) (fun _ h9 => h9) rfl dX1_set_14 ?_
  refine lv_iload_n hx hb dX1_set_17 rfl (lv_at hl 1 rfl) ?_
  refine zcallSp (As := [.int (x)]) (rest := [.ref q2]) ⟨hx, hb, hml, hown, hts⟩ [] (met1_plain l dC dI dA H x) (va_cwS 1 hts (lw_S q139 q140 q6 q141) rfl rfl rfl (by decide +kernel) ⟨Nat.le_of_ble_eq_true rfl, Nat.le_of_ble_eq_true rfl⟩) hK hP hD hS rfl (by decide) rfl rfl hl.1 (Nat.le_of_ble_eq_true rfl) dX1_set_18 ⟨Nat.le_of_ble_eq_true rfl, Nat.le_of_ble_eq_true rfl⟩ (fun r locs hw hS => ?_)
  obtain rfl : r = zI ((zw x : Int)) := hw
  refine lv_bipush (v := zI (48)) hx hb dX1_set_21 (by decide +kernel) ?_
  refine kz_irem (zw x) (48) hx hb dX1_set_23 (zI_c (by omega)) (zI_c (by omega)) (zw_lt _) (by omega) (by omega) ?_
  refine lv_iload_n hx hb dX1_set_24 rfl (lv_at hl 3 rfl) ?_
  refine kz_iast (k := (zw x) % 48) hx hb hK hP hD hS 2 0 rfl rfl (by omega) (by omega) (by omega) dX1_set_25 (fun H locs hP hD hS => ?_)
  have hP : va_P (dC, dI) vwCl [(h0, .inr (1, [.ref q1, .ref q2, .ref q3])), (q1, .inl (dA, 48, .inl (upd f ((zw x) % 48) (a)))), (q2, .inl (dA, 48, .inl (upd g ((zw x) % 48) (b)))), (q3, .inl (dA, 48, .inl (r)))] H := hP
  have hD : va_D A [(h0, .inr (1, [.ref q1, .ref q2, .ref q3])), (q1, .inl (dA, 48, .inl (upd f ((zw x) % 48) (a)))), (q2, .inl (dA, 48, .inl (upd g ((zw x) % 48) (b)))), (q3, .inl (dA, 48, .inl (r)))] := hD
  exact hend _ _ _ _ () dX1_set_26 trivial hP hD hS
set_option maxHeartbeats 4000000 in
set_option maxRecDepth 100000 in
theorem met1_few (l : Launch) (dC : Nat → ClassId) (dI : Nat → Nat → Nat) (dA : ClassId) (H0 : Heap) (h0 q1 q2 q3 : Nat) (f g r : Nat → Int32) (x a b : Int32) : Met l yX1_few (ws_ yX1_few cX1_few 4 none) (zr 2 0 0 50) (zPc [.ref h0, .int x, .int a, .int b] H0 (dC, dI) dA (zo 1 dA h0 q1 q2 q3 f g r)) (zQv (fun _ : Unit => True) (fun _ => zo 1 dA h0 q1 q2 q3 (upd f (zw x % 48) (a &&& zI (3))) (upd g (zw x % 48) (b &&& zI (3))) r) (dC, dI) dA (zo 1 dA h0 q1 q2 q3 f g r) H0.size) 0 0 (va_A (zo 1 dA h0 q1 q2 q3 f g r) H0.size) := by
  refine zMet_v (cc := cX1_few) (maxL := 4) (by decide) (Nat.le_of_ble_eq_true rfl) ?_
  intro p e s m args below meth c A Q hx hb hml hts hown hnm hK hP hD hS hA hend ls hl
  have hl : lv_has ls 4 [(0, .ref h0), (1, .int (x)), (2, .int (a)), (3, .int (b))] := hl
  have hown : s.vm.findClass RX1 = some m.cls := hown
  have hP : va_P (dC, dI) vwCl [(h0, .inr (1, [.ref q1, .ref q2, .ref q3])), (q1, .inl (dA, 48, .inl (f))), (q2, .inl (dA, 48, .inl (g))), (q3, .inl (dA, 48, .inl (r)))] H0 := hP
  have hD : va_D A [(h0, .inr (1, [.ref q1, .ref q2, .ref q3])), (q1, .inl (dA, 48, .inl (f))), (q2, .inl (dA, 48, .inl (g))), (q3, .inl (dA, 48, .inl (r)))] := hD
  refine lv_aload_n hx hb dX1_few_0 rfl (lv_at hl 0 rfl) ?_
  refine lv_iload_n hx hb dX1_few_1 rfl (lv_at hl 1 rfl) ?_
  refine lv_iload_n hx hb dX1_few_2 rfl (lv_at hl 2 rfl) ?_
  refine lv_iconst (v := zI (3)) hx hb dX1_few_3 rfl ?_
  refine lv_iand hx hb dX1_few_4 ?_
  refine lv_iload_n hx hb dX1_few_5 rfl (lv_at hl 3 rfl) ?_
  refine lv_iconst (v := zI (3)) hx hb dX1_few_6 rfl ?_
  refine lv_iand hx hb dX1_few_7 ?_
  refine zcallVv (q := (RX1, TX1, 3)) (ci := 1) (As := [.int (x), .int (a &&& zI (3)), .int (b &&& zI (3))]) (rest := []) (wr := []) ⟨hx, hb, hml, hown, hts⟩ [0, 1, 2, 3] [] (met1_set l dC dI dA H0 h0 q1 q2 q3 f g r x (a &&& zI (3)) (b &&& zI (3))) (cwV 3 hts (lw_V q147 q136 q137 q6 q138) rfl rfl rfl (by decide +kernel) ⟨Nat.le_of_ble_eq_true rfl, Nat.le_of_ble_eq_true rfl⟩) hK hP hD hS hA rfl rfl (by decide) (by decide) (by decide) rfl rfl rfl rfl hl.1 (Nat.le_of_ble_eq_true rfl) dX1_few_8 ⟨Nat.le_of_ble_eq_true rfl, Nat.le_of_ble_eq_true rfl⟩ (fun u H locs hw hP hD hS => ?_)
  have hP : va_P (dC, dI) vwCl [(h0, .inr (1, [.ref q1, .ref q2, .ref q3])), (q1, .inl (dA, 48, .inl (upd f (zw x % 48) (a &&& zI (3))))), (q2, .inl (dA, 48, .inl (upd g (zw x % 48) (b &&& zI (3))))), (q3, .inl (dA, 48, .inl (r)))] H := hP
  have hD : va_D A [(h0, .inr (1, [.ref q1, .ref q2, .ref q3])), (q1, .inl (dA, 48, .inl (upd f (zw x % 48) (a &&& zI (3))))), (q2, .inl (dA, 48, .inl (upd g (zw x % 48) (b &&& zI (3))))), (q3, .inl (dA, 48, .inl (r)))] := hD
  exact hend _ _ _ _ () dX1_few_11 trivial hP hD hS
set_option maxHeartbeats 4000000 in
set_option maxRecDepth 100000 in
theorem met1_first (l : Launch) (dC : Nat → ClassId) (dI : Nat → Nat → Nat) (dA : ClassId) (H0 : Heap) (h0 q1 q2 q3 : Nat) (f g r : Nat → Int32) (x : Int32) : Met l yX1_first (ws_ yX1_first cX1_first 2 (some .int)) (zr 1 0 0 20) (zPc [.ref h0, .int x] H0 (dC, dI) dA (zo 1 dA h0 q1 q2 q3 f g r)) (zQp (fun z => z = f (zw x % 48)) H0) 0 0 (fun _ => False) := by
  refine zMet_p (cc := cX1_first) (maxL := 2) (ty := .int) (by decide) (Nat.le_of_ble_eq_true rfl) ?_
  intro p e s m args below meth c Q hx hb hml hts hown hK hP hD hS hend ls hl
  have hl : lv_has ls 2 [(0, .ref h0), (1, .int (x))] := hl
  have hown : s.vm.findClass RX1 = some m.cls := hown
  have hP : va_P (dC, dI) vwCl [(h0, .inr (1, [.ref q1, .ref q2, .ref q3])), (q1, .inl (dA, 48, .inl (f))), (q2, .inl (dA, 48, .inl (g))), (q3, .inl (dA, 48, .inl (r)))] H0 := hP
  have hD : va_D (fun _ => True) [(h0, .inr (1, [.ref q1, .ref q2, .ref q3])), (q1, .inl (dA, 48, .inl (f))), (q2, .inl (dA, 48, .inl (g))), (q3, .inl (dA, 48, .inl (r)))] := hD
  refine lv_aload_n hx hb dX1_first_0 rfl (lv_at hl 0 rfl) ?_
  refine va_get (D := (dC, dI)) (ci := 1) (v := .ref q1) (C := RX1) (T := TX1) (N := 3) hx hb hts in_X1 hown hK hP 0 rfl rfl 0 (by decide) (hts _ q124) (fun _ h9 => h9) rfl dX1_first_1 ?_
  refine lv_iload_n hx hb dX1_first_4 rfl (lv_at hl 1 rfl) ?_
  refine zcallSp (As := [.int (x)]) (rest := [.ref q1]) ⟨hx, hb, hml, hown, hts⟩ [] (met1_plain l dC dI dA H0 x) (va_cwS 1 hts (lw_S q139 q140 q6 q141) rfl rfl rfl (by decide +kernel) ⟨Nat.le_of_ble_eq_true rfl, Nat.le_of_ble_eq_true rfl⟩) hK hP hD hS rfl (by decide) rfl rfl hl.1 (Nat.le_of_ble_eq_true rfl) dX1_first_5 ⟨Nat.le_of_ble_eq_true rfl, Nat.le_of_ble_eq_true rfl⟩ (fun r locs hw hS => ?_)
  obtain rfl : r = zI ((zw x : Int)) := hw
  refine lv_bipush (v := zI (48)) hx hb dX1_first_8 (by decide +kernel) ?_
  refine kz_irem (zw x) (48) hx hb dX1_first_10 (zI_c (by omega)) (zI_c (by omega)) (zw_lt _) (by omega) (by omega) ?_
  refine kz_iald (k := (zw x) % 48) hx hb hK hP 1 0 rfl rfl (by omega) (by omega) (by omega) dX1_first_11 ?_
  exact hend _ _ ls _ dX1_first_12 rfl rfl hS
set_option maxHeartbeats 4000000 in
set_option maxRecDepth 100000 in
theorem met1_second (l : Launch) (dC : Nat → ClassId) (dI : Nat → Nat → Nat) (dA : ClassId) (H0 : Heap) (h0 q1 q2 q3 : Nat) (f g r : Nat → Int32) (x : Int32) : Met l yX1_second (ws_ yX1_second cX1_second 2 (some .int)) (zr 1 0 0 20) (zPc [.ref h0, .int x] H0 (dC, dI) dA (zo 1 dA h0 q1 q2 q3 f g r)) (zQp (fun z => z = g (zw x % 48)) H0) 0 0 (fun _ => False) := by
  refine zMet_p (cc := cX1_second) (maxL := 2) (ty := .int) (by decide) (Nat.le_of_ble_eq_true rfl) ?_
  intro p e s m args below meth c Q hx hb hml hts hown hK hP hD hS hend ls hl
  have hl : lv_has ls 2 [(0, .ref h0), (1, .int (x))] := hl
  have hown : s.vm.findClass RX1 = some m.cls := hown
  have hP : va_P (dC, dI) vwCl [(h0, .inr (1, [.ref q1, .ref q2, .ref q3])), (q1, .inl (dA, 48, .inl (f))), (q2, .inl (dA, 48, .inl (g))), (q3, .inl (dA, 48, .inl (r)))] H0 := hP
  have hD : va_D (fun _ => True) [(h0, .inr (1, [.ref q1, .ref q2, .ref q3])), (q1, .inl (dA, 48, .inl (f))), (q2, .inl (dA, 48, .inl (g))), (q3, .inl (dA, 48, .inl (r)))] := hD
  refine lv_aload_n hx hb dX1_second_0 rfl (lv_at hl 0 rfl) ?_
  refine va_get (D := (dC, dI)) (ci := 1) (v := .ref q2) (C := RX1) (T := TX1) (N := 3) hx hb hts in_X1 hown hK hP 0 rfl rfl 1 (by decide) (hts _ q125) (fun _ h9 => h9) rfl dX1_second_1 ?_
  refine lv_iload_n hx hb dX1_second_4 rfl (lv_at hl 1 rfl) ?_
  refine zcallSp (As := [.int (x)]) (rest := [.ref q2]) ⟨hx, hb, hml, hown, hts⟩ [] (met1_plain l dC dI dA H0 x) (va_cwS 1 hts (lw_S q139 q140 q6 q141) rfl rfl rfl (by decide +kernel) ⟨Nat.le_of_ble_eq_true rfl, Nat.le_of_ble_eq_true rfl⟩) hK hP hD hS rfl (by decide) rfl rfl hl.1 (Nat.le_of_ble_eq_true rfl) dX1_second_5 ⟨Nat.le_of_ble_eq_true rfl, Nat.le_of_ble_eq_true rfl⟩ (fun r locs hw hS => ?_)
  obtain rfl : r = zI ((zw x : Int)) := hw
  refine lv_bipush (v := zI (48)) hx hb dX1_second_8 (by decide +kernel) ?_
  refine kz_irem (zw x) (48) hx hb dX1_second_10 (zI_c (by omega)) (zI_c (by omega)) (zw_lt _) (by omega) (by omega) ?_
  refine kz_iald (k := (zw x) % 48) hx hb hK hP 2 0 rfl rfl (by omega) (by omega) (by omega) dX1_second_11 ?_
  exact hend _ _ ls _ dX1_second_12 rfl rfl hS
set_option maxHeartbeats 4000000 in
set_option maxRecDepth 100000 in
theorem met1_place (l : Launch) (dC : Nat → ClassId) (dI : Nat → Nat → Nat) (dA : ClassId) (H0 : Heap) (h0 q1 q2 q3 : Nat) (f g r : Nat → Int32) (x : Int32) : Met l yX1_place (ws_ yX1_place cX1_place 2 (some .int)) (zr 1 0 0 20) (zPc [.ref h0, .int x] H0 (dC, dI) dA (zo 1 dA h0 q1 q2 q3 f g r)) (zQp (fun z => z = r (zw x % 48)) H0) 0 0 (fun _ => False) := by
  refine zMet_p (cc := cX1_place) (maxL := 2) (ty := .int) (by decide) (Nat.le_of_ble_eq_true rfl) ?_
  intro p e s m args below meth c Q hx hb hml hts hown hK hP hD hS hend ls hl
  have hl : lv_has ls 2 [(0, .ref h0), (1, .int (x))] := hl
  have hown : s.vm.findClass RX1 = some m.cls := hown
  have hP : va_P (dC, dI) vwCl [(h0, .inr (1, [.ref q1, .ref q2, .ref q3])), (q1, .inl (dA, 48, .inl (f))), (q2, .inl (dA, 48, .inl (g))), (q3, .inl (dA, 48, .inl (r)))] H0 := hP
  have hD : va_D (fun _ => True) [(h0, .inr (1, [.ref q1, .ref q2, .ref q3])), (q1, .inl (dA, 48, .inl (f))), (q2, .inl (dA, 48, .inl (g))), (q3, .inl (dA, 48, .inl (r)))] := hD
  refine lv_aload_n hx hb dX1_place_0 rfl (lv_at hl 0 rfl) ?_
  refine va_get (D := (dC, dI)) (ci := 1) (v := .ref q3) (C := RX1) (T := TX1) (N := 3) hx hb hts in_X1 hown hK hP 0 rfl rfl 2 (by decide) (hts _ q126) (fun _ h9 => h9) rfl dX1_place_1 ?_
  refine lv_iload_n hx hb dX1_place_4 rfl (lv_at hl 1 rfl) ?_
  refine zcallSp (As := [.int (x)]) (rest := [.ref q3]) ⟨hx, hb, hml, hown, hts⟩ [] (met1_plain l dC dI dA H0 x) (va_cwS 1 hts (lw_S q139 q140 q6 q141) rfl rfl rfl (by decide +kernel) ⟨Nat.le_of_ble_eq_true rfl, Nat.le_of_ble_eq_true rfl⟩) hK hP hD hS rfl (by decide) rfl rfl hl.1 (Nat.le_of_ble_eq_true rfl) dX1_place_5 ⟨Nat.le_of_ble_eq_true rfl, Nat.le_of_ble_eq_true rfl⟩ (fun r locs hw hS => ?_)
  obtain rfl : r = zI ((zw x : Int)) := hw
  refine lv_bipush (v := zI (48)) hx hb dX1_place_8 (by decide +kernel) ?_
  refine kz_irem (zw x) (48) hx hb dX1_place_10 (zI_c (by omega)) (zI_c (by omega)) (zw_lt _) (by omega) (by omega) ?_
  refine kz_iald (k := (zw x) % 48) hx hb hK hP 3 0 rfl rfl (by omega) (by omega) (by omega) dX1_place_11 ?_
  exact hend _ _ ls _ dX1_place_12 rfl rfl hS
set_option maxHeartbeats 4000000 in
set_option maxRecDepth 100000 in
theorem met1_less (l : Launch) (dC : Nat → ClassId) (dI : Nat → Nat → Nat) (dA : ClassId) (H0 : Heap) (h0 q1 q2 q3 : Nat) (f g : Nat → Int32) (i j : Nat) (hi48 : i < 48) (hj48 : j < 48) : Met l yX1_less (ws_ yX1_less cX1_less 3 (some .boolean)) (zr 0 0 0 0) (zPc [.ref h0, .int (zI (i : Int)), .int (zI (j : Int))] H0 (dC, dI) dA ([(h0, .inr (1, [.ref q1, .ref q2, .ref q3])), (q1, .inl (dA, 48, .inl f)), (q2, .inl (dA, 48, .inl g))])) (zQp (fun r => r = if zkk f g i < zkk f g j then zI 1 else zI 0) H0) 0 0 (fun _ => False) := by
  refine zMet_p (cc := cX1_less) (maxL := 3) (ty := .boolean) (by decide) (Nat.le_of_ble_eq_true rfl) ?_
  intro p e s m args below meth c Q hx hb hml hts hown hK hP hD hS hend ls hl
  have hl : lv_has ls 3 [(0, .ref h0), (1, .int (zI ((i : Int)))), (2, .int (zI ((j : Int))))] := hl
  have hown : s.vm.findClass RX1 = some m.cls := hown
  have hP : va_P (dC, dI) vwCl [(h0, .inr (1, [.ref q1, .ref q2, .ref q3])), (q1, .inl (dA, 48, .inl (f))), (q2, .inl (dA, 48, .inl (g)))] H0 := hP
  have hD : va_D (fun _ => True) [(h0, .inr (1, [.ref q1, .ref q2, .ref q3])), (q1, .inl (dA, 48, .inl (f))), (q2, .inl (dA, 48, .inl (g)))] := hD
  refine lv_aload_n hx hb dX1_less_0 rfl (lv_at hl 0 rfl) ?_
  refine va_get (D := (dC, dI)) (ci := 1) (v := .ref q1) (C := RX1) (T := TX1) (N := 3) hx hb hts in_X1 hown hK hP 0 rfl rfl 0 (by decide) (hts _ q124) (fun _ h9 => h9) rfl dX1_less_1 ?_
  refine lv_iload_n hx hb dX1_less_4 rfl (lv_at hl 1 rfl) ?_
  refine kz_iald (k := i) hx hb hK hP 1 0 rfl rfl (by omega) (by omega) (by omega) dX1_less_5 ?_
  refine lv_aload_n hx hb dX1_less_6 rfl (lv_at hl 0 rfl) ?_
  refine va_get (D := (dC, dI)) (ci := 1) (v := .ref q1) (C := RX1) (T := TX1) (N := 3) hx hb hts in_X1 hown hK hP 0 rfl rfl 0 (by decide) (hts _ q124) (fun _ h9 => h9) rfl dX1_less_7 ?_
  refine lv_iload_n hx hb dX1_less_10 rfl (lv_at hl 2 rfl) ?_
  refine kz_iald (k := j) hx hb hK hP 1 0 rfl rfl (by omega) (by omega) (by omega) dX1_less_11 ?_
  refine lv_icmp_lt (tgt := 45) hx hb dX1_less_12 (by decide) (fun c1 => ?_) (fun c1 => ?_)
  · skip
    refine lv_iconst (v := zI (1)) hx hb dX1_less_45 rfl ?_
    refine lv_goto (tgt := 50) hx hb dX1_less_46 (by decide) ?_
    exact hend _ _ ls _ dX1_less_50 (by decide +kernel) (by rw [if_pos (zk_lt1 c1)]) hS
  · skip
    refine lv_aload_n hx hb dX1_less_15 rfl (lv_at hl 0 rfl) ?_
    refine va_get (D := (dC, dI)) (ci := 1) (v := .ref q1) (C := RX1) (T := TX1) (N := 3) hx hb hts in_X1 hown hK hP 0 rfl rfl 0 (by decide) (hts _ q124) (fun _ h9 => h9) rfl dX1_less_16 ?_
    refine lv_iload_n hx hb dX1_less_19 rfl (lv_at hl 1 rfl) ?_
    refine kz_iald (k := i) hx hb hK hP 1 0 rfl rfl (by omega) (by omega) (by omega) dX1_less_20 ?_
    refine lv_aload_n hx hb dX1_less_21 rfl (lv_at hl 0 rfl) ?_
    refine va_get (D := (dC, dI)) (ci := 1) (v := .ref q1) (C := RX1) (T := TX1) (N := 3) hx hb hts in_X1 hown hK hP 0 rfl rfl 0 (by decide) (hts _ q124) (fun _ h9 => h9) rfl dX1_less_22 ?_
    refine lv_iload_n hx hb dX1_less_25 rfl (lv_at hl 2 rfl) ?_
    refine kz_iald (k := j) hx hb hK hP 1 0 rfl rfl (by omega) (by omega) (by omega) dX1_less_26 ?_
    refine lv_icmp_ne (tgt := 49) hx hb dX1_less_27 (by decide) (fun c2 => ?_) (fun c2 => ?_)
    · skip
      refine lv_iconst (v := zI (0)) hx hb dX1_less_49 rfl ?_
      exact hend _ _ ls _ dX1_less_50 (by decide +kernel) (by rw [if_neg (zk_nlt c1 (fun z => absurd z c2))]) hS
    · skip
      refine lv_aload_n hx hb dX1_less_30 rfl (lv_at hl 0 rfl) ?_
      refine va_get (D := (dC, dI)) (ci := 1) (v := .ref q2) (C := RX1) (T := TX1) (N := 3) hx hb hts in_X1 hown hK hP 0 rfl rfl 1 (by decide) (hts _ q125) (fun _ h9 => h9) rfl dX1_less_31 ?_
      refine lv_iload_n hx hb dX1_less_34 rfl (lv_at hl 1 rfl) ?_
      refine kz_iald (k := i) hx hb hK hP 2 0 rfl rfl (by omega) (by omega) (by omega) dX1_less_35 ?_
      refine lv_aload_n hx hb dX1_less_36 rfl (lv_at hl 0 rfl) ?_
      refine va_get (D := (dC, dI)) (ci := 1) (v := .ref q2) (C := RX1) (T := TX1) (N := 3) hx hb hts in_X1 hown hK hP 0 rfl rfl 1 (by decide) (hts _ q125) (fun _ h9 => h9) rfl dX1_less_37 ?_
      refine lv_iload_n hx hb dX1_less_40 rfl (lv_at hl 2 rfl) ?_
      refine kz_iald (k := j) hx hb hK hP 2 0 rfl rfl (by omega) (by omega) (by omega) dX1_less_41 ?_
      refine lv_icmp_ge (tgt := 49) hx hb dX1_less_42 (by decide) (fun c3 => ?_) (fun c3 => ?_)
      · skip
        refine lv_iconst (v := zI (0)) hx hb dX1_less_49 rfl ?_
        exact hend _ _ ls _ dX1_less_50 (by decide +kernel) (by rw [if_neg (zk_nlt c1 (fun _ => Int32.not_lt.mpr c3))]) hS
      · skip
        refine lv_iconst (v := zI (1)) hx hb dX1_less_45 rfl ?_
        refine lv_goto (tgt := 50) hx hb dX1_less_46 (by decide) ?_
        exact hend _ _ ls _ dX1_less_50 (by decide +kernel) (by rw [if_pos (zk_lt2 c2 (Int32.not_le.mp c3))]) hS
theorem zless_t {c : Prop} [Decidable c] : ¬ (if c then zI 1 else zI 0) = 0 ↔ c := by
  by_cases h : c
  · rw [if_pos h]
    exact ⟨fun _ => h, fun _ => by decide +kernel⟩
  · rw [if_neg h]
    exact ⟨fun q => absurd rfl q, fun q => absurd q h⟩
theorem zct_t {K : Nat → Int} {lo i t : Nat} (h : zK6 K (lo + t) < zK6 K i) : fb_ct (fun t => decide (zK6 K (lo + t) < zK6 K i)) (t + 1) = fb_ct (fun t => decide (zK6 K (lo + t) < zK6 K i)) t + 1 := by
  rw [fb_ct_succ, if_pos (decide_eq_true h)]
theorem zct_f {K : Nat → Int} {lo i t : Nat} (h : ¬ zK6 K (lo + t) < zK6 K i) : fb_ct (fun t => decide (zK6 K (lo + t) < zK6 K i)) (t + 1) = fb_ct (fun t => decide (zK6 K (lo + t) < zK6 K i)) t := by
  rw [fb_ct_succ, if_neg (by rw [decide_eq_false h]; decide)]
  rfl
set_option maxHeartbeats 4000000 in
set_option maxRecDepth 100000 in
theorem met1_sort (l : Launch) (dC : Nat → ClassId) (dI : Nat → Nat → Nat) (dA : ClassId) (H0 : Heap) (h0 q1 q2 q3 : Nat) (f g r : Nat → Int32) (x t : Int32) : Met l yX1_sort (ws_ yX1_sort cX1_sort 8 none) (zr 3 2 96 100) (zPc [.ref h0, .int x, .int t] H0 (dC, dI) dA (zo 1 dA h0 q1 q2 q3 f g r)) (zQv (fun u : (Nat × Nat) × ((Nat → Int32) × (Nat → Int32)) => zSx f g (zfr x) (zto x t) u.2.1 u.2.2) (fun u => zo 1 dA h0 u.1.1 u.1.2 q3 u.2.1 u.2.2 r) (dC, dI) dA (zo 1 dA h0 q1 q2 q3 f g r) H0.size) 2 96 (va_A (zo 1 dA h0 q1 q2 q3 f g r) H0.size) := by
  refine zMet_v (cc := cX1_sort) (maxL := 8) (by decide) (Nat.le_of_ble_eq_true rfl) ?_
  intro p e s m args below meth c A Q hx hb hml hts hown hnm hK hP hD hS hA hend ls hl
  have hl : lv_has ls 8 [(0, .ref h0), (1, .int (x)), (2, .int (t))] := hl
  have hown : s.vm.findClass RX1 = some m.cls := hown
  have hP : va_P (dC, dI) vwCl [(h0, .inr (1, [.ref q1, .ref q2, .ref q3])), (q1, .inl (dA, 48, .inl (f))), (q2, .inl (dA, 48, .inl (g))), (q3, .inl (dA, 48, .inl (r)))] H0 := hP
  have hD : va_D A [(h0, .inr (1, [.ref q1, .ref q2, .ref q3])), (q1, .inl (dA, 48, .inl (f))), (q2, .inl (dA, 48, .inl (g))), (q3, .inl (dA, 48, .inl (r)))] := hD
  have hle := zto_le x t
  have hlh := zfr_to x t
  obtain ⟨K, hKe⟩ : ∃ z, z = zkk f g := ⟨_, rfl⟩
  refine lv_bipush (v := zI (48)) hx hb dX1_sort_0 (by decide +kernel) ?_
  refine kz_newa hx hb (hts _ q34) hK hP hD hS hA (Nat.le_of_ble_eq_true rfl) (Nat.le_of_ble_eq_true rfl) dX1_sort_2 (fun n1 H hP hD hS => ?_)
  have hP : va_P (dC, dI) vwCl [(h0, .inr (1, [.ref q1, .ref q2, .ref q3])), (q1, .inl (dA, 48, .inl (f))), (q2, .inl (dA, 48, .inl (g))), (q3, .inl (dA, 48, .inl (r))), (n1, .inl (dA, 48, .inl (fun _ => 0)))] H := hP
  have hD : va_D A [(h0, .inr (1, [.ref q1, .ref q2, .ref q3])), (q1, .inl (dA, 48, .inl (f))), (q2, .inl (dA, 48, .inl (g))), (q3, .inl (dA, 48, .inl (r))), (n1, .inl (dA, 48, .inl (fun _ => 0)))] := hD
  refine lv_astore_n (lv' := [(3, .ref n1), (0, .ref h0), (1, .int (x)), (2, .int (t))]) hx hb dX1_sort_4 rfl hl (by decide) rfl (fun ls hl => ?_)
  refine lv_bipush (v := zI (48)) hx hb dX1_sort_5 (by decide +kernel) ?_
  refine kz_newa hx hb (hts _ q34) hK hP hD hS hA (Nat.le_of_ble_eq_true rfl) (Nat.le_of_ble_eq_true rfl) dX1_sort_7 (fun n2 H hP hD hS => ?_)
  have hP : va_P (dC, dI) vwCl [(h0, .inr (1, [.ref q1, .ref q2, .ref q3])), (q1, .inl (dA, 48, .inl (f))), (q2, .inl (dA, 48, .inl (g))), (q3, .inl (dA, 48, .inl (r))), (n1, .inl (dA, 48, .inl (fun _ => 0))), (n2, .inl (dA, 48, .inl (fun _ => 0)))] H := hP
  have hD : va_D A [(h0, .inr (1, [.ref q1, .ref q2, .ref q3])), (q1, .inl (dA, 48, .inl (f))), (q2, .inl (dA, 48, .inl (g))), (q3, .inl (dA, 48, .inl (r))), (n1, .inl (dA, 48, .inl (fun _ => 0))), (n2, .inl (dA, 48, .inl (fun _ => 0)))] := hD
  refine lv_astore (lv' := [(4, .ref n2), (3, .ref n1), (0, .ref h0), (1, .int (x)), (2, .int (t))]) hx hb dX1_sort_9 hl (by decide) rfl (fun ls hl => ?_)
  refine lv_iconst (v := zI (0)) hx hb dX1_sort_11 rfl ?_
  refine lv_istore (lv' := [(5, .int (zI (0))), (4, .ref n2), (3, .ref n1), (0, .ref h0), (1, .int (x)), (2, .int (t))]) hx hb dX1_sort_12 hl (by decide) rfl (fun ls hl => ?_)
  have loop : ∀ (k i : Nat) (o1 o2 : Nat → Int32) (H : Heap) (locs : List Loc) (ls : Array Slot), i + k = 48 → (∀ j, j < i → o1 (zat K (zfr x) (zto x t) j) = f j ∧ o2 (zat K (zfr x) (zto x t) j) = g j) → va_P (dC, dI) vwCl [(h0, .inr (1, [.ref q1, .ref q2, .ref q3])), (q1, .inl (dA, 48, .inl (f))), (q2, .inl (dA, 48, .inl (g))), (q3, .inl (dA, 48, .inl (r))), (n1, .inl (dA, 48, .inl (o1))), (n2, .inl (dA, 48, .inl (o2)))] H → va_D A [(h0, .inr (1, [.ref q1, .ref q2, .ref q3])), (q1, .inl (dA, 48, .inl (f))), (q2, .inl (dA, 48, .inl (g))), (q3, .inl (dA, 48, .inl (r))), (n1, .inl (dA, 48, .inl (o1))), (n2, .inl (dA, 48, .inl (o2)))] → va_S A H0 H locs → lv_has ls 8 [(0, .ref h0), (1, .int (x)), (2, .int (t)), (3, .ref n1), (4, .ref n2), (5, .int (zI ((i : Int))))] → W p l e (zr 3 2 96 100) s m args below meth c H locs 2 96 Q (F0 m 14 ls []) := by
    intro k
    induction k with
    | zero =>
      intro i o1 o2 H locs ls h1 h2 hP hD hS hl
      refine lv_iload hx hb dX1_sort_14 (lv_at hl 5 rfl) ?_
      refine lv_bipush (v := zI (48)) hx hb dX1_sort_16 (by decide +kernel) ?_
      refine kz_icmp_ge (tgt := 133) hx hb dX1_sort_18 (by decide) (by omega) (fun c1 => ?_) (fun c1 => ?_)
      · skip
        refine lv_aload_n hx hb dX1_sort_133 rfl (lv_at hl 0 rfl) ?_
        refine lv_aload_n hx hb dX1_sort_134 rfl (lv_at hl 3 rfl) ?_
        refine va_put (D := (dC, dI)) (ci := 1) (v := .ref n1) (ty := .array .int) (C := RX1) (T := TX1) (N := 3) hx hb hts in_X1 tyX1 tyX1_ok nmX1 hown hK hP hD hS 0 rfl rfl 0 (by decide) (hts _ q124) (fun _ h9 => h9) rfl (by decide +kernel) rfl rfl (Nat.le_of_ble_eq_true rfl) dX1_sort_135 (fun H locs hP hD hS => ?_)
        have hP : va_P (dC, dI) vwCl [(h0, .inr (1, [.ref n1, .ref q2, .ref q3])), (q1, .inl (dA, 48, .inl (f))), (q2, .inl (dA, 48, .inl (g))), (q3, .inl (dA, 48, .inl (r))), (n1, .inl (dA, 48, .inl (o1))), (n2, .inl (dA, 48, .inl (o2)))] H := hP
        have hD : va_D A [(h0, .inr (1, [.ref n1, .ref q2, .ref q3])), (q1, .inl (dA, 48, .inl (f))), (q2, .inl (dA, 48, .inl (g))), (q3, .inl (dA, 48, .inl (r))), (n1, .inl (dA, 48, .inl (o1))), (n2, .inl (dA, 48, .inl (o2)))] := hD
        refine lv_aload_n hx hb dX1_sort_138 rfl (lv_at hl 0 rfl) ?_
        refine lv_aload hx hb dX1_sort_139 (lv_at hl 4 rfl) ?_
        refine va_put (D := (dC, dI)) (ci := 1) (v := .ref n2) (ty := .array .int) (C := RX1) (T := TX1) (N := 3) hx hb hts in_X1 tyX1 tyX1_ok nmX1 hown hK hP hD hS 0 rfl rfl 1 (by decide) (hts _ q125) (fun _ h9 => h9) rfl (by decide +kernel) rfl rfl (Nat.le_of_ble_eq_true rfl) dX1_sort_141 (fun H locs hP hD hS => ?_)
        have hP : va_P (dC, dI) vwCl [(h0, .inr (1, [.ref n1, .ref n2, .ref q3])), (q1, .inl (dA, 48, .inl (f))), (q2, .inl (dA, 48, .inl (g))), (q3, .inl (dA, 48, .inl (r))), (n1, .inl (dA, 48, .inl (o1))), (n2, .inl (dA, 48, .inl (o2)))] H := hP
        have hD : va_D A [(h0, .inr (1, [.ref n1, .ref n2, .ref q3])), (q1, .inl (dA, 48, .inl (f))), (q2, .inl (dA, 48, .inl (g))), (q3, .inl (dA, 48, .inl (r))), (n1, .inl (dA, 48, .inl (o1))), (n2, .inl (dA, 48, .inl (o2)))] := hD
        have hP := hP.sub (ws' := [(h0, .inr (1, [.ref n1, .ref n2, .ref q3])), (n1, .inl (dA, 48, .inl (o1))), (n2, .inl (dA, 48, .inl (o2))), (q3, .inl (dA, 48, .inl (r)))]) [0, 4, 5, 3] rfl
        have hD := hD.sub (ws' := [(h0, .inr (1, [.ref n1, .ref n2, .ref q3])), (n1, .inl (dA, 48, .inl (o1))), (n2, .inl (dA, 48, .inl (o2))), (q3, .inl (dA, 48, .inl (r)))]) [0, 4, 5, 3] (by decide) rfl
        exact hend _ _ _ _ ((n1, n2), (o1, o2)) dX1_sort_144 (fun j hj => by rw [← hKe]; exact h2 j (by omega)) hP hD hS
      · skip
        omega
    | succ k ih =>
      intro i o1 o2 H locs ls h1 h2 hP hD hS hl
      refine lv_iload hx hb dX1_sort_14 (lv_at hl 5 rfl) ?_
      refine lv_bipush (v := zI (48)) hx hb dX1_sort_16 (by decide +kernel) ?_
      refine kz_icmp_ge (tgt := 133) hx hb dX1_sort_18 (by decide) (by omega) (fun c1 => ?_) (fun c1 => ?_)
      · skip
        omega
      · skip
        have hi48 : i < 48 := by omega
        have hzat := zat_lt K (lo := zfr x) (hi := zto x t) hle hi48
        have ST : ∀ (locs : List Loc) (ls : Array Slot), va_S A H0 H locs → lv_has ls 8 [(0, .ref h0), (1, .int (x)), (2, .int (t)), (3, .ref n1), (4, .ref n2), (5, .int (zI ((i : Int)))), (6, .int (zI (((zat K (zfr x) (zto x t) i : Nat) : Int))))] → W p l e (zr 3 2 96 100) s m args below meth c H locs 2 96 Q (F0 m 104 ls []) := by
          intro locs ls hS hl
          refine lv_aload_n hx hb dX1_sort_104 rfl (lv_at hl 3 rfl) ?_
          refine lv_iload hx hb dX1_sort_105 (lv_at hl 6 rfl) ?_
          refine lv_aload_n hx hb dX1_sort_107 rfl (lv_at hl 0 rfl) ?_
          refine va_get (D := (dC, dI)) (ci := 1) (v := .ref q1) (C := RX1) (T := TX1) (N := 3) hx hb hts in_X1 hown hK hP 0 rfl rfl 0 (by decide) (hts _ q124) (fun _ h9 => h9) rfl dX1_sort_108 ?_
          refine lv_iload hx hb dX1_sort_111 (lv_at hl 5 rfl) ?_
          refine kz_iald (k := i) hx hb hK hP 1 0 rfl rfl (by omega) (by omega) (by omega) dX1_sort_113 ?_
          refine kz_iast (k := zat K (zfr x) (zto x t) i) hx hb hK hP hD hS 4 0 rfl rfl (by omega) (by omega) (by omega) dX1_sort_114 (fun H locs hP hD hS => ?_)
          have hP : va_P (dC, dI) vwCl [(h0, .inr (1, [.ref q1, .ref q2, .ref q3])), (q1, .inl (dA, 48, .inl (f))), (q2, .inl (dA, 48, .inl (g))), (q3, .inl (dA, 48, .inl (r))), (n1, .inl (dA, 48, .inl (upd o1 (zat K (zfr x) (zto x t) i) ((f i))))), (n2, .inl (dA, 48, .inl (o2)))] H := hP
          have hD : va_D A [(h0, .inr (1, [.ref q1, .ref q2, .ref q3])), (q1, .inl (dA, 48, .inl (f))), (q2, .inl (dA, 48, .inl (g))), (q3, .inl (dA, 48, .inl (r))), (n1, .inl (dA, 48, .inl (upd o1 (zat K (zfr x) (zto x t) i) ((f i))))), (n2, .inl (dA, 48, .inl (o2)))] := hD
          refine lv_aload hx hb dX1_sort_115 (lv_at hl 4 rfl) ?_
          refine lv_iload hx hb dX1_sort_117 (lv_at hl 6 rfl) ?_
          refine lv_aload_n hx hb dX1_sort_119 rfl (lv_at hl 0 rfl) ?_
          refine va_get (D := (dC, dI)) (ci := 1) (v := .ref q2) (C := RX1) (T := TX1) (N := 3) hx hb hts in_X1 hown hK hP 0 rfl rfl 1 (by decide) (hts _ q125) (fun _ h9 => h9) rfl dX1_sort_120 ?_
          refine lv_iload hx hb dX1_sort_123 (lv_at hl 5 rfl) ?_
          refine kz_iald (k := i) hx hb hK hP 2 0 rfl rfl (by omega) (by omega) (by omega) dX1_sort_125 ?_
          refine kz_iast (k := zat K (zfr x) (zto x t) i) hx hb hK hP hD hS 5 0 rfl rfl (by omega) (by omega) (by omega) dX1_sort_126 (fun H locs hP hD hS => ?_)
          have hP : va_P (dC, dI) vwCl [(h0, .inr (1, [.ref q1, .ref q2, .ref q3])), (q1, .inl (dA, 48, .inl (f))), (q2, .inl (dA, 48, .inl (g))), (q3, .inl (dA, 48, .inl (r))), (n1, .inl (dA, 48, .inl (upd o1 (zat K (zfr x) (zto x t) i) ((f i))))), (n2, .inl (dA, 48, .inl (upd o2 (zat K (zfr x) (zto x t) i) ((g i)))))] H := hP
          have hD : va_D A [(h0, .inr (1, [.ref q1, .ref q2, .ref q3])), (q1, .inl (dA, 48, .inl (f))), (q2, .inl (dA, 48, .inl (g))), (q3, .inl (dA, 48, .inl (r))), (n1, .inl (dA, 48, .inl (upd o1 (zat K (zfr x) (zto x t) i) ((f i))))), (n2, .inl (dA, 48, .inl (upd o2 (zat K (zfr x) (zto x t) i) ((g i)))))] := hD
          refine kz_iinc (E := ((i + 1 : Nat) : Int)) (lv' := [(5, .int (zI (((i + 1 : Nat) : Int)))), (0, .ref h0), (1, .int (x)), (2, .int (t)), (3, .ref n1), (4, .ref n2), (6, .int (zI (((zat K (zfr x) (zto x t) i : Nat) : Int))))]) hx hb dX1_sort_127 hl (k := 5) rfl (by omega) (by decide) rfl (fun ls hl => ?_)
          refine lv_goto (tgt := 14) hx hb dX1_sort_130 (by decide) ?_
          refine ih (i + 1) (upd o1 (zat K (zfr x) (zto x t) i) (f i)) (upd o2 (zat K (zfr x) (zto x t) i) (g i)) H locs ls (by omega) (fun j hj => ?_) hP hD hS (lv_sub hl [1, 2, 3, 4, 5, 0] rfl)
          by_cases e : j = i
          · rw [e, pk_us, pk_us]
            exact ⟨rfl, rfl⟩
          · rw [pk_un (zat_inj K (by omega) e), pk_un (zat_inj K (by omega) e)]
            exact h2 j (by omega)
        have IN : zfr x ≤ i → i < zto x t → ∀ (k2 tt : Nat) (locs : List Loc) (ls : Array Slot), tt + k2 = zto x t - zfr x → va_S A H0 H locs → lv_has ls 8 [(0, .ref h0), (1, .int (x)), (2, .int (t)), (3, .ref n1), (4, .ref n2), (5, .int (zI ((i : Int)))), (6, .int (zI (((zfr x + fb_ct (fun t => decide (zK6 K (zfr x + t) < zK6 K i)) tt : Nat) : Int)))), (7, .int (zI (((zfr x + tt : Nat) : Int))))] → W p l e (zr 3 2 96 100) s m args below meth c H locs 2 96 Q (F0 m 56 ls []) := by
          intro hge hlt k2
          induction k2 with
          | zero =>
            intro tt locs ls g1 hS hl
            have hct := fb_ct_le (fun t => decide (zK6 K (zfr x + t) < zK6 K i)) tt
            refine lv_iload hx hb dX1_sort_56 (lv_at hl 7 rfl) ?_
            refine lv_iload_n hx hb dX1_sort_58 rfl (lv_at hl 1 rfl) ?_
            refine lv_iload_n hx hb dX1_sort_59 rfl (lv_at hl 2 rfl) ?_
            refine zcallSp (As := [.int (x), .int (t)]) (rest := [.int (zI (((zfr x + tt : Nat) : Int)))]) ⟨hx, hb, hml, hown, hts⟩ [] (met1_to l dC dI dA H x t) (va_cwS 2 hts (lw_S q171 q172 q6 q173) rfl rfl rfl (by decide +kernel) ⟨Nat.le_of_ble_eq_true rfl, Nat.le_of_ble_eq_true rfl⟩) hK hP hD hS rfl (by decide) rfl rfl hl.1 (Nat.le_of_ble_eq_true rfl) dX1_sort_60 ⟨Nat.le_of_ble_eq_true rfl, Nat.le_of_ble_eq_true rfl⟩ (fun r locs hw hS => ?_)
            obtain rfl : r = zI (((zto x t : Nat) : Int)) := hw
            refine kz_icmp_ge (tgt := 104) hx hb dX1_sort_63 (by decide) (by omega) (fun c2 => ?_) (fun c2 => ?_)
            · skip
              have ezat : zfr x + fb_ct (fun t => decide (zK6 K (zfr x + t) < zK6 K i)) tt = zat K (zfr x) (zto x t) i := by
                rw [zat_in K hge hlt, show tt = zto x t - zfr x by omega]
                rfl
              rw [ezat] at hl
              exact ST locs ls hS (lv_sub hl [0, 1, 2, 3, 4, 5, 6] rfl)
            · skip
              omega
          | succ k2 ih2 =>
            intro tt locs ls g1 hS hl
            have hct := fb_ct_le (fun t => decide (zK6 K (zfr x + t) < zK6 K i)) tt
            refine lv_iload hx hb dX1_sort_56 (lv_at hl 7 rfl) ?_
            refine lv_iload_n hx hb dX1_sort_58 rfl (lv_at hl 1 rfl) ?_
            refine lv_iload_n hx hb dX1_sort_59 rfl (lv_at hl 2 rfl) ?_
            refine zcallSp (As := [.int (x), .int (t)]) (rest := [.int (zI (((zfr x + tt : Nat) : Int)))]) ⟨hx, hb, hml, hown, hts⟩ [] (met1_to l dC dI dA H x t) (va_cwS 2 hts (lw_S q171 q172 q6 q173) rfl rfl rfl (by decide +kernel) ⟨Nat.le_of_ble_eq_true rfl, Nat.le_of_ble_eq_true rfl⟩) hK hP hD hS rfl (by decide) rfl rfl hl.1 (Nat.le_of_ble_eq_true rfl) dX1_sort_60 ⟨Nat.le_of_ble_eq_true rfl, Nat.le_of_ble_eq_true rfl⟩ (fun r locs hw hS => ?_)
            obtain rfl : r = zI (((zto x t : Nat) : Int)) := hw
            refine kz_icmp_ge (tgt := 104) hx hb dX1_sort_63 (by decide) (by omega) (fun c2 => ?_) (fun c2 => ?_)
            · skip
              omega
            · skip
              refine lv_aload_n hx hb dX1_sort_66 rfl (lv_at hl 0 rfl) ?_
              refine lv_iload hx hb dX1_sort_67 (lv_at hl 7 rfl) ?_
              refine lv_iload hx hb dX1_sort_69 (lv_at hl 5 rfl) ?_
              refine zcallVp (q := (RX1, TX1, 3)) (ci := 1) (As := [.int (zI (((zfr x + tt : Nat) : Int))), .int (zI ((i : Int)))]) (rest := []) ⟨hx, hb, hml, hown, hts⟩ [0, 1, 2] (met1_less l dC dI dA H h0 q1 q2 q3 f g (zfr x + tt) i (by omega) (by omega)) (cwV 2 hts (lw_V q174 q176 qs3 q6 q177) rfl rfl rfl (by decide +kernel) ⟨Nat.le_of_ble_eq_true rfl, Nat.le_of_ble_eq_true rfl⟩) hK hP hD hS rfl (by decide) rfl rfl rfl rfl hl.1 (Nat.le_of_ble_eq_true rfl) dX1_sort_71 ⟨Nat.le_of_ble_eq_true rfl, Nat.le_of_ble_eq_true rfl⟩ (fun r locs hw hS => ?_)
              subst hw
              refine lv_if_ne (tgt := 95) hx hb dX1_sort_74 (by decide) (fun c3 => ?_) (fun c3 => ?_)
              · skip
                have hyes : zK6 K (zfr x + tt) < zK6 K i := (zK6_lt K (by omega) (by omega)).mpr (Or.inl (by rw [hKe]; exact zless_t.mp c3))
                have hyes2 := zct_t (lo := zfr x) hyes
                refine kz_iinc (E := ((zfr x + fb_ct (fun t => decide (zK6 K (zfr x + t) < zK6 K i)) (tt + 1) : Nat) : Int)) (lv' := [(6, .int (zI (((zfr x + fb_ct (fun t => decide (zK6 K (zfr x + t) < zK6 K i)) (tt + 1) : Nat) : Int)))), (0, .ref h0), (1, .int (x)), (2, .int (t)), (3, .ref n1), (4, .ref n2), (5, .int (zI ((i : Int)))), (7, .int (zI (((zfr x + tt : Nat) : Int))))]) hx hb dX1_sort_95 hl (k := 6) rfl (by omega) (by decide) rfl (fun ls hl => ?_)
                refine kz_iinc (E := ((zfr x + (tt + 1) : Nat) : Int)) (lv' := [(7, .int (zI (((zfr x + (tt + 1) : Nat) : Int)))), (6, .int (zI (((zfr x + fb_ct (fun t => decide (zK6 K (zfr x + t) < zK6 K i)) (tt + 1) : Nat) : Int)))), (0, .ref h0), (1, .int (x)), (2, .int (t)), (3, .ref n1), (4, .ref n2), (5, .int (zI ((i : Int))))]) hx hb dX1_sort_98 hl (k := 7) rfl (by omega) (by decide) rfl (fun ls hl => ?_)
                refine lv_goto (tgt := 56) hx hb dX1_sort_101 (by decide) ?_
                exact ih2 (tt + 1) locs ls (by omega) hS (lv_sub hl [2, 3, 4, 5, 6, 7, 1, 0] rfl)
              · skip
                have n3 : ¬ K (zfr x + tt) < K i := by rw [hKe]; exact fun z => absurd c3 (zless_t.mpr z)
                refine lv_iload hx hb dX1_sort_77 (lv_at hl 7 rfl) ?_
                refine lv_iload hx hb dX1_sort_79 (lv_at hl 5 rfl) ?_
                refine kz_icmp_ge (tgt := 98) hx hb dX1_sort_81 (by decide) (by omega) (fun c4 => ?_) (fun c4 => ?_)
                · skip
                  have hno : ¬ zK6 K (zfr x + tt) < zK6 K i := fun z => by rcases (zK6_lt K (by omega) (by omega)).mp z with w | w <;> omega
                  rw [← zct_f (lo := zfr x) hno] at hl
                  refine kz_iinc (E := ((zfr x + (tt + 1) : Nat) : Int)) (lv' := [(7, .int (zI (((zfr x + (tt + 1) : Nat) : Int)))), (0, .ref h0), (1, .int (x)), (2, .int (t)), (3, .ref n1), (4, .ref n2), (5, .int (zI ((i : Int)))), (6, .int (zI (((zfr x + fb_ct (fun t => decide (zK6 K (zfr x + t) < zK6 K i)) (tt + 1) : Nat) : Int))))]) hx hb dX1_sort_98 hl (k := 7) rfl (by omega) (by decide) rfl (fun ls hl => ?_)
                  refine lv_goto (tgt := 56) hx hb dX1_sort_101 (by decide) ?_
                  exact ih2 (tt + 1) locs ls (by omega) hS (lv_sub hl [1, 2, 3, 4, 5, 6, 7, 0] rfl)
                · skip
                  refine lv_aload_n hx hb dX1_sort_84 rfl (lv_at hl 0 rfl) ?_
                  refine lv_iload hx hb dX1_sort_85 (lv_at hl 5 rfl) ?_
                  refine lv_iload hx hb dX1_sort_87 (lv_at hl 7 rfl) ?_
                  refine zcallVp (q := (RX1, TX1, 3)) (ci := 1) (As := [.int (zI ((i : Int))), .int (zI (((zfr x + tt : Nat) : Int)))]) (rest := []) ⟨hx, hb, hml, hown, hts⟩ [0, 1, 2] (met1_less l dC dI dA H h0 q1 q2 q3 f g i (zfr x + tt) (by omega) (by omega)) (cwV 2 hts (lw_V q174 q176 qs3 q6 q177) rfl rfl rfl (by decide +kernel) ⟨Nat.le_of_ble_eq_true rfl, Nat.le_of_ble_eq_true rfl⟩) hK hP hD hS rfl (by decide) rfl rfl rfl rfl hl.1 (Nat.le_of_ble_eq_true rfl) dX1_sort_89 ⟨Nat.le_of_ble_eq_true rfl, Nat.le_of_ble_eq_true rfl⟩ (fun r9 locs hw2 hS => ?_)
                  subst hw2
                  refine lv_if_ne (tgt := 98) hx hb dX1_sort_92 (by decide) (fun c5 => ?_) (fun c5 => ?_)
                  · skip
                    have n5 : K i < K (zfr x + tt) := by rw [hKe]; exact zless_t.mp c5
                    have hno : ¬ zK6 K (zfr x + tt) < zK6 K i := fun z => by rcases (zK6_lt K (by omega) (by omega)).mp z with w | w <;> omega
                    rw [← zct_f (lo := zfr x) hno] at hl
                    refine kz_iinc (E := ((zfr x + (tt + 1) : Nat) : Int)) (lv' := [(7, .int (zI (((zfr x + (tt + 1) : Nat) : Int)))), (0, .ref h0), (1, .int (x)), (2, .int (t)), (3, .ref n1), (4, .ref n2), (5, .int (zI ((i : Int)))), (6, .int (zI (((zfr x + fb_ct (fun t => decide (zK6 K (zfr x + t) < zK6 K i)) (tt + 1) : Nat) : Int))))]) hx hb dX1_sort_98 hl (k := 7) rfl (by omega) (by decide) rfl (fun ls hl => ?_)
                    refine lv_goto (tgt := 56) hx hb dX1_sort_101 (by decide) ?_
                    exact ih2 (tt + 1) locs ls (by omega) hS (lv_sub hl [1, 2, 3, 4, 5, 6, 7, 0] rfl)
                  · skip
                    have n5 : ¬ K i < K (zfr x + tt) := by rw [hKe]; exact fun z => absurd c5 (zless_t.mpr z)
                    have hyes : zK6 K (zfr x + tt) < zK6 K i := (zK6_lt K (by omega) (by omega)).mpr (Or.inr (by omega))
                    have hyes2 := zct_t (lo := zfr x) hyes
                    refine kz_iinc (E := ((zfr x + fb_ct (fun t => decide (zK6 K (zfr x + t) < zK6 K i)) (tt + 1) : Nat) : Int)) (lv' := [(6, .int (zI (((zfr x + fb_ct (fun t => decide (zK6 K (zfr x + t) < zK6 K i)) (tt + 1) : Nat) : Int)))), (0, .ref h0), (1, .int (x)), (2, .int (t)), (3, .ref n1), (4, .ref n2), (5, .int (zI ((i : Int)))), (7, .int (zI (((zfr x + tt : Nat) : Int))))]) hx hb dX1_sort_95 hl (k := 6) rfl (by omega) (by decide) rfl (fun ls hl => ?_)
                    refine kz_iinc (E := ((zfr x + (tt + 1) : Nat) : Int)) (lv' := [(7, .int (zI (((zfr x + (tt + 1) : Nat) : Int)))), (6, .int (zI (((zfr x + fb_ct (fun t => decide (zK6 K (zfr x + t) < zK6 K i)) (tt + 1) : Nat) : Int)))), (0, .ref h0), (1, .int (x)), (2, .int (t)), (3, .ref n1), (4, .ref n2), (5, .int (zI ((i : Int))))]) hx hb dX1_sort_98 hl (k := 7) rfl (by omega) (by decide) rfl (fun ls hl => ?_)
                    refine lv_goto (tgt := 56) hx hb dX1_sort_101 (by decide) ?_
                    exact ih2 (tt + 1) locs ls (by omega) hS (lv_sub hl [2, 3, 4, 5, 6, 7, 1, 0] rfl)
        refine lv_iload hx hb dX1_sort_21 (lv_at hl 5 rfl) ?_
        refine lv_istore (lv' := [(6, .int (zI ((i : Int)))), (0, .ref h0), (1, .int (x)), (2, .int (t)), (3, .ref n1), (4, .ref n2), (5, .int (zI ((i : Int))))]) hx hb dX1_sort_23 hl (by decide) rfl (fun ls hl => ?_)
        refine lv_iload hx hb dX1_sort_25 (lv_at hl 6 rfl) ?_
        refine lv_iload_n hx hb dX1_sort_27 rfl (lv_at hl 2 rfl) ?_
        refine zcallSp (As := [.int (x)]) (rest := [.int (zI ((i : Int)))]) ⟨hx, hb, hml, hown, hts⟩ [] (met1_from l dC dI dA H x) (va_cwS 1 hts (lw_S q168 q169 q6 q170) rfl rfl rfl (by decide +kernel) ⟨Nat.le_of_ble_eq_true rfl, Nat.le_of_ble_eq_true rfl⟩) hK hP hD hS rfl (by decide) rfl rfl hl.1 (Nat.le_of_ble_eq_true rfl) dX1_sort_28 ⟨Nat.le_of_ble_eq_true rfl, Nat.le_of_ble_eq_true rfl⟩ (fun r locs hw hS => ?_)
        obtain rfl : r = zI (((zfr x : Nat) : Int)) := hw
        refine kz_icmp_lt (tgt := 104) hx hb dX1_sort_31 (by decide) (by omega) (fun c2 => ?_) (fun c2 => ?_)
        · skip
          have ez : zat K (zfr x) (zto x t) i = i := zat_out K (by omega)
          refine ST locs ls hS ?_
          rw [ez]
          exact lv_sub hl [1, 2, 3, 4, 5, 6, 0] rfl
        · skip
          refine lv_iload hx hb dX1_sort_34 (lv_at hl 6 rfl) ?_
          refine lv_iload_n hx hb dX1_sort_36 rfl (lv_at hl 2 rfl) ?_
          refine lv_iload_n hx hb dX1_sort_37 rfl (lv_at hl 3 rfl) ?_
          refine zcallSp (As := [.int (x), .int (t)]) (rest := [.int (zI ((i : Int)))]) ⟨hx, hb, hml, hown, hts⟩ [] (met1_to l dC dI dA H x t) (va_cwS 2 hts (lw_S q171 q172 q6 q173) rfl rfl rfl (by decide +kernel) ⟨Nat.le_of_ble_eq_true rfl, Nat.le_of_ble_eq_true rfl⟩) hK hP hD hS rfl (by decide) rfl rfl hl.1 (Nat.le_of_ble_eq_true rfl) dX1_sort_38 ⟨Nat.le_of_ble_eq_true rfl, Nat.le_of_ble_eq_true rfl⟩ (fun r locs hw hS => ?_)
          obtain rfl : r = zI (((zto x t : Nat) : Int)) := hw
          refine kz_icmp_ge (tgt := 104) hx hb dX1_sort_41 (by decide) (by omega) (fun c3 => ?_) (fun c3 => ?_)
          · skip
            have ez : zat K (zfr x) (zto x t) i = i := zat_out K (by omega)
            refine ST locs ls hS ?_
            rw [ez]
            exact lv_sub hl [1, 2, 3, 4, 5, 6, 0] rfl
          · skip
            refine lv_iload_n hx hb dX1_sort_44 rfl (lv_at hl 2 rfl) ?_
            refine zcallSp (As := [.int (x)]) (rest := []) ⟨hx, hb, hml, hown, hts⟩ [] (met1_from l dC dI dA H x) (va_cwS 1 hts (lw_S q168 q169 q6 q170) rfl rfl rfl (by decide +kernel) ⟨Nat.le_of_ble_eq_true rfl, Nat.le_of_ble_eq_true rfl⟩) hK hP hD hS rfl (by decide) rfl rfl hl.1 (Nat.le_of_ble_eq_true rfl) dX1_sort_45 ⟨Nat.le_of_ble_eq_true rfl, Nat.le_of_ble_eq_true rfl⟩ (fun r locs hw hS => ?_)
            obtain rfl : r = zI (((zfr x : Nat) : Int)) := hw
            refine lv_istore (lv' := [(6, .int (zI (((zfr x : Nat) : Int)))), (0, .ref h0), (1, .int (x)), (2, .int (t)), (3, .ref n1), (4, .ref n2), (5, .int (zI ((i : Int))))]) hx hb dX1_sort_48 hl (by decide) rfl (fun ls hl => ?_)
            refine lv_iload_n hx hb dX1_sort_50 rfl (lv_at hl 2 rfl) ?_
            refine zcallSp (As := [.int (x)]) (rest := []) ⟨hx, hb, hml, hown, hts⟩ [] (met1_from l dC dI dA H x) (va_cwS 1 hts (lw_S q168 q169 q6 q170) rfl rfl rfl (by decide +kernel) ⟨Nat.le_of_ble_eq_true rfl, Nat.le_of_ble_eq_true rfl⟩) hK hP hD hS rfl (by decide) rfl rfl hl.1 (Nat.le_of_ble_eq_true rfl) dX1_sort_51 ⟨Nat.le_of_ble_eq_true rfl, Nat.le_of_ble_eq_true rfl⟩ (fun r locs hw hS => ?_)
            obtain rfl : r = zI (((zfr x : Nat) : Int)) := hw
            refine lv_istore (lv' := [(7, .int (zI (((zfr x : Nat) : Int)))), (6, .int (zI (((zfr x : Nat) : Int)))), (0, .ref h0), (1, .int (x)), (2, .int (t)), (3, .ref n1), (4, .ref n2), (5, .int (zI ((i : Int))))]) hx hb dX1_sort_54 hl (by decide) rfl (fun ls hl => ?_)
            exact IN (by omega) (by omega) (zto x t - zfr x) 0 locs ls (by omega) hS (lv_sub hl [2, 3, 4, 5, 6, 7, 1, 0] rfl)
  exact loop 48 0 (fun _ => 0) (fun _ => 0) H _ ls (by omega) (fun j hj => absurd hj (Nat.not_lt_zero _)) hP hD hS (lv_sub hl [3, 4, 5, 2, 1, 0] rfl)
set_option maxHeartbeats 4000000 in
set_option maxRecDepth 100000 in
theorem met1_quick (l : Launch) (dC : Nat → ClassId) (dI : Nat → Nat → Nat) (dA : ClassId) (H0 : Heap) (h0 q1 q2 q3 : Nat) (f g r : Nat → Int32) (x t : Int32) : Met l yX1_quick (ws_ yX1_quick cX1_quick 3 none) (zr 4 2 96 130) (zPc [.ref h0, .int x, .int t] H0 (dC, dI) dA (zo 1 dA h0 q1 q2 q3 f g r)) (zQv (fun u : (Nat × Nat) × ((Nat → Int32) × (Nat → Int32)) => zSx f g (zfr x) (zto x t) u.2.1 u.2.2) (fun u => zo 1 dA h0 u.1.1 u.1.2 q3 u.2.1 u.2.2 r) (dC, dI) dA (zo 1 dA h0 q1 q2 q3 f g r) H0.size) 2 96 (va_A (zo 1 dA h0 q1 q2 q3 f g r) H0.size) := by
  refine zMet_v (cc := cX1_quick) (maxL := 3) (by decide) (Nat.le_of_ble_eq_true rfl) ?_
  intro p e s m args below meth c A Q hx hb hml hts hown hnm hK hP hD hS hA hend ls hl
  have hl : lv_has ls 3 [(0, .ref h0), (1, .int (x)), (2, .int (t))] := hl
  have hown : s.vm.findClass RX1 = some m.cls := hown
  have hP : va_P (dC, dI) vwCl [(h0, .inr (1, [.ref q1, .ref q2, .ref q3])), (q1, .inl (dA, 48, .inl (f))), (q2, .inl (dA, 48, .inl (g))), (q3, .inl (dA, 48, .inl (r)))] H0 := hP
  have hD : va_D A [(h0, .inr (1, [.ref q1, .ref q2, .ref q3])), (q1, .inl (dA, 48, .inl (f))), (q2, .inl (dA, 48, .inl (g))), (q3, .inl (dA, 48, .inl (r)))] := hD
  refine lv_aload_n hx hb dX1_quick_0 rfl (lv_at hl 0 rfl) ?_
  refine lv_iload_n hx hb dX1_quick_1 rfl (lv_at hl 1 rfl) ?_
  refine lv_iload_n hx hb dX1_quick_2 rfl (lv_at hl 2 rfl) ?_
  refine zcallVv (q := (RX1, TX1, 3)) (ci := 1) (As := [.int (x), .int (t)]) (rest := []) (wr := []) ⟨hx, hb, hml, hown, hts⟩ [0, 1, 2, 3] [] (met1_sort l dC dI dA H0 h0 q1 q2 q3 f g r x t) (cwV 2 hts (lw_V q164 q166 qs2 q6 q167) rfl rfl rfl (by decide +kernel) ⟨Nat.le_of_ble_eq_true rfl, Nat.le_of_ble_eq_true rfl⟩) hK hP hD hS hA rfl rfl (by decide) (by decide) (by decide) rfl rfl rfl rfl hl.1 (Nat.le_of_ble_eq_true rfl) dX1_quick_3 ⟨Nat.le_of_ble_eq_true rfl, Nat.le_of_ble_eq_true rfl⟩ (fun u H locs hw hP hD hS => ?_)
  have hP : va_P (dC, dI) vwCl [(h0, .inr (1, [.ref u.1.1, .ref u.1.2, .ref q3])), (u.1.1, .inl (dA, 48, .inl (u.2.1))), (u.1.2, .inl (dA, 48, .inl (u.2.2))), (q3, .inl (dA, 48, .inl (r)))] H := hP
  have hD : va_D A [(h0, .inr (1, [.ref u.1.1, .ref u.1.2, .ref q3])), (u.1.1, .inl (dA, 48, .inl (u.2.1))), (u.1.2, .inl (dA, 48, .inl (u.2.2))), (q3, .inl (dA, 48, .inl (r)))] := hD
  exact hend _ _ _ _ u dX1_quick_6 hw hP hD hS
set_option maxHeartbeats 4000000 in
set_option maxRecDepth 100000 in
theorem met1_radix (l : Launch) (dC : Nat → ClassId) (dI : Nat → Nat → Nat) (dA : ClassId) (H0 : Heap) (h0 q1 q2 q3 : Nat) (f g r : Nat → Int32) (x t : Int32) : Met l yX1_radix (ws_ yX1_radix cX1_radix 3 none) (zr 4 2 96 130) (zPc [.ref h0, .int x, .int t] H0 (dC, dI) dA (zo 1 dA h0 q1 q2 q3 f g r)) (zQv (fun u : (Nat × Nat) × ((Nat → Int32) × (Nat → Int32)) => zSx f g (zfr x) (zto x t) u.2.1 u.2.2) (fun u => zo 1 dA h0 u.1.1 u.1.2 q3 u.2.1 u.2.2 r) (dC, dI) dA (zo 1 dA h0 q1 q2 q3 f g r) H0.size) 2 96 (va_A (zo 1 dA h0 q1 q2 q3 f g r) H0.size) := by
  refine zMet_v (cc := cX1_radix) (maxL := 3) (by decide) (Nat.le_of_ble_eq_true rfl) ?_
  intro p e s m args below meth c A Q hx hb hml hts hown hnm hK hP hD hS hA hend ls hl
  have hl : lv_has ls 3 [(0, .ref h0), (1, .int (x)), (2, .int (t))] := hl
  have hown : s.vm.findClass RX1 = some m.cls := hown
  have hP : va_P (dC, dI) vwCl [(h0, .inr (1, [.ref q1, .ref q2, .ref q3])), (q1, .inl (dA, 48, .inl (f))), (q2, .inl (dA, 48, .inl (g))), (q3, .inl (dA, 48, .inl (r)))] H0 := hP
  have hD : va_D A [(h0, .inr (1, [.ref q1, .ref q2, .ref q3])), (q1, .inl (dA, 48, .inl (f))), (q2, .inl (dA, 48, .inl (g))), (q3, .inl (dA, 48, .inl (r)))] := hD
  refine lv_aload_n hx hb dX1_radix_0 rfl (lv_at hl 0 rfl) ?_
  refine lv_iload_n hx hb dX1_radix_1 rfl (lv_at hl 1 rfl) ?_
  refine lv_iload_n hx hb dX1_radix_2 rfl (lv_at hl 2 rfl) ?_
  refine zcallVv (q := (RX1, TX1, 3)) (ci := 1) (As := [.int (x), .int (t)]) (rest := []) (wr := []) ⟨hx, hb, hml, hown, hts⟩ [0, 1, 2, 3] [] (met1_sort l dC dI dA H0 h0 q1 q2 q3 f g r x t) (cwV 2 hts (lw_V q164 q166 qs2 q6 q167) rfl rfl rfl (by decide +kernel) ⟨Nat.le_of_ble_eq_true rfl, Nat.le_of_ble_eq_true rfl⟩) hK hP hD hS hA rfl rfl (by decide) (by decide) (by decide) rfl rfl rfl rfl hl.1 (Nat.le_of_ble_eq_true rfl) dX1_radix_3 ⟨Nat.le_of_ble_eq_true rfl, Nat.le_of_ble_eq_true rfl⟩ (fun u H locs hw hP hD hS => ?_)
  have hP : va_P (dC, dI) vwCl [(h0, .inr (1, [.ref u.1.1, .ref u.1.2, .ref q3])), (u.1.1, .inl (dA, 48, .inl (u.2.1))), (u.1.2, .inl (dA, 48, .inl (u.2.2))), (q3, .inl (dA, 48, .inl (r)))] H := hP
  have hD : va_D A [(h0, .inr (1, [.ref u.1.1, .ref u.1.2, .ref q3])), (u.1.1, .inl (dA, 48, .inl (u.2.1))), (u.1.2, .inl (dA, 48, .inl (u.2.2))), (q3, .inl (dA, 48, .inl (r)))] := hD
  exact hend _ _ _ _ u dX1_radix_6 hw hP hD hS
set_option maxHeartbeats 4000000 in
set_option maxRecDepth 100000 in
theorem met1_indirect (l : Launch) (dC : Nat → ClassId) (dI : Nat → Nat → Nat) (dA : ClassId) (H0 : Heap) (h0 q1 q2 q3 : Nat) (f g r : Nat → Int32) (x t : Int32) : Met l yX1_indirect (ws_ yX1_indirect cX1_indirect 7 none) (zr 3 1 48 100) (zPc [.ref h0, .int x, .int t] H0 (dC, dI) dA (zo 1 dA h0 q1 q2 q3 f g r)) (zQv (fun u : Nat × (Nat → Int32) => zIx f g (zfr x) (zto x t) r u.2) (fun u => zo 1 dA h0 q1 q2 u.1 f g u.2) (dC, dI) dA (zo 1 dA h0 q1 q2 q3 f g r) H0.size) 1 48 (va_A (zo 1 dA h0 q1 q2 q3 f g r) H0.size) := by
  refine zMet_v (cc := cX1_indirect) (maxL := 7) (by decide) (Nat.le_of_ble_eq_true rfl) ?_
  intro p e s m args below meth c A Q hx hb hml hts hown hnm hK hP hD hS hA hend ls hl
  have hl : lv_has ls 7 [(0, .ref h0), (1, .int (x)), (2, .int (t))] := hl
  have hown : s.vm.findClass RX1 = some m.cls := hown
  have hP : va_P (dC, dI) vwCl [(h0, .inr (1, [.ref q1, .ref q2, .ref q3])), (q1, .inl (dA, 48, .inl (f))), (q2, .inl (dA, 48, .inl (g))), (q3, .inl (dA, 48, .inl (r)))] H0 := hP
  have hD : va_D A [(h0, .inr (1, [.ref q1, .ref q2, .ref q3])), (q1, .inl (dA, 48, .inl (f))), (q2, .inl (dA, 48, .inl (g))), (q3, .inl (dA, 48, .inl (r)))] := hD
  have hle := zto_le x t
  have hlh := zfr_to x t
  obtain ⟨K, hKe⟩ : ∃ z, z = zkk f g := ⟨_, rfl⟩
  refine lv_bipush (v := zI (48)) hx hb dX1_indirect_0 (by decide +kernel) ?_
  refine kz_newa hx hb (hts _ q34) hK hP hD hS hA (Nat.le_of_ble_eq_true rfl) (Nat.le_of_ble_eq_true rfl) dX1_indirect_2 (fun n1 H hP hD hS => ?_)
  have hP : va_P (dC, dI) vwCl [(h0, .inr (1, [.ref q1, .ref q2, .ref q3])), (q1, .inl (dA, 48, .inl (f))), (q2, .inl (dA, 48, .inl (g))), (q3, .inl (dA, 48, .inl (r))), (n1, .inl (dA, 48, .inl (fun _ => 0)))] H := hP
  have hD : va_D A [(h0, .inr (1, [.ref q1, .ref q2, .ref q3])), (q1, .inl (dA, 48, .inl (f))), (q2, .inl (dA, 48, .inl (g))), (q3, .inl (dA, 48, .inl (r))), (n1, .inl (dA, 48, .inl (fun _ => 0)))] := hD
  refine lv_astore_n (lv' := [(3, .ref n1), (0, .ref h0), (1, .int (x)), (2, .int (t))]) hx hb dX1_indirect_4 rfl hl (by decide) rfl (fun ls hl => ?_)
  refine lv_iconst (v := zI (0)) hx hb dX1_indirect_5 rfl ?_
  refine lv_istore (lv' := [(4, .int (zI (0))), (3, .ref n1), (0, .ref h0), (1, .int (x)), (2, .int (t))]) hx hb dX1_indirect_6 hl (by decide) rfl (fun ls hl => ?_)
  have loop : ∀ (k i : Nat) (o1 : Nat → Int32) (H : Heap) (locs : List Loc) (ls : Array Slot), i + k = 48 → (∀ j, j < i → o1 (zat K (zfr x) (zto x t) j) = if zfr x ≤ j ∧ j < zto x t then zI (j : Int) else r j) → va_P (dC, dI) vwCl [(h0, .inr (1, [.ref q1, .ref q2, .ref q3])), (q1, .inl (dA, 48, .inl (f))), (q2, .inl (dA, 48, .inl (g))), (q3, .inl (dA, 48, .inl (r))), (n1, .inl (dA, 48, .inl (o1)))] H → va_D A [(h0, .inr (1, [.ref q1, .ref q2, .ref q3])), (q1, .inl (dA, 48, .inl (f))), (q2, .inl (dA, 48, .inl (g))), (q3, .inl (dA, 48, .inl (r))), (n1, .inl (dA, 48, .inl (o1)))] → va_S A H0 H locs → lv_has ls 7 [(0, .ref h0), (1, .int (x)), (2, .int (t)), (3, .ref n1), (4, .int (zI ((i : Int))))] → W p l e (zr 3 1 48 100) s m args below meth c H locs 1 48 Q (F0 m 8 ls []) := by
    intro k
    induction k with
    | zero =>
      intro i o1 H locs ls h1 h2 hP hD hS hl
      refine lv_iload hx hb dX1_indirect_8 (lv_at hl 4 rfl) ?_
      refine lv_bipush (v := zI (48)) hx hb dX1_indirect_10 (by decide +kernel) ?_
      refine kz_icmp_ge (tgt := 120) hx hb dX1_indirect_12 (by decide) (by omega) (fun c1 => ?_) (fun c1 => ?_)
      · skip
        refine lv_aload_n hx hb dX1_indirect_120 rfl (lv_at hl 0 rfl) ?_
        refine lv_aload_n hx hb dX1_indirect_121 rfl (lv_at hl 3 rfl) ?_
        refine va_put (D := (dC, dI)) (ci := 1) (v := .ref n1) (ty := .array .int) (C := RX1) (T := TX1) (N := 3) hx hb hts in_X1 tyX1 tyX1_ok nmX1 hown hK hP hD hS 0 rfl rfl 2 (by decide) (hts _ q126) (fun _ h9 => h9) rfl (by decide +kernel) rfl rfl (Nat.le_of_ble_eq_true rfl) dX1_indirect_122 (fun H locs hP hD hS => ?_)
        have hP : va_P (dC, dI) vwCl [(h0, .inr (1, [.ref q1, .ref q2, .ref n1])), (q1, .inl (dA, 48, .inl (f))), (q2, .inl (dA, 48, .inl (g))), (q3, .inl (dA, 48, .inl (r))), (n1, .inl (dA, 48, .inl (o1)))] H := hP
        have hD : va_D A [(h0, .inr (1, [.ref q1, .ref q2, .ref n1])), (q1, .inl (dA, 48, .inl (f))), (q2, .inl (dA, 48, .inl (g))), (q3, .inl (dA, 48, .inl (r))), (n1, .inl (dA, 48, .inl (o1)))] := hD
        have hP := hP.sub (ws' := [(h0, .inr (1, [.ref q1, .ref q2, .ref n1])), (q1, .inl (dA, 48, .inl (f))), (q2, .inl (dA, 48, .inl (g))), (n1, .inl (dA, 48, .inl (o1)))]) [0, 1, 2, 4] rfl
        have hD := hD.sub (ws' := [(h0, .inr (1, [.ref q1, .ref q2, .ref n1])), (q1, .inl (dA, 48, .inl (f))), (q2, .inl (dA, 48, .inl (g))), (n1, .inl (dA, 48, .inl (o1)))]) [0, 1, 2, 4] (by decide) rfl
        exact hend _ _ _ _ (n1, o1) dX1_indirect_125 (fun j hj => by rw [← hKe]; exact h2 j (by omega)) hP hD hS
      · skip
        omega
    | succ k ih =>
      intro i o1 H locs ls h1 h2 hP hD hS hl
      refine lv_iload hx hb dX1_indirect_8 (lv_at hl 4 rfl) ?_
      refine lv_bipush (v := zI (48)) hx hb dX1_indirect_10 (by decide +kernel) ?_
      refine kz_icmp_ge (tgt := 120) hx hb dX1_indirect_12 (by decide) (by omega) (fun c1 => ?_) (fun c1 => ?_)
      · skip
        omega
      · skip
        have hi48 : i < 48 := by omega
        have hzat := zat_lt K (lo := zfr x) (hi := zto x t) hle hi48
        have ST : ∀ (H : Heap) (locs : List Loc) (ls : Array Slot), va_P (dC, dI) vwCl [(h0, .inr (1, [.ref q1, .ref q2, .ref q3])), (q1, .inl (dA, 48, .inl (f))), (q2, .inl (dA, 48, .inl (g))), (q3, .inl (dA, 48, .inl (r))), (n1, .inl (dA, 48, .inl (upd o1 (zat K (zfr x) (zto x t) i) (if zfr x ≤ i ∧ i < zto x t then zI (i : Int) else r i))))] H → va_D A [(h0, .inr (1, [.ref q1, .ref q2, .ref q3])), (q1, .inl (dA, 48, .inl (f))), (q2, .inl (dA, 48, .inl (g))), (q3, .inl (dA, 48, .inl (r))), (n1, .inl (dA, 48, .inl (upd o1 (zat K (zfr x) (zto x t) i) (if zfr x ≤ i ∧ i < zto x t then zI (i : Int) else r i))))] → va_S A H0 H locs → lv_has ls 7 [(0, .ref h0), (1, .int (x)), (2, .int (t)), (3, .ref n1), (4, .int (zI ((i : Int))))] → W p l e (zr 3 1 48 100) s m args below meth c H locs 1 48 Q (F0 m 114 ls []) := by
          intro H locs ls hP hD hS hl
          refine kz_iinc (E := ((i + 1 : Nat) : Int)) (lv' := [(4, .int (zI (((i + 1 : Nat) : Int)))), (0, .ref h0), (1, .int (x)), (2, .int (t)), (3, .ref n1)]) hx hb dX1_indirect_114 hl (k := 4) rfl (by omega) (by decide) rfl (fun ls hl => ?_)
          refine lv_goto (tgt := 8) hx hb dX1_indirect_117 (by decide) ?_
          refine ih (i + 1) _ H locs ls (by omega) (fun j hj => ?_) hP hD hS (lv_sub hl [1, 2, 3, 4, 0] rfl)
          by_cases e : j = i
          · rw [e, pk_us]
          · rw [pk_un (zat_inj K (by omega) e)]
            exact h2 j (by omega)
        have ST2 : zfr x ≤ i → i < zto x t → ∀ (locs : List Loc) (ls : Array Slot), va_S A H0 H locs → lv_has ls 7 [(0, .ref h0), (1, .int (x)), (2, .int (t)), (3, .ref n1), (4, .int (zI ((i : Int)))), (5, .int (zI (((zat K (zfr x) (zto x t) i : Nat) : Int))))] → W p l e (zr 3 1 48 100) s m args below meth c H locs 1 48 Q (F0 m 108 ls []) := by
          intro hge hlt locs ls hS hl
          refine lv_aload_n hx hb dX1_indirect_108 rfl (lv_at hl 3 rfl) ?_
          refine lv_iload hx hb dX1_indirect_109 (lv_at hl 5 rfl) ?_
          refine lv_iload hx hb dX1_indirect_111 (lv_at hl 4 rfl) ?_
          refine kz_iast (k := zat K (zfr x) (zto x t) i) hx hb hK hP hD hS 4 0 rfl rfl (by omega) (by omega) (by omega) dX1_indirect_113 (fun H locs hP hD hS => ?_)
          have hP : va_P (dC, dI) vwCl [(h0, .inr (1, [.ref q1, .ref q2, .ref q3])), (q1, .inl (dA, 48, .inl (f))), (q2, .inl (dA, 48, .inl (g))), (q3, .inl (dA, 48, .inl (r))), (n1, .inl (dA, 48, .inl (upd o1 (zat K (zfr x) (zto x t) i) (zI ((i : Int))))))] H := hP
          have hD : va_D A [(h0, .inr (1, [.ref q1, .ref q2, .ref q3])), (q1, .inl (dA, 48, .inl (f))), (q2, .inl (dA, 48, .inl (g))), (q3, .inl (dA, 48, .inl (r))), (n1, .inl (dA, 48, .inl (upd o1 (zat K (zfr x) (zto x t) i) (zI ((i : Int))))))] := hD
          refine ST H locs ls ?_ ?_ hS (lv_sub hl [0, 1, 2, 3, 4] rfl)
          · rw [if_pos ⟨hge, hlt⟩]
            exact hP
          · rw [if_pos ⟨hge, hlt⟩]
            exact hD
        have ST3 : ¬ (zfr x ≤ i ∧ i < zto x t) → ∀ (locs : List Loc) (ls : Array Slot), va_S A H0 H locs → lv_has ls 7 [(0, .ref h0), (1, .int (x)), (2, .int (t)), (3, .ref n1), (4, .int (zI ((i : Int))))] → W p l e (zr 3 1 48 100) s m args below meth c H locs 1 48 Q (F0 m 34 ls []) := by
          intro hno locs ls hS hl
          refine lv_aload_n hx hb dX1_indirect_34 rfl (lv_at hl 3 rfl) ?_
          refine lv_iload hx hb dX1_indirect_35 (lv_at hl 4 rfl) ?_
          refine lv_aload_n hx hb dX1_indirect_37 rfl (lv_at hl 0 rfl) ?_
          refine va_get (D := (dC, dI)) (ci := 1) (v := .ref q3) (C := RX1) (T := TX1) (N := 3) hx hb hts in_X1 hown hK hP 0 rfl rfl 2 (by decide) (hts _ q126) (fun _ h9 => h9) rfl dX1_indirect_38 ?_
          refine lv_iload hx hb dX1_indirect_41 (lv_at hl 4 rfl) ?_
          refine kz_iald (k := i) hx hb hK hP 3 0 rfl rfl (by omega) (by omega) (by omega) dX1_indirect_43 ?_
          refine kz_iast (k := i) hx hb hK hP hD hS 4 0 rfl rfl (by omega) (by omega) (by omega) dX1_indirect_44 (fun H locs hP hD hS => ?_)
          have hP : va_P (dC, dI) vwCl [(h0, .inr (1, [.ref q1, .ref q2, .ref q3])), (q1, .inl (dA, 48, .inl (f))), (q2, .inl (dA, 48, .inl (g))), (q3, .inl (dA, 48, .inl (r))), (n1, .inl (dA, 48, .inl (upd o1 i ((r i)))))] H := hP
          have hD : va_D A [(h0, .inr (1, [.ref q1, .ref q2, .ref q3])), (q1, .inl (dA, 48, .inl (f))), (q2, .inl (dA, 48, .inl (g))), (q3, .inl (dA, 48, .inl (r))), (n1, .inl (dA, 48, .inl (upd o1 i ((r i)))))] := hD
          refine lv_goto (tgt := 114) hx hb dX1_indirect_45 (by decide) ?_
          refine ST H locs ls ?_ ?_ hS (lv_sub hl [0, 1, 2, 3, 4] rfl)
          · rw [if_neg hno, zat_out K (by omega)]
            exact hP
          · rw [if_neg hno, zat_out K (by omega)]
            exact hD
        have IN : zfr x ≤ i → i < zto x t → ∀ (k2 tt : Nat) (locs : List Loc) (ls : Array Slot), tt + k2 = zto x t - zfr x → va_S A H0 H locs → lv_has ls 7 [(0, .ref h0), (1, .int (x)), (2, .int (t)), (3, .ref n1), (4, .int (zI ((i : Int)))), (5, .int (zI (((zfr x + fb_ct (fun t => decide (zK6 K (zfr x + t) < zK6 K i)) tt : Nat) : Int)))), (6, .int (zI (((zfr x + tt : Nat) : Int))))] → W p l e (zr 3 1 48 100) s m args below meth c H locs 1 48 Q (F0 m 60 ls []) := by
          intro hge hlt k2
          induction k2 with
          | zero =>
            intro tt locs ls g1 hS hl
            have hct := fb_ct_le (fun t => decide (zK6 K (zfr x + t) < zK6 K i)) tt
            refine lv_iload hx hb dX1_indirect_60 (lv_at hl 6 rfl) ?_
            refine lv_iload_n hx hb dX1_indirect_62 rfl (lv_at hl 1 rfl) ?_
            refine lv_iload_n hx hb dX1_indirect_63 rfl (lv_at hl 2 rfl) ?_
            refine zcallSp (As := [.int (x), .int (t)]) (rest := [.int (zI (((zfr x + tt : Nat) : Int)))]) ⟨hx, hb, hml, hown, hts⟩ [] (met1_to l dC dI dA H x t) (va_cwS 2 hts (lw_S q171 q172 q6 q173) rfl rfl rfl (by decide +kernel) ⟨Nat.le_of_ble_eq_true rfl, Nat.le_of_ble_eq_true rfl⟩) hK hP hD hS rfl (by decide) rfl rfl hl.1 (Nat.le_of_ble_eq_true rfl) dX1_indirect_64 ⟨Nat.le_of_ble_eq_true rfl, Nat.le_of_ble_eq_true rfl⟩ (fun r locs hw hS => ?_)
            obtain rfl : r = zI (((zto x t : Nat) : Int)) := hw
            refine kz_icmp_ge (tgt := 108) hx hb dX1_indirect_67 (by decide) (by omega) (fun c2 => ?_) (fun c2 => ?_)
            · skip
              have ezat : zfr x + fb_ct (fun t => decide (zK6 K (zfr x + t) < zK6 K i)) tt = zat K (zfr x) (zto x t) i := by
                rw [zat_in K hge hlt, show tt = zto x t - zfr x by omega]
                rfl
              rw [ezat] at hl
              exact ST2 hge hlt locs ls hS (lv_sub hl [0, 1, 2, 3, 4, 5] rfl)
            · skip
              omega
          | succ k2 ih2 =>
            intro tt locs ls g1 hS hl
            have hct := fb_ct_le (fun t => decide (zK6 K (zfr x + t) < zK6 K i)) tt
            refine lv_iload hx hb dX1_indirect_60 (lv_at hl 6 rfl) ?_
            refine lv_iload_n hx hb dX1_indirect_62 rfl (lv_at hl 1 rfl) ?_
            refine lv_iload_n hx hb dX1_indirect_63 rfl (lv_at hl 2 rfl) ?_
            refine zcallSp (As := [.int (x), .int (t)]) (rest := [.int (zI (((zfr x + tt : Nat) : Int)))]) ⟨hx, hb, hml, hown, hts⟩ [] (met1_to l dC dI dA H x t) (va_cwS 2 hts (lw_S q171 q172 q6 q173) rfl rfl rfl (by decide +kernel) ⟨Nat.le_of_ble_eq_true rfl, Nat.le_of_ble_eq_true rfl⟩) hK hP hD hS rfl (by decide) rfl rfl hl.1 (Nat.le_of_ble_eq_true rfl) dX1_indirect_64 ⟨Nat.le_of_ble_eq_true rfl, Nat.le_of_ble_eq_true rfl⟩ (fun r locs hw hS => ?_)
            obtain rfl : r = zI (((zto x t : Nat) : Int)) := hw
            refine kz_icmp_ge (tgt := 108) hx hb dX1_indirect_67 (by decide) (by omega) (fun c2 => ?_) (fun c2 => ?_)
            · skip
              omega
            · skip
              refine lv_aload_n hx hb dX1_indirect_70 rfl (lv_at hl 0 rfl) ?_
              refine lv_iload hx hb dX1_indirect_71 (lv_at hl 6 rfl) ?_
              refine lv_iload hx hb dX1_indirect_73 (lv_at hl 4 rfl) ?_
              refine zcallVp (q := (RX1, TX1, 3)) (ci := 1) (As := [.int (zI (((zfr x + tt : Nat) : Int))), .int (zI ((i : Int)))]) (rest := []) ⟨hx, hb, hml, hown, hts⟩ [0, 1, 2] (met1_less l dC dI dA H h0 q1 q2 q3 f g (zfr x + tt) i (by omega) (by omega)) (cwV 2 hts (lw_V q174 q176 qs3 q6 q177) rfl rfl rfl (by decide +kernel) ⟨Nat.le_of_ble_eq_true rfl, Nat.le_of_ble_eq_true rfl⟩) hK hP hD hS rfl (by decide) rfl rfl rfl rfl hl.1 (Nat.le_of_ble_eq_true rfl) dX1_indirect_75 ⟨Nat.le_of_ble_eq_true rfl, Nat.le_of_ble_eq_true rfl⟩ (fun r locs hw hS => ?_)
              subst hw
              refine lv_if_ne (tgt := 99) hx hb dX1_indirect_78 (by decide) (fun c3 => ?_) (fun c3 => ?_)
              · skip
                have hyes : zK6 K (zfr x + tt) < zK6 K i := (zK6_lt K (by omega) (by omega)).mpr (Or.inl (by rw [hKe]; exact zless_t.mp c3))
                have hyes2 := zct_t (lo := zfr x) hyes
                refine kz_iinc (E := ((zfr x + fb_ct (fun t => decide (zK6 K (zfr x + t) < zK6 K i)) (tt + 1) : Nat) : Int)) (lv' := [(5, .int (zI (((zfr x + fb_ct (fun t => decide (zK6 K (zfr x + t) < zK6 K i)) (tt + 1) : Nat) : Int)))), (0, .ref h0), (1, .int (x)), (2, .int (t)), (3, .ref n1), (4, .int (zI ((i : Int)))), (6, .int (zI (((zfr x + tt : Nat) : Int))))]) hx hb dX1_indirect_99 hl (k := 5) rfl (by omega) (by decide) rfl (fun ls hl => ?_)
                refine kz_iinc (E := ((zfr x + (tt + 1) : Nat) : Int)) (lv' := [(6, .int (zI (((zfr x + (tt + 1) : Nat) : Int)))), (5, .int (zI (((zfr x + fb_ct (fun t => decide (zK6 K (zfr x + t) < zK6 K i)) (tt + 1) : Nat) : Int)))), (0, .ref h0), (1, .int (x)), (2, .int (t)), (3, .ref n1), (4, .int (zI ((i : Int))))]) hx hb dX1_indirect_102 hl (k := 6) rfl (by omega) (by decide) rfl (fun ls hl => ?_)
                refine lv_goto (tgt := 60) hx hb dX1_indirect_105 (by decide) ?_
                exact ih2 (tt + 1) locs ls (by omega) hS (lv_sub hl [2, 3, 4, 5, 6, 1, 0] rfl)
              · skip
                have n3 : ¬ K (zfr x + tt) < K i := by rw [hKe]; exact fun z => absurd c3 (zless_t.mpr z)
                refine lv_iload hx hb dX1_indirect_81 (lv_at hl 6 rfl) ?_
                refine lv_iload hx hb dX1_indirect_83 (lv_at hl 4 rfl) ?_
                refine kz_icmp_ge (tgt := 102) hx hb dX1_indirect_85 (by decide) (by omega) (fun c4 => ?_) (fun c4 => ?_)
                · skip
                  have hno : ¬ zK6 K (zfr x + tt) < zK6 K i := fun z => by rcases (zK6_lt K (by omega) (by omega)).mp z with w | w <;> omega
                  rw [← zct_f (lo := zfr x) hno] at hl
                  refine kz_iinc (E := ((zfr x + (tt + 1) : Nat) : Int)) (lv' := [(6, .int (zI (((zfr x + (tt + 1) : Nat) : Int)))), (0, .ref h0), (1, .int (x)), (2, .int (t)), (3, .ref n1), (4, .int (zI ((i : Int)))), (5, .int (zI (((zfr x + fb_ct (fun t => decide (zK6 K (zfr x + t) < zK6 K i)) (tt + 1) : Nat) : Int))))]) hx hb dX1_indirect_102 hl (k := 6) rfl (by omega) (by decide) rfl (fun ls hl => ?_)
                  refine lv_goto (tgt := 60) hx hb dX1_indirect_105 (by decide) ?_
                  exact ih2 (tt + 1) locs ls (by omega) hS (lv_sub hl [1, 2, 3, 4, 5, 6, 0] rfl)
                · skip
                  refine lv_aload_n hx hb dX1_indirect_88 rfl (lv_at hl 0 rfl) ?_
                  refine lv_iload hx hb dX1_indirect_89 (lv_at hl 4 rfl) ?_
                  refine lv_iload hx hb dX1_indirect_91 (lv_at hl 6 rfl) ?_
                  refine zcallVp (q := (RX1, TX1, 3)) (ci := 1) (As := [.int (zI ((i : Int))), .int (zI (((zfr x + tt : Nat) : Int)))]) (rest := []) ⟨hx, hb, hml, hown, hts⟩ [0, 1, 2] (met1_less l dC dI dA H h0 q1 q2 q3 f g i (zfr x + tt) (by omega) (by omega)) (cwV 2 hts (lw_V q174 q176 qs3 q6 q177) rfl rfl rfl (by decide +kernel) ⟨Nat.le_of_ble_eq_true rfl, Nat.le_of_ble_eq_true rfl⟩) hK hP hD hS rfl (by decide) rfl rfl rfl rfl hl.1 (Nat.le_of_ble_eq_true rfl) dX1_indirect_93 ⟨Nat.le_of_ble_eq_true rfl, Nat.le_of_ble_eq_true rfl⟩ (fun r9 locs hw2 hS => ?_)
                  subst hw2
                  refine lv_if_ne (tgt := 102) hx hb dX1_indirect_96 (by decide) (fun c5 => ?_) (fun c5 => ?_)
                  · skip
                    have n5 : K i < K (zfr x + tt) := by rw [hKe]; exact zless_t.mp c5
                    have hno : ¬ zK6 K (zfr x + tt) < zK6 K i := fun z => by rcases (zK6_lt K (by omega) (by omega)).mp z with w | w <;> omega
                    rw [← zct_f (lo := zfr x) hno] at hl
                    refine kz_iinc (E := ((zfr x + (tt + 1) : Nat) : Int)) (lv' := [(6, .int (zI (((zfr x + (tt + 1) : Nat) : Int)))), (0, .ref h0), (1, .int (x)), (2, .int (t)), (3, .ref n1), (4, .int (zI ((i : Int)))), (5, .int (zI (((zfr x + fb_ct (fun t => decide (zK6 K (zfr x + t) < zK6 K i)) (tt + 1) : Nat) : Int))))]) hx hb dX1_indirect_102 hl (k := 6) rfl (by omega) (by decide) rfl (fun ls hl => ?_)
                    refine lv_goto (tgt := 60) hx hb dX1_indirect_105 (by decide) ?_
                    exact ih2 (tt + 1) locs ls (by omega) hS (lv_sub hl [1, 2, 3, 4, 5, 6, 0] rfl)
                  · skip
                    have n5 : ¬ K i < K (zfr x + tt) := by rw [hKe]; exact fun z => absurd c5 (zless_t.mpr z)
                    have hyes : zK6 K (zfr x + tt) < zK6 K i := (zK6_lt K (by omega) (by omega)).mpr (Or.inr (by omega))
                    have hyes2 := zct_t (lo := zfr x) hyes
                    refine kz_iinc (E := ((zfr x + fb_ct (fun t => decide (zK6 K (zfr x + t) < zK6 K i)) (tt + 1) : Nat) : Int)) (lv' := [(5, .int (zI (((zfr x + fb_ct (fun t => decide (zK6 K (zfr x + t) < zK6 K i)) (tt + 1) : Nat) : Int)))), (0, .ref h0), (1, .int (x)), (2, .int (t)), (3, .ref n1), (4, .int (zI ((i : Int)))), (6, .int (zI (((zfr x + tt : Nat) : Int))))]) hx hb dX1_indirect_99 hl (k := 5) rfl (by omega) (by decide) rfl (fun ls hl => ?_)
                    refine kz_iinc (E := ((zfr x + (tt + 1) : Nat) : Int)) (lv' := [(6, .int (zI (((zfr x + (tt + 1) : Nat) : Int)))), (5, .int (zI (((zfr x + fb_ct (fun t => decide (zK6 K (zfr x + t) < zK6 K i)) (tt + 1) : Nat) : Int)))), (0, .ref h0), (1, .int (x)), (2, .int (t)), (3, .ref n1), (4, .int (zI ((i : Int))))]) hx hb dX1_indirect_102 hl (k := 6) rfl (by omega) (by decide) rfl (fun ls hl => ?_)
                    refine lv_goto (tgt := 60) hx hb dX1_indirect_105 (by decide) ?_
                    exact ih2 (tt + 1) locs ls (by omega) hS (lv_sub hl [2, 3, 4, 5, 6, 1, 0] rfl)
        refine lv_iload hx hb dX1_indirect_15 (lv_at hl 4 rfl) ?_
        refine lv_iload_n hx hb dX1_indirect_17 rfl (lv_at hl 1 rfl) ?_
        refine zcallSp (As := [.int (x)]) (rest := [.int (zI ((i : Int)))]) ⟨hx, hb, hml, hown, hts⟩ [] (met1_from l dC dI dA H x) (va_cwS 1 hts (lw_S q168 q169 q6 q170) rfl rfl rfl (by decide +kernel) ⟨Nat.le_of_ble_eq_true rfl, Nat.le_of_ble_eq_true rfl⟩) hK hP hD hS rfl (by decide) rfl rfl hl.1 (Nat.le_of_ble_eq_true rfl) dX1_indirect_18 ⟨Nat.le_of_ble_eq_true rfl, Nat.le_of_ble_eq_true rfl⟩ (fun r locs hw hS => ?_)
        obtain rfl : r = zI (((zfr x : Nat) : Int)) := hw
        refine kz_icmp_lt (tgt := 34) hx hb dX1_indirect_21 (by decide) (by omega) (fun c2 => ?_) (fun c2 => ?_)
        · skip
          exact ST3 (by omega) locs ls hS (lv_sub hl [0, 1, 2, 3, 4] rfl)
        · skip
          refine lv_iload hx hb dX1_indirect_24 (lv_at hl 4 rfl) ?_
          refine lv_iload_n hx hb dX1_indirect_26 rfl (lv_at hl 1 rfl) ?_
          refine lv_iload_n hx hb dX1_indirect_27 rfl (lv_at hl 2 rfl) ?_
          refine zcallSp (As := [.int (x), .int (t)]) (rest := [.int (zI ((i : Int)))]) ⟨hx, hb, hml, hown, hts⟩ [] (met1_to l dC dI dA H x t) (va_cwS 2 hts (lw_S q171 q172 q6 q173) rfl rfl rfl (by decide +kernel) ⟨Nat.le_of_ble_eq_true rfl, Nat.le_of_ble_eq_true rfl⟩) hK hP hD hS rfl (by decide) rfl rfl hl.1 (Nat.le_of_ble_eq_true rfl) dX1_indirect_28 ⟨Nat.le_of_ble_eq_true rfl, Nat.le_of_ble_eq_true rfl⟩ (fun r locs hw hS => ?_)
          obtain rfl : r = zI (((zto x t : Nat) : Int)) := hw
          refine kz_icmp_lt (tgt := 48) hx hb dX1_indirect_31 (by decide) (by omega) (fun c3 => ?_) (fun c3 => ?_)
          · skip
            refine lv_iload_n hx hb dX1_indirect_48 rfl (lv_at hl 1 rfl) ?_
            refine zcallSp (As := [.int (x)]) (rest := []) ⟨hx, hb, hml, hown, hts⟩ [] (met1_from l dC dI dA H x) (va_cwS 1 hts (lw_S q168 q169 q6 q170) rfl rfl rfl (by decide +kernel) ⟨Nat.le_of_ble_eq_true rfl, Nat.le_of_ble_eq_true rfl⟩) hK hP hD hS rfl (by decide) rfl rfl hl.1 (Nat.le_of_ble_eq_true rfl) dX1_indirect_49 ⟨Nat.le_of_ble_eq_true rfl, Nat.le_of_ble_eq_true rfl⟩ (fun r locs hw hS => ?_)
            obtain rfl : r = zI (((zfr x : Nat) : Int)) := hw
            refine lv_istore (lv' := [(5, .int (zI (((zfr x : Nat) : Int)))), (0, .ref h0), (1, .int (x)), (2, .int (t)), (3, .ref n1), (4, .int (zI ((i : Int))))]) hx hb dX1_indirect_52 hl (by decide) rfl (fun ls hl => ?_)
            refine lv_iload_n hx hb dX1_indirect_54 rfl (lv_at hl 2 rfl) ?_
            refine zcallSp (As := [.int (x)]) (rest := []) ⟨hx, hb, hml, hown, hts⟩ [] (met1_from l dC dI dA H x) (va_cwS 1 hts (lw_S q168 q169 q6 q170) rfl rfl rfl (by decide +kernel) ⟨Nat.le_of_ble_eq_true rfl, Nat.le_of_ble_eq_true rfl⟩) hK hP hD hS rfl (by decide) rfl rfl hl.1 (Nat.le_of_ble_eq_true rfl) dX1_indirect_55 ⟨Nat.le_of_ble_eq_true rfl, Nat.le_of_ble_eq_true rfl⟩ (fun r locs hw hS => ?_)
            obtain rfl : r = zI (((zfr x : Nat) : Int)) := hw
            refine lv_istore (lv' := [(6, .int (zI (((zfr x : Nat) : Int)))), (5, .int (zI (((zfr x : Nat) : Int)))), (0, .ref h0), (1, .int (x)), (2, .int (t)), (3, .ref n1), (4, .int (zI ((i : Int))))]) hx hb dX1_indirect_58 hl (by decide) rfl (fun ls hl => ?_)
            exact IN (by omega) (by omega) (zto x t - zfr x) 0 locs ls (by omega) hS (lv_sub hl [2, 3, 4, 5, 6, 1, 0] rfl)
          · skip
            exact ST3 (by omega) locs ls hS (lv_sub hl [0, 1, 2, 3, 4] rfl)
  exact loop 48 0 (fun _ => 0) H _ ls (by omega) (fun j hj => absurd hj (Nat.not_lt_zero _)) hP hD hS (lv_sub hl [2, 3, 4, 1, 0] rfl)
end
section

/-! THE CLAIM OUT OF ONE WALK OF THE LAW'S BODY. Your part is whole_start (and what it stands on); all else here is the same for every law, but numbers. -/
def R_law : String := "PairSortDeskLaw"
def lw_P (b : Addr) (xs : List Int32) (args : Array Value) (s : State) : Prop := args = #[.ref b] ∧ s.IntsAt b xs ∧ xs.length ≤ 288 ∧ (Jvm.Cond.and given_1 narrow_1).before args s = true
def lw_Q (_ : Array Value) (s : State) (o : Outcome) (t : State) : Prop := o = .returned (some (.int 1)) ∧ Framed s o t [] 1200000 5502250
def lw_Z (below : List Frame) (a : Array Value) (s : State) : State → Prop := fun t => ∃ o, t.status = .running ∧ Ended t below o ∧ lw_Q a s o t
/-- the law's own end, with 1 on the stack, nothing written that was there before, its room as the claim has it -/
theorem lw_ret {p : Program} {l : Launch} {e : Env} {s : State} {m : MethodId} {below : List Frame} {meth : Method} {c : Code} {b : Nat} (hx : p.tables.exec = Jvm.exec) (hb : c.code = code) (hr : meth.sig.returnType = ret) (hlocks : meth.locks = false) {pc : Nat} {H : Heap} {ls : Array Slot} (hdg : decode code pc = .ok (.ireturn, 1)) : W p l e room_1 s m #[Value.ref b] below meth c H [] 1200000 5502250 (lw_Z below #[Value.ref b] s) (F0 m pc ls [.int 1]) := by
  intro T hT X
  obtain ⟨fs, hret, hrun, hended, hW, hframe⟩ := X.leave (v := some (.int 1)) (hlocks := hlocks) (fun h => by rw [hr] at h; cases h)
  have hmeth' : T.vm.method? m = some meth := X.method'
  refine ⟨T.setFrames fs, ?_, .returned (some (.int 1)), hrun, hended, rfl, ⟨_, rfl⟩, hW, hframe⟩
  jvm_step X.here [X.here.top, hx, hb, hdg, hmeth', hr, ret, narrow_b1]
  (try refine ⟨rfl, ?_⟩); (try refine ⟨rfl, ?_⟩)
  first | (intro acts; rw [hret _ acts rfl rfl rfl]) | rw [hret _ _ rfl rfl rfl]
  exact Steps.refl _
/-- what holds at the law's entry: the machine, the code, the tables' words (any of lw_tbl by 'hts w (by decide +kernel)'), the script of L ints xs at the cell b, what the Statement gives of the start (any of its parts by flat_of_before) -/
def lw_At (p : Program) (s : State) (m : MethodId) (meth : Method) (c : Code) (b L : Nat) (xs : Nat → Int32) : Prop :=
  p.tables.exec = Jvm.exec ∧ c.code = code ∧ meth.sig.returnType = ret ∧ c.maxLocals = 4 ∧ s.vm.findClass R_law = some m.cls ∧ (∀ w ∈ lw_tbl, w.before #[Value.ref b] s = true) ∧ va_X b L xs s s.heap ∧ b < s.heap.size ∧ meth.locks = false ∧ (Jvm.Cond.and given_1 narrow_1).before #[Value.ref b] s = true
theorem kz_slen {p : Program} {l : Launch} {e : Env} {R : Room} {s : State} {m : MethodId} {args : Array Value} {below : List Frame} {meth : Method} {c : Code} {H H0 : Heap} {locs : List Loc} {cells slots : Nat} {Q : State → Prop} {cc : ByteArray} {pc : Nat} {ls : Array Slot} {rest : List Value} {A : Nat → Prop} {b L : Nat} {xs : Nat → Int32} (hexec : p.tables.exec = Jvm.exec) (hb : c.code = cc) (hX : va_X b L xs s H0) (hbl : b < H0.size) (hbA : ¬ A b) (hS : va_S A H0 H locs) (hdg : decode cc pc = .ok (.arraylength, 1))
    (kk : W p l e R s m args below meth c H locs cells slots Q (F0 m (pc + 1) ls (.int (zI (L : Int)) :: rest))) : W p l e R s m args below meth c H locs cells slots Q (F0 m pc ls (.ref b :: rest)) := by
  refine va_slen hexec hb hX hbl hbA hS hdg ?_
  rw [zI_nat] at kk
  exact kk
theorem z_arr {s : State} {args : Array Value} (h : (Cond.arrayClass .int).before args s = true) : ∃ dA : ClassId, ArrOfT s dA .int ∧ va_RA s dA .int := by
  obtain ⟨cA, kA, comp, h1, h2, h3⟩ := Cond.arrayClass_spec h
  exact ⟨cA, fun n z => ⟨fun k h => (by cases h), kA, h2, comp, h3⟩, h1⟩
set_option maxHeartbeats 4000000 in
set_option maxRecDepth 100000 in
/-- YOUR PART: from the entry, for every script of at most 288 ints, the law comes to its end with true ('hflags': the launch's flags, for a law that throws: no stack traces) -/
theorem whole_start {p : Program} {e : Env} {s : State} {m : MethodId} {below : List Frame} {meth : Method} {c : Code} (l : Launch) (hflags : l.flags = flags0) {b L : Nat} {xs : Nat → Int32} (hL : L ≤ 288) (C0 : lw_At p s m meth c b L xs) : W p l e room_1 s m #[Value.ref b] below meth c s.heap [] 0 0 (lw_Z below #[Value.ref b] s) (entryFrame m ([Value.ref b] : List Value).toArray 4) := by
  obtain ⟨hx, hb, hr, hml, hown, hts0, hX, hbl, hlocks, hgv⟩ := id C0
  have hts : ∀ w ∈ lw_all, w.before #[Value.ref b] s = true := fun w h => hts0 w (lw_all_tbl h)
  obtain ⟨A, hAd⟩ : ∃ z : Nat → Prop, z = fun q => s.heap.size ≤ q := ⟨_, rfl⟩
  have hA : ∀ q : Nat, s.heap.size ≤ q → A q := fun q h => by rw [hAd]; exact h
  have hA2 : ∀ q : Nat, A q → s.heap.size ≤ q := fun q h => by rw [hAd] at h; exact h
  have hbA : ¬ A b := fun h => absurd (hA2 b h) (Nat.not_le.mpr hbl)
  obtain ⟨c0, iS0, hKn0⟩ := u_known (C := RX0) (T := TX0) (N := 3) (n := 3) hts in_X0 (hts _ q13)
  obtain ⟨c1, iS1, hKn1⟩ := u_known (C := RX1) (T := TX1) (N := 3) (n := 3) hts in_X1 (hts _ q115)
  obtain ⟨dA, hdA⟩ := z_arr (hts _ q34)
  obtain ⟨dC, dI, hKc⟩ : ∃ (dC : Nat → ClassId) (dI : Nat → Nat → Nat), ∀ (k : Nat) (q : vw_C), vwCl[k]? = some q → u_Kn s q.1 q.2.1 q.2.2 (dC k) (dI k) := by
    refine ⟨fun k => if k = 0 then c0 else c1, fun k => if k = 0 then iS0 else iS1, ?_⟩
    intro k q hq
    match k, hq with
    | 0, hq => cases hq; exact hKn0
    | 1, hq => cases hq; exact hKn1
    | k + 2, hq => simp [vwCl] at hq
  have hS : va_S A s.heap s.heap [] := va_S.rf
  have hK : va_K (dC, dI) vwCl [(dA, .int)] s := ⟨hKc, fun k q h => by
    match k, h with
    | 0, h => cases h; exact hdA
    | k + 1, h => simp at h⟩
  have hP : va_P (dC, dI) vwCl [] s.heap := fun k q h => by simp at h
  have hD : va_D A [] := ⟨fun i j p q h => by simp at h, fun k q h => by simp at h⟩
  have hl := lv_entry ([.ref b]) (n := 4) (Nat.le_of_ble_eq_true rfl)
  rw [lg_entry_eq]
  generalize (lg_sl ([.ref b]) ++ List.replicate (4 - (lg_sl ([.ref b])).length) Slot.unset).toArray = ls at hl ⊢
  have hl : lv_has ls 4 [(0, .ref b)] := hl
  refine va_new (ci := 0) (fs := [.null, .null, .null]) (C := RX0) (T := TX0) (N := 3) hx hb hts in_X0 tyX0 tyX0_ok hown (hts _ q12) (hts _ q13) (hts _ q5) hK hP hD hS hA rfl (fun j hj => by rcases (show j = 0 ∨ j = 1 ∨ j = 2 by omega) with rfl | rfl | rfl <;> rfl) (Nat.le_of_ble_eq_true rfl) (Nat.le_of_ble_eq_true rfl) dL_law_0 (fun ox H hP hD hS => ?_)
  have hP : va_P (dC, dI) vwCl [(ox, .inr (0, [.null, .null, .null]))] H := hP
  have hD : va_D A [(ox, .inr (0, [.null, .null, .null]))] := hD
  refine lv_dup hx hb dL_law_3 rfl ?_
  refine zcallIv (As := []) (rest := [.ref ox]) (wr := []) ⟨hx, hb, hml, hown, hts⟩ [0] [] (met0_init l dC dI dA H ox) (cwI 0 hts (lw_meth q16) rfl rfl rfl (hts _ q5) (hts _ q14) (hts _ q15) rfl (by decide +kernel) ⟨Nat.le_of_ble_eq_true rfl, Nat.le_of_ble_eq_true rfl⟩) hK hP hD hS hA rfl rfl (by decide) (by decide) (by decide) rfl rfl hl.1 (Nat.le_of_ble_eq_true rfl) dL_law_4 ⟨Nat.le_of_ble_eq_true rfl, Nat.le_of_ble_eq_true rfl⟩ (fun u H locs hw hP hD hS => ?_)
  obtain ⟨⟨x1, x2, x3⟩, rx⟩ := u
  have hwx : ∀ j, j < 48 → rx j = zI (j : Int) := hw
  have hP : va_P (dC, dI) vwCl [(ox, .inr (0, [.ref x1, .ref x2, .ref x3])), (x1, .inl (dA, 48, .inl (fun _ => 0))), (x2, .inl (dA, 48, .inl (fun _ => 0))), (x3, .inl (dA, 48, .inl (rx)))] H := hP
  have hD : va_D A [(ox, .inr (0, [.ref x1, .ref x2, .ref x3])), (x1, .inl (dA, 48, .inl (fun _ => 0))), (x2, .inl (dA, 48, .inl (fun _ => 0))), (x3, .inl (dA, 48, .inl (rx)))] := hD
  refine lv_astore_n (lv' := [(1, .ref ox), (0, .ref b)]) hx hb dL_law_7 rfl hl (by decide) rfl (fun ls hl => ?_)
  refine va_new (ci := 1) (fs := [.null, .null, .null]) (C := RX1) (T := TX1) (N := 3) hx hb hts in_X1 tyX1 tyX1_ok hown (hts _ q114) (hts _ q115) (hts _ q6) hK hP hD hS hA rfl (fun j hj => by rcases (show j = 0 ∨ j = 1 ∨ j = 2 by omega) with rfl | rfl | rfl <;> rfl) (Nat.le_of_ble_eq_true rfl) (Nat.le_of_ble_eq_true rfl) dL_law_8 (fun om H hP hD hS => ?_)
  have hP : va_P (dC, dI) vwCl [(ox, .inr (0, [.ref x1, .ref x2, .ref x3])), (x1, .inl (dA, 48, .inl (fun _ => 0))), (x2, .inl (dA, 48, .inl (fun _ => 0))), (x3, .inl (dA, 48, .inl (rx))), (om, .inr (1, [.null, .null, .null]))] H := hP
  have hD : va_D A [(ox, .inr (0, [.ref x1, .ref x2, .ref x3])), (x1, .inl (dA, 48, .inl (fun _ => 0))), (x2, .inl (dA, 48, .inl (fun _ => 0))), (x3, .inl (dA, 48, .inl (rx))), (om, .inr (1, [.null, .null, .null]))] := hD
  refine lv_dup hx hb dL_law_11 rfl ?_
  refine zcallIv (As := []) (rest := [.ref om]) (wr := [(ox, .inr (0, [.ref x1, .ref x2, .ref x3])), (x1, .inl (dA, 48, .inl (fun _ => 0))), (x2, .inl (dA, 48, .inl (fun _ => 0))), (x3, .inl (dA, 48, .inl (rx)))]) ⟨hx, hb, hml, hown, hts⟩ [4] [0, 1, 2, 3] (met1_init l dC dI dA H om) (cwI 0 hts (lw_meth q118) rfl rfl rfl (hts _ q6) (hts _ q116) (hts _ q117) rfl (by decide +kernel) ⟨Nat.le_of_ble_eq_true rfl, Nat.le_of_ble_eq_true rfl⟩) hK hP hD hS hA rfl rfl (by decide) (by decide) (by decide) rfl rfl hl.1 (Nat.le_of_ble_eq_true rfl) dL_law_12 ⟨Nat.le_of_ble_eq_true rfl, Nat.le_of_ble_eq_true rfl⟩ (fun u H locs hw hP hD hS => ?_)
  obtain ⟨⟨m1, m2, m3⟩, rm⟩ := u
  have hwm : ∀ j, j < 48 → rm j = zI (j : Int) := hw
  have hP : va_P (dC, dI) vwCl [(ox, .inr (0, [.ref x1, .ref x2, .ref x3])), (x1, .inl (dA, 48, .inl (fun _ => 0))), (x2, .inl (dA, 48, .inl (fun _ => 0))), (x3, .inl (dA, 48, .inl (rx))), (om, .inr (1, [.ref m1, .ref m2, .ref m3])), (m1, .inl (dA, 48, .inl (fun _ => 0))), (m2, .inl (dA, 48, .inl (fun _ => 0))), (m3, .inl (dA, 48, .inl (rm)))] H := hP
  have hD : va_D A [(ox, .inr (0, [.ref x1, .ref x2, .ref x3])), (x1, .inl (dA, 48, .inl (fun _ => 0))), (x2, .inl (dA, 48, .inl (fun _ => 0))), (x3, .inl (dA, 48, .inl (rx))), (om, .inr (1, [.ref m1, .ref m2, .ref m3])), (m1, .inl (dA, 48, .inl (fun _ => 0))), (m2, .inl (dA, 48, .inl (fun _ => 0))), (m3, .inl (dA, 48, .inl (rm)))] := hD
  have hP := zP_cong (k := 7) (g := rx) hP rfl (fun j hj => by rw [hwm j hj, hwx j hj])
  have hD := va_D.set (p := 7) (e := .inl (dA, 48, .inl (rx))) hD rfl
  have hP : va_P (dC, dI) vwCl [(ox, .inr (0, [.ref x1, .ref x2, .ref x3])), (x1, .inl (dA, 48, .inl (fun _ => 0))), (x2, .inl (dA, 48, .inl (fun _ => 0))), (x3, .inl (dA, 48, .inl (rx))), (om, .inr (1, [.ref m1, .ref m2, .ref m3])), (m1, .inl (dA, 48, .inl (fun _ => 0))), (m2, .inl (dA, 48, .inl (fun _ => 0))), (m3, .inl (dA, 48, .inl (rx)))] H := hP
  have hD : va_D A [(ox, .inr (0, [.ref x1, .ref x2, .ref x3])), (x1, .inl (dA, 48, .inl (fun _ => 0))), (x2, .inl (dA, 48, .inl (fun _ => 0))), (x3, .inl (dA, 48, .inl (rx))), (om, .inr (1, [.ref m1, .ref m2, .ref m3])), (m1, .inl (dA, 48, .inl (fun _ => 0))), (m2, .inl (dA, 48, .inl (fun _ => 0))), (m3, .inl (dA, 48, .inl (rx)))] := hD
  refine lv_astore_n (lv' := [(2, .ref om), (1, .ref ox), (0, .ref b)]) hx hb dL_law_15 rfl hl (by decide) rfl (fun ls hl => ?_)
  refine lv_iconst (v := zI (0)) hx hb dL_law_16 rfl ?_
  refine lv_istore_n (lv' := [(3, .int (zI (0))), (2, .ref om), (1, .ref ox), (0, .ref b)]) hx hb dL_law_17 rfl hl (by decide) rfl (fun ls hl => ?_)
  have loop : ∀ (k t : Nat) (x1 x2 x3 m1 m2 m3 : Nat) (f g r : Nat → Int32) (H : Heap) (locs : List Loc) (ls : Array Slot), 48 < t + k → 6 * t ≤ L → va_P (dC, dI) vwCl [(ox, .inr (0, [.ref x1, .ref x2, .ref x3])), (x1, .inl (dA, 48, .inl (f))), (x2, .inl (dA, 48, .inl (g))), (x3, .inl (dA, 48, .inl (r))), (om, .inr (1, [.ref m1, .ref m2, .ref m3])), (m1, .inl (dA, 48, .inl (f))), (m2, .inl (dA, 48, .inl (g))), (m3, .inl (dA, 48, .inl (r)))] H → va_D A [(ox, .inr (0, [.ref x1, .ref x2, .ref x3])), (x1, .inl (dA, 48, .inl (f))), (x2, .inl (dA, 48, .inl (g))), (x3, .inl (dA, 48, .inl (r))), (om, .inr (1, [.ref m1, .ref m2, .ref m3])), (m1, .inl (dA, 48, .inl (f))), (m2, .inl (dA, 48, .inl (g))), (m3, .inl (dA, 48, .inl (r)))] → va_S A s.heap H locs → lv_has ls 4 [(0, .ref b), (1, .ref ox), (2, .ref om), (3, .int (zI (((6 * t : Nat) : Int))))] → W p l e room_1 s m #[Value.ref b] below meth c H locs (8 + 2 * t) (294 + 96 * t) (lw_Z below #[Value.ref b] s) (F0 m 18 ls []) := by
    intro k
    induction k with
    | zero =>
      intro t x1 x2 x3 m1 m2 m3 f g r H locs ls h1 h2
      omega
    | succ k ih =>
      intro t x1 x2 x3 m1 m2 m3 f g r H locs ls h1 h2 hP hD hS hl
      have ht48 : t ≤ 48 := by omega
      have EN : 6 * (t + 1) ≤ L → ∀ (x1 x2 x3 m1 m2 m3 : Nat) (f g r : Nat → Int32) (H : Heap) (locs : List Loc) (ls : Array Slot), va_P (dC, dI) vwCl [(ox, .inr (0, [.ref x1, .ref x2, .ref x3])), (x1, .inl (dA, 48, .inl (f))), (x2, .inl (dA, 48, .inl (g))), (x3, .inl (dA, 48, .inl (r))), (om, .inr (1, [.ref m1, .ref m2, .ref m3])), (m1, .inl (dA, 48, .inl (f))), (m2, .inl (dA, 48, .inl (g))), (m3, .inl (dA, 48, .inl (r)))] H → va_D A [(ox, .inr (0, [.ref x1, .ref x2, .ref x3])), (x1, .inl (dA, 48, .inl (f))), (x2, .inl (dA, 48, .inl (g))), (x3, .inl (dA, 48, .inl (r))), (om, .inr (1, [.ref m1, .ref m2, .ref m3])), (m1, .inl (dA, 48, .inl (f))), (m2, .inl (dA, 48, .inl (g))), (m3, .inl (dA, 48, .inl (r)))] → va_S A s.heap H locs → lv_has ls 4 [(0, .ref b), (1, .ref ox), (2, .ref om), (3, .int (zI (((6 * t : Nat) : Int))))] → W p l e room_1 s m #[Value.ref b] below meth c H locs (8 + 2 * (t + 1)) (294 + 96 * (t + 1)) (lw_Z below #[Value.ref b] s) (F0 m 339 ls []) := by
        intro h6 x1 x2 x3 m1 m2 m3 f g r H locs ls hP hD hS hl
        refine kz_iinc (E := ((6 * (t + 1) : Nat) : Int)) (lv' := [(3, .int (zI (((6 * (t + 1) : Nat) : Int)))), (0, .ref b), (1, .ref ox), (2, .ref om)]) hx hb dL_law_339 hl (k := 3) rfl (by omega) (by decide) rfl (fun ls hl => ?_)
        refine lv_goto (tgt := 18) hx hb dL_law_342 (by decide) ?_
        exact ih (t + 1) x1 x2 x3 m1 m2 m3 f g r H locs ls (by omega) h6 hP hD hS (lv_sub hl [1, 2, 3, 0] rfl)
      refine lv_iload_n hx hb dL_law_18 rfl (lv_at hl 3 rfl) ?_
      refine lv_aload_n hx hb dL_law_19 rfl (lv_at hl 0 rfl) ?_
      refine kz_slen hx hb hX hbl hbA hS dL_law_20 ?_
      refine lv_bipush (v := zI (6)) hx hb dL_law_21 (by decide +kernel) ?_
      refine kz_isub (E := (L : Int) - 6) hx hb dL_law_23 (by omega) ?_
      refine kz_icmp_gt (tgt := 345) hx hb dL_law_24 (by decide) (by omega) (fun c1 => ?_) (fun c1 => ?_)
      · skip
        refine lv_iconst (v := 1) hx hb dL_law_345 rfl ?_
        refine va_forget (fun q hq => hA2 _ (hS.2.2 q hq)) ?_
        refine W.widen (k := 1200000) (n := 5502250) (by omega) (by omega) ?_
        exact lw_ret hx hb hr hlocks dL_law_346
      · skip
        have h6 : 6 * (t + 1) ≤ L := by omega
        refine lv_aload_n hx hb dL_law_27 rfl (lv_at hl 0 rfl) ?_
        refine lv_iload_n hx hb dL_law_28 rfl (lv_at hl 3 rfl) ?_
        refine kz_sld (k := 6 * t) hx hb hX hbl hbA hS (by omega) (by omega) (by omega) dL_law_29 ?_
        refine lv_bipush (v := zI (15)) hx hb dL_law_30 (by decide +kernel) ?_
        refine lv_iand hx hb dL_law_32 ?_
        obtain ⟨sel, hs16, hse⟩ : ∃ z : Nat, z < 16 ∧ xs (6 * t) &&& zI (15) = zI (z : Int) := ⟨(xs (6 * t)).toBitVec.toNat % 2 ^ 4, Nat.mod_lt _ (by decide), by rw [zI_nat]; exact pk_and _ 4 (by decide +kernel)⟩
        rw [hse]
        clear hse
        rcases (show sel = 0 ∨ sel = 1 ∨ sel = 2 ∨ sel = 3 ∨ sel = 4 ∨ sel = 5 ∨ sel = 6 ∨ sel = 7 ∨ sel = 8 ∨ 9 ≤ sel by omega) with rfl | rfl | rfl | rfl | rfl | rfl | rfl | rfl | rfl | h9
        · skip
          refine lv_tableIn (off := 51) (tgt := 84) hx hb dL_law_33 (by decide +kernel) (by decide +kernel) (by decide +kernel) (by decide) ?_
          refine lv_aload_n hx hb dL_law_84 rfl (lv_at hl 1 rfl) ?_
          refine zcallVv (q := (RX0, TX0, 3)) (ci := 0) (As := []) (rest := []) (wr := [(om, .inr (1, [.ref m1, .ref m2, .ref m3])), (m1, .inl (dA, 48, .inl (f))), (m2, .inl (dA, 48, .inl (g))), (m3, .inl (dA, 48, .inl (r)))]) ⟨hx, hb, hml, hown, hts⟩ [0, 1, 2, 3] [4, 5, 6, 7] (met0_anew l dC dI dA H ox x1 x2 x3 f g r) (cwV 0 hts (lw_V q35 q21 q22 q5 q23) rfl rfl rfl (by decide +kernel) ⟨Nat.le_of_ble_eq_true rfl, Nat.le_of_ble_eq_true rfl⟩) hK hP hD hS hA rfl rfl (by decide) (by decide) (by decide) rfl rfl rfl rfl hl.1 (Nat.le_of_ble_eq_true rfl) dL_law_85 ⟨(by show _ ≤ 1200000; omega), (by show _ ≤ 5502250; omega)⟩ (fun u H locs hw hP hD hS => ?_)
          have hP : va_P (dC, dI) vwCl [(om, .inr (1, [.ref m1, .ref m2, .ref m3])), (m1, .inl (dA, 48, .inl (f))), (m2, .inl (dA, 48, .inl (g))), (m3, .inl (dA, 48, .inl (r))), (ox, .inr (0, [.ref x1, .ref x2, .ref x3])), (x1, .inl (dA, 48, .inl (f))), (x2, .inl (dA, 48, .inl (g))), (x3, .inl (dA, 48, .inl (u)))] H := hP
          have hD : va_D A [(om, .inr (1, [.ref m1, .ref m2, .ref m3])), (m1, .inl (dA, 48, .inl (f))), (m2, .inl (dA, 48, .inl (g))), (m3, .inl (dA, 48, .inl (r))), (ox, .inr (0, [.ref x1, .ref x2, .ref x3])), (x1, .inl (dA, 48, .inl (f))), (x2, .inl (dA, 48, .inl (g))), (x3, .inl (dA, 48, .inl (u)))] := hD
          have hP := hP.sub (ws' := [(ox, .inr (0, [.ref x1, .ref x2, .ref x3])), (x1, .inl (dA, 48, .inl (f))), (x2, .inl (dA, 48, .inl (g))), (x3, .inl (dA, 48, .inl (u))), (om, .inr (1, [.ref m1, .ref m2, .ref m3])), (m1, .inl (dA, 48, .inl (f))), (m2, .inl (dA, 48, .inl (g))), (m3, .inl (dA, 48, .inl (r)))]) [4, 5, 6, 7, 0, 1, 2, 3] rfl
          have hD := hD.sub (ws' := [(ox, .inr (0, [.ref x1, .ref x2, .ref x3])), (x1, .inl (dA, 48, .inl (f))), (x2, .inl (dA, 48, .inl (g))), (x3, .inl (dA, 48, .inl (u))), (om, .inr (1, [.ref m1, .ref m2, .ref m3])), (m1, .inl (dA, 48, .inl (f))), (m2, .inl (dA, 48, .inl (g))), (m3, .inl (dA, 48, .inl (r)))]) [4, 5, 6, 7, 0, 1, 2, 3] (by decide) rfl
          refine lv_aload_n hx hb dL_law_88 rfl (lv_at hl 2 rfl) ?_
          refine zcallVv (q := (RX1, TX1, 3)) (ci := 1) (As := []) (rest := []) (wr := [(ox, .inr (0, [.ref x1, .ref x2, .ref x3])), (x1, .inl (dA, 48, .inl (f))), (x2, .inl (dA, 48, .inl (g))), (x3, .inl (dA, 48, .inl (u)))]) ⟨hx, hb, hml, hown, hts⟩ [4, 5, 6, 7] [0, 1, 2, 3] (met1_anew l dC dI dA H om m1 m2 m3 f g r) (cwV 0 hts (lw_V q134 q121 q122 q6 q123) rfl rfl rfl (by decide +kernel) ⟨Nat.le_of_ble_eq_true rfl, Nat.le_of_ble_eq_true rfl⟩) hK hP hD hS hA rfl rfl (by decide) (by decide) (by decide) rfl rfl rfl rfl hl.1 (Nat.le_of_ble_eq_true rfl) dL_law_89 ⟨(by show _ ≤ 1200000; omega), (by show _ ≤ 5502250; omega)⟩ (fun v H locs hw2 hP hD hS => ?_)
          have hP : va_P (dC, dI) vwCl [(ox, .inr (0, [.ref x1, .ref x2, .ref x3])), (x1, .inl (dA, 48, .inl (f))), (x2, .inl (dA, 48, .inl (g))), (x3, .inl (dA, 48, .inl (u))), (om, .inr (1, [.ref m1, .ref m2, .ref m3])), (m1, .inl (dA, 48, .inl (f))), (m2, .inl (dA, 48, .inl (g))), (m3, .inl (dA, 48, .inl (v)))] H := hP
          have hD : va_D A [(ox, .inr (0, [.ref x1, .ref x2, .ref x3])), (x1, .inl (dA, 48, .inl (f))), (x2, .inl (dA, 48, .inl (g))), (x3, .inl (dA, 48, .inl (u))), (om, .inr (1, [.ref m1, .ref m2, .ref m3])), (m1, .inl (dA, 48, .inl (f))), (m2, .inl (dA, 48, .inl (g))), (m3, .inl (dA, 48, .inl (v)))] := hD
          have hP := hP.sub (ws' := [(ox, .inr (0, [.ref x1, .ref x2, .ref x3])), (x1, .inl (dA, 48, .inl (f))), (x2, .inl (dA, 48, .inl (g))), (x3, .inl (dA, 48, .inl (u))), (om, .inr (1, [.ref m1, .ref m2, .ref m3])), (m1, .inl (dA, 48, .inl (f))), (m2, .inl (dA, 48, .inl (g))), (m3, .inl (dA, 48, .inl (v)))]) [0, 1, 2, 3, 4, 5, 6, 7] rfl
          have hD := hD.sub (ws' := [(ox, .inr (0, [.ref x1, .ref x2, .ref x3])), (x1, .inl (dA, 48, .inl (f))), (x2, .inl (dA, 48, .inl (g))), (x3, .inl (dA, 48, .inl (u))), (om, .inr (1, [.ref m1, .ref m2, .ref m3])), (m1, .inl (dA, 48, .inl (f))), (m2, .inl (dA, 48, .inl (g))), (m3, .inl (dA, 48, .inl (v)))]) [0, 1, 2, 3, 4, 5, 6, 7] (by decide) rfl
          have hP := zP_cong (k := 7) (g := u) hP rfl (fun j hj => by rw [hw2 j hj, hw j hj])
          have hD := va_D.set (p := 7) (e := .inl (dA, 48, .inl (u))) hD rfl
          have hP : va_P (dC, dI) vwCl [(ox, .inr (0, [.ref x1, .ref x2, .ref x3])), (x1, .inl (dA, 48, .inl (f))), (x2, .inl (dA, 48, .inl (g))), (x3, .inl (dA, 48, .inl (u))), (om, .inr (1, [.ref m1, .ref m2, .ref m3])), (m1, .inl (dA, 48, .inl (f))), (m2, .inl (dA, 48, .inl (g))), (m3, .inl (dA, 48, .inl (u)))] H := hP
          have hD : va_D A [(ox, .inr (0, [.ref x1, .ref x2, .ref x3])), (x1, .inl (dA, 48, .inl (f))), (x2, .inl (dA, 48, .inl (g))), (x3, .inl (dA, 48, .inl (u))), (om, .inr (1, [.ref m1, .ref m2, .ref m3])), (m1, .inl (dA, 48, .inl (f))), (m2, .inl (dA, 48, .inl (g))), (m3, .inl (dA, 48, .inl (u)))] := hD
          refine lv_goto (tgt := 339) hx hb dL_law_92 (by decide) ?_
          refine W.widen (k := 8 + 2 * (t + 1)) (n := 294 + 96 * (t + 1)) (by omega) (by omega) ?_
          exact EN h6 x1 x2 x3 m1 m2 m3 f g u H locs ls hP hD hS (lv_sub hl [0, 1, 2, 3] rfl)
        · skip
          refine lv_tableIn (off := 62) (tgt := 95) hx hb dL_law_33 (by decide +kernel) (by decide +kernel) (by decide +kernel) (by decide) ?_
          refine lv_aload_n hx hb dL_law_95 rfl (lv_at hl 1 rfl) ?_
          refine lv_aload_n hx hb dL_law_96 rfl (lv_at hl 0 rfl) ?_
          refine lv_iload_n hx hb dL_law_97 rfl (lv_at hl 3 rfl) ?_
          refine lv_iconst (v := zI (1)) hx hb dL_law_98 rfl ?_
          refine kz_iadd (E := ((6 * t + 1 : Nat) : Int)) hx hb dL_law_99 (by omega) ?_
          refine kz_sld (k := 6 * t + 1) hx hb hX hbl hbA hS (by omega) (by omega) (by omega) dL_law_100 ?_
          refine lv_aload_n hx hb dL_law_101 rfl (lv_at hl 0 rfl) ?_
          refine lv_iload_n hx hb dL_law_102 rfl (lv_at hl 3 rfl) ?_
          refine lv_iconst (v := zI (2)) hx hb dL_law_103 rfl ?_
          refine kz_iadd (E := ((6 * t + 2 : Nat) : Int)) hx hb dL_law_104 (by omega) ?_
          refine kz_sld (k := 6 * t + 2) hx hb hX hbl hbA hS (by omega) (by omega) (by omega) dL_law_105 ?_
          refine lv_aload_n hx hb dL_law_106 rfl (lv_at hl 0 rfl) ?_
          refine lv_iload_n hx hb dL_law_107 rfl (lv_at hl 3 rfl) ?_
          refine lv_iconst (v := zI (3)) hx hb dL_law_108 rfl ?_
          refine kz_iadd (E := ((6 * t + 3 : Nat) : Int)) hx hb dL_law_109 (by omega) ?_
          refine kz_sld (k := 6 * t + 3) hx hb hX hbl hbA hS (by omega) (by omega) (by omega) dL_law_110 ?_
          refine zcallVv (q := (RX0, TX0, 3)) (ci := 0) (As := [.int (xs (6 * t + 1)), .int (xs (6 * t + 2)), .int (xs (6 * t + 3))]) (rest := []) (wr := [(om, .inr (1, [.ref m1, .ref m2, .ref m3])), (m1, .inl (dA, 48, .inl (f))), (m2, .inl (dA, 48, .inl (g))), (m3, .inl (dA, 48, .inl (r)))]) ⟨hx, hb, hml, hown, hts⟩ [0, 1, 2, 3] [4, 5, 6, 7] (met0_set l dC dI dA H ox x1 x2 x3 f g r (xs (6 * t + 1)) (xs (6 * t + 2)) (xs (6 * t + 3))) (cwV 3 hts (lw_V q36 q37 q38 q5 q39) rfl rfl rfl (by decide +kernel) ⟨Nat.le_of_ble_eq_true rfl, Nat.le_of_ble_eq_true rfl⟩) hK hP hD hS hA rfl rfl (by decide) (by decide) (by decide) rfl rfl rfl rfl hl.1 (Nat.le_of_ble_eq_true rfl) dL_law_111 ⟨(by show _ ≤ 1200000; omega), (by show _ ≤ 5502250; omega)⟩ (fun u H locs hw hP hD hS => ?_)
          have hP : va_P (dC, dI) vwCl [(om, .inr (1, [.ref m1, .ref m2, .ref m3])), (m1, .inl (dA, 48, .inl (f))), (m2, .inl (dA, 48, .inl (g))), (m3, .inl (dA, 48, .inl (r))), (ox, .inr (0, [.ref x1, .ref x2, .ref x3])), (x1, .inl (dA, 48, .inl (upd f (zw (xs (6 * t + 1)) % 48) (xs (6 * t + 2))))), (x2, .inl (dA, 48, .inl (upd g (zw (xs (6 * t + 1)) % 48) (xs (6 * t + 3))))), (x3, .inl (dA, 48, .inl (r)))] H := hP
          have hD : va_D A [(om, .inr (1, [.ref m1, .ref m2, .ref m3])), (m1, .inl (dA, 48, .inl (f))), (m2, .inl (dA, 48, .inl (g))), (m3, .inl (dA, 48, .inl (r))), (ox, .inr (0, [.ref x1, .ref x2, .ref x3])), (x1, .inl (dA, 48, .inl (upd f (zw (xs (6 * t + 1)) % 48) (xs (6 * t + 2))))), (x2, .inl (dA, 48, .inl (upd g (zw (xs (6 * t + 1)) % 48) (xs (6 * t + 3))))), (x3, .inl (dA, 48, .inl (r)))] := hD
          have hP := hP.sub (ws' := [(ox, .inr (0, [.ref x1, .ref x2, .ref x3])), (x1, .inl (dA, 48, .inl (upd f (zw (xs (6 * t + 1)) % 48) (xs (6 * t + 2))))), (x2, .inl (dA, 48, .inl (upd g (zw (xs (6 * t + 1)) % 48) (xs (6 * t + 3))))), (x3, .inl (dA, 48, .inl (r))), (om, .inr (1, [.ref m1, .ref m2, .ref m3])), (m1, .inl (dA, 48, .inl (f))), (m2, .inl (dA, 48, .inl (g))), (m3, .inl (dA, 48, .inl (r)))]) [4, 5, 6, 7, 0, 1, 2, 3] rfl
          have hD := hD.sub (ws' := [(ox, .inr (0, [.ref x1, .ref x2, .ref x3])), (x1, .inl (dA, 48, .inl (upd f (zw (xs (6 * t + 1)) % 48) (xs (6 * t + 2))))), (x2, .inl (dA, 48, .inl (upd g (zw (xs (6 * t + 1)) % 48) (xs (6 * t + 3))))), (x3, .inl (dA, 48, .inl (r))), (om, .inr (1, [.ref m1, .ref m2, .ref m3])), (m1, .inl (dA, 48, .inl (f))), (m2, .inl (dA, 48, .inl (g))), (m3, .inl (dA, 48, .inl (r)))]) [4, 5, 6, 7, 0, 1, 2, 3] (by decide) rfl
          refine lv_aload_n hx hb dL_law_114 rfl (lv_at hl 2 rfl) ?_
          refine lv_aload_n hx hb dL_law_115 rfl (lv_at hl 0 rfl) ?_
          refine lv_iload_n hx hb dL_law_116 rfl (lv_at hl 3 rfl) ?_
          refine lv_iconst (v := zI (1)) hx hb dL_law_117 rfl ?_
          refine kz_iadd (E := ((6 * t + 1 : Nat) : Int)) hx hb dL_law_118 (by omega) ?_
          refine kz_sld (k := 6 * t + 1) hx hb hX hbl hbA hS (by omega) (by omega) (by omega) dL_law_119 ?_
          refine lv_aload_n hx hb dL_law_120 rfl (lv_at hl 0 rfl) ?_
          refine lv_iload_n hx hb dL_law_121 rfl (lv_at hl 3 rfl) ?_
          refine lv_iconst (v := zI (2)) hx hb dL_law_122 rfl ?_
          refine kz_iadd (E := ((6 * t + 2 : Nat) : Int)) hx hb dL_law_123 (by omega) ?_
          refine kz_sld (k := 6 * t + 2) hx hb hX hbl hbA hS (by omega) (by omega) (by omega) dL_law_124 ?_
          refine lv_aload_n hx hb dL_law_125 rfl (lv_at hl 0 rfl) ?_
          refine lv_iload_n hx hb dL_law_126 rfl (lv_at hl 3 rfl) ?_
          refine lv_iconst (v := zI (3)) hx hb dL_law_127 rfl ?_
          refine kz_iadd (E := ((6 * t + 3 : Nat) : Int)) hx hb dL_law_128 (by omega) ?_
          refine kz_sld (k := 6 * t + 3) hx hb hX hbl hbA hS (by omega) (by omega) (by omega) dL_law_129 ?_
          refine zcallVv (q := (RX1, TX1, 3)) (ci := 1) (As := [.int (xs (6 * t + 1)), .int (xs (6 * t + 2)), .int (xs (6 * t + 3))]) (rest := []) (wr := [(ox, .inr (0, [.ref x1, .ref x2, .ref x3])), (x1, .inl (dA, 48, .inl (upd f (zw (xs (6 * t + 1)) % 48) (xs (6 * t + 2))))), (x2, .inl (dA, 48, .inl (upd g (zw (xs (6 * t + 1)) % 48) (xs (6 * t + 3))))), (x3, .inl (dA, 48, .inl (r)))]) ⟨hx, hb, hml, hown, hts⟩ [4, 5, 6, 7] [0, 1, 2, 3] (met1_set l dC dI dA H om m1 m2 m3 f g r (xs (6 * t + 1)) (xs (6 * t + 2)) (xs (6 * t + 3))) (cwV 3 hts (lw_V q135 q136 q137 q6 q138) rfl rfl rfl (by decide +kernel) ⟨Nat.le_of_ble_eq_true rfl, Nat.le_of_ble_eq_true rfl⟩) hK hP hD hS hA rfl rfl (by decide) (by decide) (by decide) rfl rfl rfl rfl hl.1 (Nat.le_of_ble_eq_true rfl) dL_law_130 ⟨(by show _ ≤ 1200000; omega), (by show _ ≤ 5502250; omega)⟩ (fun v H locs hw2 hP hD hS => ?_)
          have hP : va_P (dC, dI) vwCl [(ox, .inr (0, [.ref x1, .ref x2, .ref x3])), (x1, .inl (dA, 48, .inl (upd f (zw (xs (6 * t + 1)) % 48) (xs (6 * t + 2))))), (x2, .inl (dA, 48, .inl (upd g (zw (xs (6 * t + 1)) % 48) (xs (6 * t + 3))))), (x3, .inl (dA, 48, .inl (r))), (om, .inr (1, [.ref m1, .ref m2, .ref m3])), (m1, .inl (dA, 48, .inl (upd f (zw (xs (6 * t + 1)) % 48) (xs (6 * t + 2))))), (m2, .inl (dA, 48, .inl (upd g (zw (xs (6 * t + 1)) % 48) (xs (6 * t + 3))))), (m3, .inl (dA, 48, .inl (r)))] H := hP
          have hD : va_D A [(ox, .inr (0, [.ref x1, .ref x2, .ref x3])), (x1, .inl (dA, 48, .inl (upd f (zw (xs (6 * t + 1)) % 48) (xs (6 * t + 2))))), (x2, .inl (dA, 48, .inl (upd g (zw (xs (6 * t + 1)) % 48) (xs (6 * t + 3))))), (x3, .inl (dA, 48, .inl (r))), (om, .inr (1, [.ref m1, .ref m2, .ref m3])), (m1, .inl (dA, 48, .inl (upd f (zw (xs (6 * t + 1)) % 48) (xs (6 * t + 2))))), (m2, .inl (dA, 48, .inl (upd g (zw (xs (6 * t + 1)) % 48) (xs (6 * t + 3))))), (m3, .inl (dA, 48, .inl (r)))] := hD
          have hP := hP.sub (ws' := [(ox, .inr (0, [.ref x1, .ref x2, .ref x3])), (x1, .inl (dA, 48, .inl (upd f (zw (xs (6 * t + 1)) % 48) (xs (6 * t + 2))))), (x2, .inl (dA, 48, .inl (upd g (zw (xs (6 * t + 1)) % 48) (xs (6 * t + 3))))), (x3, .inl (dA, 48, .inl (r))), (om, .inr (1, [.ref m1, .ref m2, .ref m3])), (m1, .inl (dA, 48, .inl (upd f (zw (xs (6 * t + 1)) % 48) (xs (6 * t + 2))))), (m2, .inl (dA, 48, .inl (upd g (zw (xs (6 * t + 1)) % 48) (xs (6 * t + 3))))), (m3, .inl (dA, 48, .inl (r)))]) [0, 1, 2, 3, 4, 5, 6, 7] rfl
          have hD := hD.sub (ws' := [(ox, .inr (0, [.ref x1, .ref x2, .ref x3])), (x1, .inl (dA, 48, .inl (upd f (zw (xs (6 * t + 1)) % 48) (xs (6 * t + 2))))), (x2, .inl (dA, 48, .inl (upd g (zw (xs (6 * t + 1)) % 48) (xs (6 * t + 3))))), (x3, .inl (dA, 48, .inl (r))), (om, .inr (1, [.ref m1, .ref m2, .ref m3])), (m1, .inl (dA, 48, .inl (upd f (zw (xs (6 * t + 1)) % 48) (xs (6 * t + 2))))), (m2, .inl (dA, 48, .inl (upd g (zw (xs (6 * t + 1)) % 48) (xs (6 * t + 3))))), (m3, .inl (dA, 48, .inl (r)))]) [0, 1, 2, 3, 4, 5, 6, 7] (by decide) rfl
          refine lv_goto (tgt := 339) hx hb dL_law_133 (by decide) ?_
          refine W.widen (k := 8 + 2 * (t + 1)) (n := 294 + 96 * (t + 1)) (by omega) (by omega) ?_
          exact EN h6 x1 x2 x3 m1 m2 m3 (upd f (zw (xs (6 * t + 1)) % 48) (xs (6 * t + 2))) (upd g (zw (xs (6 * t + 1)) % 48) (xs (6 * t + 3))) r H locs ls hP hD hS (lv_sub hl [0, 1, 2, 3] rfl)
        · skip
          refine lv_tableIn (off := 103) (tgt := 136) hx hb dL_law_33 (by decide +kernel) (by decide +kernel) (by decide +kernel) (by decide) ?_
          refine lv_aload_n hx hb dL_law_136 rfl (lv_at hl 1 rfl) ?_
          refine lv_aload_n hx hb dL_law_137 rfl (lv_at hl 0 rfl) ?_
          refine lv_iload_n hx hb dL_law_138 rfl (lv_at hl 3 rfl) ?_
          refine lv_iconst (v := zI (1)) hx hb dL_law_139 rfl ?_
          refine kz_iadd (E := ((6 * t + 1 : Nat) : Int)) hx hb dL_law_140 (by omega) ?_
          refine kz_sld (k := 6 * t + 1) hx hb hX hbl hbA hS (by omega) (by omega) (by omega) dL_law_141 ?_
          refine lv_aload_n hx hb dL_law_142 rfl (lv_at hl 0 rfl) ?_
          refine lv_iload_n hx hb dL_law_143 rfl (lv_at hl 3 rfl) ?_
          refine lv_iconst (v := zI (2)) hx hb dL_law_144 rfl ?_
          refine kz_iadd (E := ((6 * t + 2 : Nat) : Int)) hx hb dL_law_145 (by omega) ?_
          refine kz_sld (k := 6 * t + 2) hx hb hX hbl hbA hS (by omega) (by omega) (by omega) dL_law_146 ?_
          refine lv_aload_n hx hb dL_law_147 rfl (lv_at hl 0 rfl) ?_
          refine lv_iload_n hx hb dL_law_148 rfl (lv_at hl 3 rfl) ?_
          refine lv_iconst (v := zI (3)) hx hb dL_law_149 rfl ?_
          refine kz_iadd (E := ((6 * t + 3 : Nat) : Int)) hx hb dL_law_150 (by omega) ?_
          refine kz_sld (k := 6 * t + 3) hx hb hX hbl hbA hS (by omega) (by omega) (by omega) dL_law_151 ?_
          refine zcallVv (q := (RX0, TX0, 3)) (ci := 0) (As := [.int (xs (6 * t + 1)), .int (xs (6 * t + 2)), .int (xs (6 * t + 3))]) (rest := []) (wr := [(om, .inr (1, [.ref m1, .ref m2, .ref m3])), (m1, .inl (dA, 48, .inl (f))), (m2, .inl (dA, 48, .inl (g))), (m3, .inl (dA, 48, .inl (r)))]) ⟨hx, hb, hml, hown, hts⟩ [0, 1, 2, 3] [4, 5, 6, 7] (met0_few l dC dI dA H ox x1 x2 x3 f g r (xs (6 * t + 1)) (xs (6 * t + 2)) (xs (6 * t + 3))) (cwV 3 hts (lw_V q41 q42 q43 q5 q44) rfl rfl rfl (by decide +kernel) ⟨Nat.le_of_ble_eq_true rfl, Nat.le_of_ble_eq_true rfl⟩) hK hP hD hS hA rfl rfl (by decide) (by decide) (by decide) rfl rfl rfl rfl hl.1 (Nat.le_of_ble_eq_true rfl) dL_law_152 ⟨(by show _ ≤ 1200000; omega), (by show _ ≤ 5502250; omega)⟩ (fun u H locs hw hP hD hS => ?_)
          have hP : va_P (dC, dI) vwCl [(om, .inr (1, [.ref m1, .ref m2, .ref m3])), (m1, .inl (dA, 48, .inl (f))), (m2, .inl (dA, 48, .inl (g))), (m3, .inl (dA, 48, .inl (r))), (ox, .inr (0, [.ref x1, .ref x2, .ref x3])), (x1, .inl (dA, 48, .inl (upd f (zw (xs (6 * t + 1)) % 48) ((xs (6 * t + 2)) &&& zI (3))))), (x2, .inl (dA, 48, .inl (upd g (zw (xs (6 * t + 1)) % 48) ((xs (6 * t + 3)) &&& zI (3))))), (x3, .inl (dA, 48, .inl (r)))] H := hP
          have hD : va_D A [(om, .inr (1, [.ref m1, .ref m2, .ref m3])), (m1, .inl (dA, 48, .inl (f))), (m2, .inl (dA, 48, .inl (g))), (m3, .inl (dA, 48, .inl (r))), (ox, .inr (0, [.ref x1, .ref x2, .ref x3])), (x1, .inl (dA, 48, .inl (upd f (zw (xs (6 * t + 1)) % 48) ((xs (6 * t + 2)) &&& zI (3))))), (x2, .inl (dA, 48, .inl (upd g (zw (xs (6 * t + 1)) % 48) ((xs (6 * t + 3)) &&& zI (3))))), (x3, .inl (dA, 48, .inl (r)))] := hD
          have hP := hP.sub (ws' := [(ox, .inr (0, [.ref x1, .ref x2, .ref x3])), (x1, .inl (dA, 48, .inl (upd f (zw (xs (6 * t + 1)) % 48) ((xs (6 * t + 2)) &&& zI (3))))), (x2, .inl (dA, 48, .inl (upd g (zw (xs (6 * t + 1)) % 48) ((xs (6 * t + 3)) &&& zI (3))))), (x3, .inl (dA, 48, .inl (r))), (om, .inr (1, [.ref m1, .ref m2, .ref m3])), (m1, .inl (dA, 48, .inl (f))), (m2, .inl (dA, 48, .inl (g))), (m3, .inl (dA, 48, .inl (r)))]) [4, 5, 6, 7, 0, 1, 2, 3] rfl
          have hD := hD.sub (ws' := [(ox, .inr (0, [.ref x1, .ref x2, .ref x3])), (x1, .inl (dA, 48, .inl (upd f (zw (xs (6 * t + 1)) % 48) ((xs (6 * t + 2)) &&& zI (3))))), (x2, .inl (dA, 48, .inl (upd g (zw (xs (6 * t + 1)) % 48) ((xs (6 * t + 3)) &&& zI (3))))), (x3, .inl (dA, 48, .inl (r))), (om, .inr (1, [.ref m1, .ref m2, .ref m3])), (m1, .inl (dA, 48, .inl (f))), (m2, .inl (dA, 48, .inl (g))), (m3, .inl (dA, 48, .inl (r)))]) [4, 5, 6, 7, 0, 1, 2, 3] (by decide) rfl
          refine lv_aload_n hx hb dL_law_155 rfl (lv_at hl 2 rfl) ?_
          refine lv_aload_n hx hb dL_law_156 rfl (lv_at hl 0 rfl) ?_
          refine lv_iload_n hx hb dL_law_157 rfl (lv_at hl 3 rfl) ?_
          refine lv_iconst (v := zI (1)) hx hb dL_law_158 rfl ?_
          refine kz_iadd (E := ((6 * t + 1 : Nat) : Int)) hx hb dL_law_159 (by omega) ?_
          refine kz_sld (k := 6 * t + 1) hx hb hX hbl hbA hS (by omega) (by omega) (by omega) dL_law_160 ?_
          refine lv_aload_n hx hb dL_law_161 rfl (lv_at hl 0 rfl) ?_
          refine lv_iload_n hx hb dL_law_162 rfl (lv_at hl 3 rfl) ?_
          refine lv_iconst (v := zI (2)) hx hb dL_law_163 rfl ?_
          refine kz_iadd (E := ((6 * t + 2 : Nat) : Int)) hx hb dL_law_164 (by omega) ?_
          refine kz_sld (k := 6 * t + 2) hx hb hX hbl hbA hS (by omega) (by omega) (by omega) dL_law_165 ?_
          refine lv_aload_n hx hb dL_law_166 rfl (lv_at hl 0 rfl) ?_
          refine lv_iload_n hx hb dL_law_167 rfl (lv_at hl 3 rfl) ?_
          refine lv_iconst (v := zI (3)) hx hb dL_law_168 rfl ?_
          refine kz_iadd (E := ((6 * t + 3 : Nat) : Int)) hx hb dL_law_169 (by omega) ?_
          refine kz_sld (k := 6 * t + 3) hx hb hX hbl hbA hS (by omega) (by omega) (by omega) dL_law_170 ?_
          refine zcallVv (q := (RX1, TX1, 3)) (ci := 1) (As := [.int (xs (6 * t + 1)), .int (xs (6 * t + 2)), .int (xs (6 * t + 3))]) (rest := []) (wr := [(ox, .inr (0, [.ref x1, .ref x2, .ref x3])), (x1, .inl (dA, 48, .inl (upd f (zw (xs (6 * t + 1)) % 48) ((xs (6 * t + 2)) &&& zI (3))))), (x2, .inl (dA, 48, .inl (upd g (zw (xs (6 * t + 1)) % 48) ((xs (6 * t + 3)) &&& zI (3))))), (x3, .inl (dA, 48, .inl (r)))]) ⟨hx, hb, hml, hown, hts⟩ [4, 5, 6, 7] [0, 1, 2, 3] (met1_few l dC dI dA H om m1 m2 m3 f g r (xs (6 * t + 1)) (xs (6 * t + 2)) (xs (6 * t + 3))) (cwV 3 hts (lw_V q143 q144 q145 q6 q146) rfl rfl rfl (by decide +kernel) ⟨Nat.le_of_ble_eq_true rfl, Nat.le_of_ble_eq_true rfl⟩) hK hP hD hS hA rfl rfl (by decide) (by decide) (by decide) rfl rfl rfl rfl hl.1 (Nat.le_of_ble_eq_true rfl) dL_law_171 ⟨(by show _ ≤ 1200000; omega), (by show _ ≤ 5502250; omega)⟩ (fun v H locs hw2 hP hD hS => ?_)
          have hP : va_P (dC, dI) vwCl [(ox, .inr (0, [.ref x1, .ref x2, .ref x3])), (x1, .inl (dA, 48, .inl (upd f (zw (xs (6 * t + 1)) % 48) ((xs (6 * t + 2)) &&& zI (3))))), (x2, .inl (dA, 48, .inl (upd g (zw (xs (6 * t + 1)) % 48) ((xs (6 * t + 3)) &&& zI (3))))), (x3, .inl (dA, 48, .inl (r))), (om, .inr (1, [.ref m1, .ref m2, .ref m3])), (m1, .inl (dA, 48, .inl (upd f (zw (xs (6 * t + 1)) % 48) ((xs (6 * t + 2)) &&& zI (3))))), (m2, .inl (dA, 48, .inl (upd g (zw (xs (6 * t + 1)) % 48) ((xs (6 * t + 3)) &&& zI (3))))), (m3, .inl (dA, 48, .inl (r)))] H := hP
          have hD : va_D A [(ox, .inr (0, [.ref x1, .ref x2, .ref x3])), (x1, .inl (dA, 48, .inl (upd f (zw (xs (6 * t + 1)) % 48) ((xs (6 * t + 2)) &&& zI (3))))), (x2, .inl (dA, 48, .inl (upd g (zw (xs (6 * t + 1)) % 48) ((xs (6 * t + 3)) &&& zI (3))))), (x3, .inl (dA, 48, .inl (r))), (om, .inr (1, [.ref m1, .ref m2, .ref m3])), (m1, .inl (dA, 48, .inl (upd f (zw (xs (6 * t + 1)) % 48) ((xs (6 * t + 2)) &&& zI (3))))), (m2, .inl (dA, 48, .inl (upd g (zw (xs (6 * t + 1)) % 48) ((xs (6 * t + 3)) &&& zI (3))))), (m3, .inl (dA, 48, .inl (r)))] := hD
          have hP := hP.sub (ws' := [(ox, .inr (0, [.ref x1, .ref x2, .ref x3])), (x1, .inl (dA, 48, .inl (upd f (zw (xs (6 * t + 1)) % 48) ((xs (6 * t + 2)) &&& zI (3))))), (x2, .inl (dA, 48, .inl (upd g (zw (xs (6 * t + 1)) % 48) ((xs (6 * t + 3)) &&& zI (3))))), (x3, .inl (dA, 48, .inl (r))), (om, .inr (1, [.ref m1, .ref m2, .ref m3])), (m1, .inl (dA, 48, .inl (upd f (zw (xs (6 * t + 1)) % 48) ((xs (6 * t + 2)) &&& zI (3))))), (m2, .inl (dA, 48, .inl (upd g (zw (xs (6 * t + 1)) % 48) ((xs (6 * t + 3)) &&& zI (3))))), (m3, .inl (dA, 48, .inl (r)))]) [0, 1, 2, 3, 4, 5, 6, 7] rfl
          have hD := hD.sub (ws' := [(ox, .inr (0, [.ref x1, .ref x2, .ref x3])), (x1, .inl (dA, 48, .inl (upd f (zw (xs (6 * t + 1)) % 48) ((xs (6 * t + 2)) &&& zI (3))))), (x2, .inl (dA, 48, .inl (upd g (zw (xs (6 * t + 1)) % 48) ((xs (6 * t + 3)) &&& zI (3))))), (x3, .inl (dA, 48, .inl (r))), (om, .inr (1, [.ref m1, .ref m2, .ref m3])), (m1, .inl (dA, 48, .inl (upd f (zw (xs (6 * t + 1)) % 48) ((xs (6 * t + 2)) &&& zI (3))))), (m2, .inl (dA, 48, .inl (upd g (zw (xs (6 * t + 1)) % 48) ((xs (6 * t + 3)) &&& zI (3))))), (m3, .inl (dA, 48, .inl (r)))]) [0, 1, 2, 3, 4, 5, 6, 7] (by decide) rfl
          refine lv_goto (tgt := 339) hx hb dL_law_174 (by decide) ?_
          refine W.widen (k := 8 + 2 * (t + 1)) (n := 294 + 96 * (t + 1)) (by omega) (by omega) ?_
          exact EN h6 x1 x2 x3 m1 m2 m3 (upd f (zw (xs (6 * t + 1)) % 48) ((xs (6 * t + 2)) &&& zI (3))) (upd g (zw (xs (6 * t + 1)) % 48) ((xs (6 * t + 3)) &&& zI (3))) r H locs ls hP hD hS (lv_sub hl [0, 1, 2, 3] rfl)
        · skip
          refine lv_tableIn (off := 144) (tgt := 177) hx hb dL_law_33 (by decide +kernel) (by decide +kernel) (by decide +kernel) (by decide) ?_
          refine lv_aload_n hx hb dL_law_177 rfl (lv_at hl 1 rfl) ?_
          refine lv_aload_n hx hb dL_law_178 rfl (lv_at hl 0 rfl) ?_
          refine lv_iload_n hx hb dL_law_179 rfl (lv_at hl 3 rfl) ?_
          refine lv_iconst (v := zI (1)) hx hb dL_law_180 rfl ?_
          refine kz_iadd (E := ((6 * t + 1 : Nat) : Int)) hx hb dL_law_181 (by omega) ?_
          refine kz_sld (k := 6 * t + 1) hx hb hX hbl hbA hS (by omega) (by omega) (by omega) dL_law_182 ?_
          refine zcallVp (q := (RX0, TX0, 3)) (ci := 0) (As := [.int (xs (6 * t + 1))]) (rest := []) ⟨hx, hb, hml, hown, hts⟩ [0, 1, 2, 3] (met0_first l dC dI dA H ox x1 x2 x3 f g r (xs (6 * t + 1))) (cwV 1 hts (lw_V q45 q46 q47 q5 q48) rfl rfl rfl (by decide +kernel) ⟨Nat.le_of_ble_eq_true rfl, Nat.le_of_ble_eq_true rfl⟩) hK hP hD hS rfl (by decide) rfl rfl rfl rfl hl.1 (Nat.le_of_ble_eq_true rfl) dL_law_183 ⟨(by show _ ≤ 1200000; omega), (by show _ ≤ 5502250; omega)⟩ (fun r1 locs hw hS => ?_)
          obtain rfl : r1 = f (zw (xs (6 * t + 1)) % 48) := hw
          refine lv_aload_n hx hb dL_law_186 rfl (lv_at hl 2 rfl) ?_
          refine lv_aload_n hx hb dL_law_187 rfl (lv_at hl 0 rfl) ?_
          refine lv_iload_n hx hb dL_law_188 rfl (lv_at hl 3 rfl) ?_
          refine lv_iconst (v := zI (1)) hx hb dL_law_189 rfl ?_
          refine kz_iadd (E := ((6 * t + 1 : Nat) : Int)) hx hb dL_law_190 (by omega) ?_
          refine kz_sld (k := 6 * t + 1) hx hb hX hbl hbA hS (by omega) (by omega) (by omega) dL_law_191 ?_
          refine zcallVp (q := (RX1, TX1, 3)) (ci := 1) (As := [.int (xs (6 * t + 1))]) (rest := [.int (f (zw (xs (6 * t + 1)) % 48))]) ⟨hx, hb, hml, hown, hts⟩ [4, 5, 6, 7] (met1_first l dC dI dA H om m1 m2 m3 f g r (xs (6 * t + 1))) (cwV 1 hts (lw_V q148 q149 q150 q6 q151) rfl rfl rfl (by decide +kernel) ⟨Nat.le_of_ble_eq_true rfl, Nat.le_of_ble_eq_true rfl⟩) hK hP hD hS rfl (by decide) rfl rfl rfl rfl hl.1 (Nat.le_of_ble_eq_true rfl) dL_law_192 ⟨(by show _ ≤ 1200000; omega), (by show _ ≤ 5502250; omega)⟩ (fun r2 locs hw2 hS => ?_)
          obtain rfl : r2 = f (zw (xs (6 * t + 1)) % 48) := hw2
          refine lv_icmp_eq (tgt := 339) hx hb dL_law_195 (by decide) (fun c2 => ?_) (fun c2 => ?_)
          · skip
            refine W.widen (k := 8 + 2 * (t + 1)) (n := 294 + 96 * (t + 1)) (by omega) (by omega) ?_
            exact EN h6 x1 x2 x3 m1 m2 m3 f g r H locs ls hP hD hS (lv_sub hl [0, 1, 2, 3] rfl)
          · skip
            exact absurd rfl c2
        · skip
          refine lv_tableIn (off := 167) (tgt := 200) hx hb dL_law_33 (by decide +kernel) (by decide +kernel) (by decide +kernel) (by decide) ?_
          refine lv_aload_n hx hb dL_law_200 rfl (lv_at hl 1 rfl) ?_
          refine lv_aload_n hx hb dL_law_201 rfl (lv_at hl 0 rfl) ?_
          refine lv_iload_n hx hb dL_law_202 rfl (lv_at hl 3 rfl) ?_
          refine lv_iconst (v := zI (1)) hx hb dL_law_203 rfl ?_
          refine kz_iadd (E := ((6 * t + 1 : Nat) : Int)) hx hb dL_law_204 (by omega) ?_
          refine kz_sld (k := 6 * t + 1) hx hb hX hbl hbA hS (by omega) (by omega) (by omega) dL_law_205 ?_
          refine zcallVp (q := (RX0, TX0, 3)) (ci := 0) (As := [.int (xs (6 * t + 1))]) (rest := []) ⟨hx, hb, hml, hown, hts⟩ [0, 1, 2, 3] (met0_second l dC dI dA H ox x1 x2 x3 f g r (xs (6 * t + 1))) (cwV 1 hts (lw_V q49 q50 q51 q5 q52) rfl rfl rfl (by decide +kernel) ⟨Nat.le_of_ble_eq_true rfl, Nat.le_of_ble_eq_true rfl⟩) hK hP hD hS rfl (by decide) rfl rfl rfl rfl hl.1 (Nat.le_of_ble_eq_true rfl) dL_law_206 ⟨(by show _ ≤ 1200000; omega), (by show _ ≤ 5502250; omega)⟩ (fun r1 locs hw hS => ?_)
          obtain rfl : r1 = g (zw (xs (6 * t + 1)) % 48) := hw
          refine lv_aload_n hx hb dL_law_209 rfl (lv_at hl 2 rfl) ?_
          refine lv_aload_n hx hb dL_law_210 rfl (lv_at hl 0 rfl) ?_
          refine lv_iload_n hx hb dL_law_211 rfl (lv_at hl 3 rfl) ?_
          refine lv_iconst (v := zI (1)) hx hb dL_law_212 rfl ?_
          refine kz_iadd (E := ((6 * t + 1 : Nat) : Int)) hx hb dL_law_213 (by omega) ?_
          refine kz_sld (k := 6 * t + 1) hx hb hX hbl hbA hS (by omega) (by omega) (by omega) dL_law_214 ?_
          refine zcallVp (q := (RX1, TX1, 3)) (ci := 1) (As := [.int (xs (6 * t + 1))]) (rest := [.int (g (zw (xs (6 * t + 1)) % 48))]) ⟨hx, hb, hml, hown, hts⟩ [4, 5, 6, 7] (met1_second l dC dI dA H om m1 m2 m3 f g r (xs (6 * t + 1))) (cwV 1 hts (lw_V q152 q153 q154 q6 q155) rfl rfl rfl (by decide +kernel) ⟨Nat.le_of_ble_eq_true rfl, Nat.le_of_ble_eq_true rfl⟩) hK hP hD hS rfl (by decide) rfl rfl rfl rfl hl.1 (Nat.le_of_ble_eq_true rfl) dL_law_215 ⟨(by show _ ≤ 1200000; omega), (by show _ ≤ 5502250; omega)⟩ (fun r2 locs hw2 hS => ?_)
          obtain rfl : r2 = g (zw (xs (6 * t + 1)) % 48) := hw2
          refine lv_icmp_eq (tgt := 339) hx hb dL_law_218 (by decide) (fun c2 => ?_) (fun c2 => ?_)
          · skip
            refine W.widen (k := 8 + 2 * (t + 1)) (n := 294 + 96 * (t + 1)) (by omega) (by omega) ?_
            exact EN h6 x1 x2 x3 m1 m2 m3 f g r H locs ls hP hD hS (lv_sub hl [0, 1, 2, 3] rfl)
          · skip
            exact absurd rfl c2
        · skip
          refine lv_tableIn (off := 190) (tgt := 223) hx hb dL_law_33 (by decide +kernel) (by decide +kernel) (by decide +kernel) (by decide) ?_
          refine lv_aload_n hx hb dL_law_223 rfl (lv_at hl 1 rfl) ?_
          refine lv_aload_n hx hb dL_law_224 rfl (lv_at hl 0 rfl) ?_
          refine lv_iload_n hx hb dL_law_225 rfl (lv_at hl 3 rfl) ?_
          refine lv_iconst (v := zI (1)) hx hb dL_law_226 rfl ?_
          refine kz_iadd (E := ((6 * t + 1 : Nat) : Int)) hx hb dL_law_227 (by omega) ?_
          refine kz_sld (k := 6 * t + 1) hx hb hX hbl hbA hS (by omega) (by omega) (by omega) dL_law_228 ?_
          refine zcallVp (q := (RX0, TX0, 3)) (ci := 0) (As := [.int (xs (6 * t + 1))]) (rest := []) ⟨hx, hb, hml, hown, hts⟩ [0, 1, 2, 3] (met0_place l dC dI dA H ox x1 x2 x3 f g r (xs (6 * t + 1))) (cwV 1 hts (lw_V q53 q54 q55 q5 q56) rfl rfl rfl (by decide +kernel) ⟨Nat.le_of_ble_eq_true rfl, Nat.le_of_ble_eq_true rfl⟩) hK hP hD hS rfl (by decide) rfl rfl rfl rfl hl.1 (Nat.le_of_ble_eq_true rfl) dL_law_229 ⟨(by show _ ≤ 1200000; omega), (by show _ ≤ 5502250; omega)⟩ (fun r1 locs hw hS => ?_)
          obtain rfl : r1 = r (zw (xs (6 * t + 1)) % 48) := hw
          refine lv_aload_n hx hb dL_law_232 rfl (lv_at hl 2 rfl) ?_
          refine lv_aload_n hx hb dL_law_233 rfl (lv_at hl 0 rfl) ?_
          refine lv_iload_n hx hb dL_law_234 rfl (lv_at hl 3 rfl) ?_
          refine lv_iconst (v := zI (1)) hx hb dL_law_235 rfl ?_
          refine kz_iadd (E := ((6 * t + 1 : Nat) : Int)) hx hb dL_law_236 (by omega) ?_
          refine kz_sld (k := 6 * t + 1) hx hb hX hbl hbA hS (by omega) (by omega) (by omega) dL_law_237 ?_
          refine zcallVp (q := (RX1, TX1, 3)) (ci := 1) (As := [.int (xs (6 * t + 1))]) (rest := [.int (r (zw (xs (6 * t + 1)) % 48))]) ⟨hx, hb, hml, hown, hts⟩ [4, 5, 6, 7] (met1_place l dC dI dA H om m1 m2 m3 f g r (xs (6 * t + 1))) (cwV 1 hts (lw_V q156 q157 q158 q6 q159) rfl rfl rfl (by decide +kernel) ⟨Nat.le_of_ble_eq_true rfl, Nat.le_of_ble_eq_true rfl⟩) hK hP hD hS rfl (by decide) rfl rfl rfl rfl hl.1 (Nat.le_of_ble_eq_true rfl) dL_law_238 ⟨(by show _ ≤ 1200000; omega), (by show _ ≤ 5502250; omega)⟩ (fun r2 locs hw2 hS => ?_)
          obtain rfl : r2 = r (zw (xs (6 * t + 1)) % 48) := hw2
          refine lv_icmp_eq (tgt := 339) hx hb dL_law_241 (by decide) (fun c2 => ?_) (fun c2 => ?_)
          · skip
            refine W.widen (k := 8 + 2 * (t + 1)) (n := 294 + 96 * (t + 1)) (by omega) (by omega) ?_
            exact EN h6 x1 x2 x3 m1 m2 m3 f g r H locs ls hP hD hS (lv_sub hl [0, 1, 2, 3] rfl)
          · skip
            exact absurd rfl c2
        · skip
          refine lv_tableIn (off := 213) (tgt := 246) hx hb dL_law_33 (by decide +kernel) (by decide +kernel) (by decide +kernel) (by decide) ?_
          refine lv_aload_n hx hb dL_law_246 rfl (lv_at hl 1 rfl) ?_
          refine lv_aload_n hx hb dL_law_247 rfl (lv_at hl 0 rfl) ?_
          refine lv_iload_n hx hb dL_law_248 rfl (lv_at hl 3 rfl) ?_
          refine lv_iconst (v := zI (1)) hx hb dL_law_249 rfl ?_
          refine kz_iadd (E := ((6 * t + 1 : Nat) : Int)) hx hb dL_law_250 (by omega) ?_
          refine kz_sld (k := 6 * t + 1) hx hb hX hbl hbA hS (by omega) (by omega) (by omega) dL_law_251 ?_
          refine lv_aload_n hx hb dL_law_252 rfl (lv_at hl 0 rfl) ?_
          refine lv_iload_n hx hb dL_law_253 rfl (lv_at hl 3 rfl) ?_
          refine lv_iconst (v := zI (2)) hx hb dL_law_254 rfl ?_
          refine kz_iadd (E := ((6 * t + 2 : Nat) : Int)) hx hb dL_law_255 (by omega) ?_
          refine kz_sld (k := 6 * t + 2) hx hb hX hbl hbA hS (by omega) (by omega) (by omega) dL_law_256 ?_
          refine zcallVv (q := (RX0, TX0, 3)) (ci := 0) (As := [.int (xs (6 * t + 1)), .int (xs (6 * t + 2))]) (rest := []) (wr := [(om, .inr (1, [.ref m1, .ref m2, .ref m3])), (m1, .inl (dA, 48, .inl (f))), (m2, .inl (dA, 48, .inl (g))), (m3, .inl (dA, 48, .inl (r)))]) ⟨hx, hb, hml, hown, hts⟩ [0, 1, 2, 3] [4, 5, 6, 7] (met0_quick l dC dI dA H ox x1 x2 x3 f g r (xs (6 * t + 1)) (xs (6 * t + 2))) (cwV 2 hts (lw_V q57 q58 q59 q5 q60) rfl rfl rfl (by decide +kernel) ⟨Nat.le_of_ble_eq_true rfl, Nat.le_of_ble_eq_true rfl⟩) hK hP hD hS hA rfl rfl (by decide) (by decide) (by decide) rfl rfl rfl rfl hl.1 (Nat.le_of_ble_eq_true rfl) dL_law_257 ⟨(by show _ ≤ 1200000; omega), (by show _ ≤ 5502250; omega)⟩ (fun u H locs hw hP hD hS => ?_)
          have hP : va_P (dC, dI) vwCl [(om, .inr (1, [.ref m1, .ref m2, .ref m3])), (m1, .inl (dA, 48, .inl (f))), (m2, .inl (dA, 48, .inl (g))), (m3, .inl (dA, 48, .inl (r))), (ox, .inr (0, [.ref x1, .ref x2, .ref x3])), (x1, .inl (dA, 48, .inl (u.1))), (x2, .inl (dA, 48, .inl (u.2))), (x3, .inl (dA, 48, .inl (r)))] H := hP
          have hD : va_D A [(om, .inr (1, [.ref m1, .ref m2, .ref m3])), (m1, .inl (dA, 48, .inl (f))), (m2, .inl (dA, 48, .inl (g))), (m3, .inl (dA, 48, .inl (r))), (ox, .inr (0, [.ref x1, .ref x2, .ref x3])), (x1, .inl (dA, 48, .inl (u.1))), (x2, .inl (dA, 48, .inl (u.2))), (x3, .inl (dA, 48, .inl (r)))] := hD
          have hP := hP.sub (ws' := [(ox, .inr (0, [.ref x1, .ref x2, .ref x3])), (x1, .inl (dA, 48, .inl (u.1))), (x2, .inl (dA, 48, .inl (u.2))), (x3, .inl (dA, 48, .inl (r))), (om, .inr (1, [.ref m1, .ref m2, .ref m3])), (m1, .inl (dA, 48, .inl (f))), (m2, .inl (dA, 48, .inl (g))), (m3, .inl (dA, 48, .inl (r)))]) [4, 5, 6, 7, 0, 1, 2, 3] rfl
          have hD := hD.sub (ws' := [(ox, .inr (0, [.ref x1, .ref x2, .ref x3])), (x1, .inl (dA, 48, .inl (u.1))), (x2, .inl (dA, 48, .inl (u.2))), (x3, .inl (dA, 48, .inl (r))), (om, .inr (1, [.ref m1, .ref m2, .ref m3])), (m1, .inl (dA, 48, .inl (f))), (m2, .inl (dA, 48, .inl (g))), (m3, .inl (dA, 48, .inl (r)))]) [4, 5, 6, 7, 0, 1, 2, 3] (by decide) rfl
          refine lv_aload_n hx hb dL_law_260 rfl (lv_at hl 2 rfl) ?_
          refine lv_aload_n hx hb dL_law_261 rfl (lv_at hl 0 rfl) ?_
          refine lv_iload_n hx hb dL_law_262 rfl (lv_at hl 3 rfl) ?_
          refine lv_iconst (v := zI (1)) hx hb dL_law_263 rfl ?_
          refine kz_iadd (E := ((6 * t + 1 : Nat) : Int)) hx hb dL_law_264 (by omega) ?_
          refine kz_sld (k := 6 * t + 1) hx hb hX hbl hbA hS (by omega) (by omega) (by omega) dL_law_265 ?_
          refine lv_aload_n hx hb dL_law_266 rfl (lv_at hl 0 rfl) ?_
          refine lv_iload_n hx hb dL_law_267 rfl (lv_at hl 3 rfl) ?_
          refine lv_iconst (v := zI (2)) hx hb dL_law_268 rfl ?_
          refine kz_iadd (E := ((6 * t + 2 : Nat) : Int)) hx hb dL_law_269 (by omega) ?_
          refine kz_sld (k := 6 * t + 2) hx hb hX hbl hbA hS (by omega) (by omega) (by omega) dL_law_270 ?_
          refine zcallVv (q := (RX1, TX1, 3)) (ci := 1) (As := [.int (xs (6 * t + 1)), .int (xs (6 * t + 2))]) (rest := []) (wr := [(ox, .inr (0, [.ref x1, .ref x2, .ref x3])), (x1, .inl (dA, 48, .inl (u.1))), (x2, .inl (dA, 48, .inl (u.2))), (x3, .inl (dA, 48, .inl (r)))]) ⟨hx, hb, hml, hown, hts⟩ [4, 5, 6, 7] [0, 1, 2, 3] (met1_quick l dC dI dA H om m1 m2 m3 f g r (xs (6 * t + 1)) (xs (6 * t + 2))) (cwV 2 hts (lw_V q160 q161 q162 q6 q163) rfl rfl rfl (by decide +kernel) ⟨Nat.le_of_ble_eq_true rfl, Nat.le_of_ble_eq_true rfl⟩) hK hP hD hS hA rfl rfl (by decide) (by decide) (by decide) rfl rfl rfl rfl hl.1 (Nat.le_of_ble_eq_true rfl) dL_law_271 ⟨(by show _ ≤ 1200000; omega), (by show _ ≤ 5502250; omega)⟩ (fun v H locs hw2 hP hD hS => ?_)
          have hP : va_P (dC, dI) vwCl [(ox, .inr (0, [.ref x1, .ref x2, .ref x3])), (x1, .inl (dA, 48, .inl (u.1))), (x2, .inl (dA, 48, .inl (u.2))), (x3, .inl (dA, 48, .inl (r))), (om, .inr (1, [.ref v.1.1, .ref v.1.2, .ref m3])), (v.1.1, .inl (dA, 48, .inl (v.2.1))), (v.1.2, .inl (dA, 48, .inl (v.2.2))), (m3, .inl (dA, 48, .inl (r)))] H := hP
          have hD : va_D A [(ox, .inr (0, [.ref x1, .ref x2, .ref x3])), (x1, .inl (dA, 48, .inl (u.1))), (x2, .inl (dA, 48, .inl (u.2))), (x3, .inl (dA, 48, .inl (r))), (om, .inr (1, [.ref v.1.1, .ref v.1.2, .ref m3])), (v.1.1, .inl (dA, 48, .inl (v.2.1))), (v.1.2, .inl (dA, 48, .inl (v.2.2))), (m3, .inl (dA, 48, .inl (r)))] := hD
          have hP := hP.sub (ws' := [(ox, .inr (0, [.ref x1, .ref x2, .ref x3])), (x1, .inl (dA, 48, .inl (u.1))), (x2, .inl (dA, 48, .inl (u.2))), (x3, .inl (dA, 48, .inl (r))), (om, .inr (1, [.ref v.1.1, .ref v.1.2, .ref m3])), (v.1.1, .inl (dA, 48, .inl (v.2.1))), (v.1.2, .inl (dA, 48, .inl (v.2.2))), (m3, .inl (dA, 48, .inl (r)))]) [0, 1, 2, 3, 4, 5, 6, 7] rfl
          have hD := hD.sub (ws' := [(ox, .inr (0, [.ref x1, .ref x2, .ref x3])), (x1, .inl (dA, 48, .inl (u.1))), (x2, .inl (dA, 48, .inl (u.2))), (x3, .inl (dA, 48, .inl (r))), (om, .inr (1, [.ref v.1.1, .ref v.1.2, .ref m3])), (v.1.1, .inl (dA, 48, .inl (v.2.1))), (v.1.2, .inl (dA, 48, .inl (v.2.2))), (m3, .inl (dA, 48, .inl (r)))]) [0, 1, 2, 3, 4, 5, 6, 7] (by decide) rfl
          have hsm := zSx_one (zto_le (xs (6 * t + 1)) (xs (6 * t + 2))) hw hw2
          have hP := zP_cong (k := 5) (g := u.1) hP rfl (hsm.1)
          have hD := va_D.set (p := 5) (e := .inl (dA, 48, .inl (u.1))) hD rfl
          have hP : va_P (dC, dI) vwCl [(ox, .inr (0, [.ref x1, .ref x2, .ref x3])), (x1, .inl (dA, 48, .inl (u.1))), (x2, .inl (dA, 48, .inl (u.2))), (x3, .inl (dA, 48, .inl (r))), (om, .inr (1, [.ref v.1.1, .ref v.1.2, .ref m3])), (v.1.1, .inl (dA, 48, .inl (u.1))), (v.1.2, .inl (dA, 48, .inl (v.2.2))), (m3, .inl (dA, 48, .inl (r)))] H := hP
          have hD : va_D A [(ox, .inr (0, [.ref x1, .ref x2, .ref x3])), (x1, .inl (dA, 48, .inl (u.1))), (x2, .inl (dA, 48, .inl (u.2))), (x3, .inl (dA, 48, .inl (r))), (om, .inr (1, [.ref v.1.1, .ref v.1.2, .ref m3])), (v.1.1, .inl (dA, 48, .inl (u.1))), (v.1.2, .inl (dA, 48, .inl (v.2.2))), (m3, .inl (dA, 48, .inl (r)))] := hD
          have hP := zP_cong (k := 6) (g := u.2) hP rfl (hsm.2)
          have hD := va_D.set (p := 6) (e := .inl (dA, 48, .inl (u.2))) hD rfl
          have hP : va_P (dC, dI) vwCl [(ox, .inr (0, [.ref x1, .ref x2, .ref x3])), (x1, .inl (dA, 48, .inl (u.1))), (x2, .inl (dA, 48, .inl (u.2))), (x3, .inl (dA, 48, .inl (r))), (om, .inr (1, [.ref v.1.1, .ref v.1.2, .ref m3])), (v.1.1, .inl (dA, 48, .inl (u.1))), (v.1.2, .inl (dA, 48, .inl (u.2))), (m3, .inl (dA, 48, .inl (r)))] H := hP
          have hD : va_D A [(ox, .inr (0, [.ref x1, .ref x2, .ref x3])), (x1, .inl (dA, 48, .inl (u.1))), (x2, .inl (dA, 48, .inl (u.2))), (x3, .inl (dA, 48, .inl (r))), (om, .inr (1, [.ref v.1.1, .ref v.1.2, .ref m3])), (v.1.1, .inl (dA, 48, .inl (u.1))), (v.1.2, .inl (dA, 48, .inl (u.2))), (m3, .inl (dA, 48, .inl (r)))] := hD
          refine lv_goto (tgt := 339) hx hb dL_law_274 (by decide) ?_
          refine W.widen (k := 8 + 2 * (t + 1)) (n := 294 + 96 * (t + 1)) (by omega) (by omega) ?_
          exact EN h6 x1 x2 x3 v.1.1 v.1.2 m3 u.1 u.2 r H locs ls hP hD hS (lv_sub hl [0, 1, 2, 3] rfl)
        · skip
          refine lv_tableIn (off := 244) (tgt := 277) hx hb dL_law_33 (by decide +kernel) (by decide +kernel) (by decide +kernel) (by decide) ?_
          refine lv_aload_n hx hb dL_law_277 rfl (lv_at hl 1 rfl) ?_
          refine lv_aload_n hx hb dL_law_278 rfl (lv_at hl 0 rfl) ?_
          refine lv_iload_n hx hb dL_law_279 rfl (lv_at hl 3 rfl) ?_
          refine lv_iconst (v := zI (1)) hx hb dL_law_280 rfl ?_
          refine kz_iadd (E := ((6 * t + 1 : Nat) : Int)) hx hb dL_law_281 (by omega) ?_
          refine kz_sld (k := 6 * t + 1) hx hb hX hbl hbA hS (by omega) (by omega) (by omega) dL_law_282 ?_
          refine lv_aload_n hx hb dL_law_283 rfl (lv_at hl 0 rfl) ?_
          refine lv_iload_n hx hb dL_law_284 rfl (lv_at hl 3 rfl) ?_
          refine lv_iconst (v := zI (2)) hx hb dL_law_285 rfl ?_
          refine kz_iadd (E := ((6 * t + 2 : Nat) : Int)) hx hb dL_law_286 (by omega) ?_
          refine kz_sld (k := 6 * t + 2) hx hb hX hbl hbA hS (by omega) (by omega) (by omega) dL_law_287 ?_
          refine zcallVv (q := (RX0, TX0, 3)) (ci := 0) (As := [.int (xs (6 * t + 1)), .int (xs (6 * t + 2))]) (rest := []) (wr := [(om, .inr (1, [.ref m1, .ref m2, .ref m3])), (m1, .inl (dA, 48, .inl (f))), (m2, .inl (dA, 48, .inl (g))), (m3, .inl (dA, 48, .inl (r)))]) ⟨hx, hb, hml, hown, hts⟩ [0, 1, 2, 3] [4, 5, 6, 7] (met0_radix l dC dI dA H ox x1 x2 x3 f g r (xs (6 * t + 1)) (xs (6 * t + 2))) (cwV 2 hts (lw_V q91 q92 q93 q5 q94) rfl rfl rfl (by decide +kernel) ⟨Nat.le_of_ble_eq_true rfl, Nat.le_of_ble_eq_true rfl⟩) hK hP hD hS hA rfl rfl (by decide) (by decide) (by decide) rfl rfl rfl rfl hl.1 (Nat.le_of_ble_eq_true rfl) dL_law_288 ⟨(by show _ ≤ 1200000; omega), (by show _ ≤ 5502250; omega)⟩ (fun u H locs hw hP hD hS => ?_)
          have hP : va_P (dC, dI) vwCl [(om, .inr (1, [.ref m1, .ref m2, .ref m3])), (m1, .inl (dA, 48, .inl (f))), (m2, .inl (dA, 48, .inl (g))), (m3, .inl (dA, 48, .inl (r))), (ox, .inr (0, [.ref x1, .ref x2, .ref x3])), (x1, .inl (dA, 48, .inl (u.1))), (x2, .inl (dA, 48, .inl (u.2))), (x3, .inl (dA, 48, .inl (r)))] H := hP
          have hD : va_D A [(om, .inr (1, [.ref m1, .ref m2, .ref m3])), (m1, .inl (dA, 48, .inl (f))), (m2, .inl (dA, 48, .inl (g))), (m3, .inl (dA, 48, .inl (r))), (ox, .inr (0, [.ref x1, .ref x2, .ref x3])), (x1, .inl (dA, 48, .inl (u.1))), (x2, .inl (dA, 48, .inl (u.2))), (x3, .inl (dA, 48, .inl (r)))] := hD
          have hP := hP.sub (ws' := [(ox, .inr (0, [.ref x1, .ref x2, .ref x3])), (x1, .inl (dA, 48, .inl (u.1))), (x2, .inl (dA, 48, .inl (u.2))), (x3, .inl (dA, 48, .inl (r))), (om, .inr (1, [.ref m1, .ref m2, .ref m3])), (m1, .inl (dA, 48, .inl (f))), (m2, .inl (dA, 48, .inl (g))), (m3, .inl (dA, 48, .inl (r)))]) [4, 5, 6, 7, 0, 1, 2, 3] rfl
          have hD := hD.sub (ws' := [(ox, .inr (0, [.ref x1, .ref x2, .ref x3])), (x1, .inl (dA, 48, .inl (u.1))), (x2, .inl (dA, 48, .inl (u.2))), (x3, .inl (dA, 48, .inl (r))), (om, .inr (1, [.ref m1, .ref m2, .ref m3])), (m1, .inl (dA, 48, .inl (f))), (m2, .inl (dA, 48, .inl (g))), (m3, .inl (dA, 48, .inl (r)))]) [4, 5, 6, 7, 0, 1, 2, 3] (by decide) rfl
          refine lv_aload_n hx hb dL_law_291 rfl (lv_at hl 2 rfl) ?_
          refine lv_aload_n hx hb dL_law_292 rfl (lv_at hl 0 rfl) ?_
          refine lv_iload_n hx hb dL_law_293 rfl (lv_at hl 3 rfl) ?_
          refine lv_iconst (v := zI (1)) hx hb dL_law_294 rfl ?_
          refine kz_iadd (E := ((6 * t + 1 : Nat) : Int)) hx hb dL_law_295 (by omega) ?_
          refine kz_sld (k := 6 * t + 1) hx hb hX hbl hbA hS (by omega) (by omega) (by omega) dL_law_296 ?_
          refine lv_aload_n hx hb dL_law_297 rfl (lv_at hl 0 rfl) ?_
          refine lv_iload_n hx hb dL_law_298 rfl (lv_at hl 3 rfl) ?_
          refine lv_iconst (v := zI (2)) hx hb dL_law_299 rfl ?_
          refine kz_iadd (E := ((6 * t + 2 : Nat) : Int)) hx hb dL_law_300 (by omega) ?_
          refine kz_sld (k := 6 * t + 2) hx hb hX hbl hbA hS (by omega) (by omega) (by omega) dL_law_301 ?_
          refine zcallVv (q := (RX1, TX1, 3)) (ci := 1) (As := [.int (xs (6 * t + 1)), .int (xs (6 * t + 2))]) (rest := []) (wr := [(ox, .inr (0, [.ref x1, .ref x2, .ref x3])), (x1, .inl (dA, 48, .inl (u.1))), (x2, .inl (dA, 48, .inl (u.2))), (x3, .inl (dA, 48, .inl (r)))]) ⟨hx, hb, hml, hown, hts⟩ [4, 5, 6, 7] [0, 1, 2, 3] (met1_radix l dC dI dA H om m1 m2 m3 f g r (xs (6 * t + 1)) (xs (6 * t + 2))) (cwV 2 hts (lw_V q178 q179 q180 q6 q181) rfl rfl rfl (by decide +kernel) ⟨Nat.le_of_ble_eq_true rfl, Nat.le_of_ble_eq_true rfl⟩) hK hP hD hS hA rfl rfl (by decide) (by decide) (by decide) rfl rfl rfl rfl hl.1 (Nat.le_of_ble_eq_true rfl) dL_law_302 ⟨(by show _ ≤ 1200000; omega), (by show _ ≤ 5502250; omega)⟩ (fun v H locs hw2 hP hD hS => ?_)
          have hP : va_P (dC, dI) vwCl [(ox, .inr (0, [.ref x1, .ref x2, .ref x3])), (x1, .inl (dA, 48, .inl (u.1))), (x2, .inl (dA, 48, .inl (u.2))), (x3, .inl (dA, 48, .inl (r))), (om, .inr (1, [.ref v.1.1, .ref v.1.2, .ref m3])), (v.1.1, .inl (dA, 48, .inl (v.2.1))), (v.1.2, .inl (dA, 48, .inl (v.2.2))), (m3, .inl (dA, 48, .inl (r)))] H := hP
          have hD : va_D A [(ox, .inr (0, [.ref x1, .ref x2, .ref x3])), (x1, .inl (dA, 48, .inl (u.1))), (x2, .inl (dA, 48, .inl (u.2))), (x3, .inl (dA, 48, .inl (r))), (om, .inr (1, [.ref v.1.1, .ref v.1.2, .ref m3])), (v.1.1, .inl (dA, 48, .inl (v.2.1))), (v.1.2, .inl (dA, 48, .inl (v.2.2))), (m3, .inl (dA, 48, .inl (r)))] := hD
          have hP := hP.sub (ws' := [(ox, .inr (0, [.ref x1, .ref x2, .ref x3])), (x1, .inl (dA, 48, .inl (u.1))), (x2, .inl (dA, 48, .inl (u.2))), (x3, .inl (dA, 48, .inl (r))), (om, .inr (1, [.ref v.1.1, .ref v.1.2, .ref m3])), (v.1.1, .inl (dA, 48, .inl (v.2.1))), (v.1.2, .inl (dA, 48, .inl (v.2.2))), (m3, .inl (dA, 48, .inl (r)))]) [0, 1, 2, 3, 4, 5, 6, 7] rfl
          have hD := hD.sub (ws' := [(ox, .inr (0, [.ref x1, .ref x2, .ref x3])), (x1, .inl (dA, 48, .inl (u.1))), (x2, .inl (dA, 48, .inl (u.2))), (x3, .inl (dA, 48, .inl (r))), (om, .inr (1, [.ref v.1.1, .ref v.1.2, .ref m3])), (v.1.1, .inl (dA, 48, .inl (v.2.1))), (v.1.2, .inl (dA, 48, .inl (v.2.2))), (m3, .inl (dA, 48, .inl (r)))]) [0, 1, 2, 3, 4, 5, 6, 7] (by decide) rfl
          have hsm := zSx_one (zto_le (xs (6 * t + 1)) (xs (6 * t + 2))) hw hw2
          have hP := zP_cong (k := 5) (g := u.1) hP rfl (hsm.1)
          have hD := va_D.set (p := 5) (e := .inl (dA, 48, .inl (u.1))) hD rfl
          have hP : va_P (dC, dI) vwCl [(ox, .inr (0, [.ref x1, .ref x2, .ref x3])), (x1, .inl (dA, 48, .inl (u.1))), (x2, .inl (dA, 48, .inl (u.2))), (x3, .inl (dA, 48, .inl (r))), (om, .inr (1, [.ref v.1.1, .ref v.1.2, .ref m3])), (v.1.1, .inl (dA, 48, .inl (u.1))), (v.1.2, .inl (dA, 48, .inl (v.2.2))), (m3, .inl (dA, 48, .inl (r)))] H := hP
          have hD : va_D A [(ox, .inr (0, [.ref x1, .ref x2, .ref x3])), (x1, .inl (dA, 48, .inl (u.1))), (x2, .inl (dA, 48, .inl (u.2))), (x3, .inl (dA, 48, .inl (r))), (om, .inr (1, [.ref v.1.1, .ref v.1.2, .ref m3])), (v.1.1, .inl (dA, 48, .inl (u.1))), (v.1.2, .inl (dA, 48, .inl (v.2.2))), (m3, .inl (dA, 48, .inl (r)))] := hD
          have hP := zP_cong (k := 6) (g := u.2) hP rfl (hsm.2)
          have hD := va_D.set (p := 6) (e := .inl (dA, 48, .inl (u.2))) hD rfl
          have hP : va_P (dC, dI) vwCl [(ox, .inr (0, [.ref x1, .ref x2, .ref x3])), (x1, .inl (dA, 48, .inl (u.1))), (x2, .inl (dA, 48, .inl (u.2))), (x3, .inl (dA, 48, .inl (r))), (om, .inr (1, [.ref v.1.1, .ref v.1.2, .ref m3])), (v.1.1, .inl (dA, 48, .inl (u.1))), (v.1.2, .inl (dA, 48, .inl (u.2))), (m3, .inl (dA, 48, .inl (r)))] H := hP
          have hD : va_D A [(ox, .inr (0, [.ref x1, .ref x2, .ref x3])), (x1, .inl (dA, 48, .inl (u.1))), (x2, .inl (dA, 48, .inl (u.2))), (x3, .inl (dA, 48, .inl (r))), (om, .inr (1, [.ref v.1.1, .ref v.1.2, .ref m3])), (v.1.1, .inl (dA, 48, .inl (u.1))), (v.1.2, .inl (dA, 48, .inl (u.2))), (m3, .inl (dA, 48, .inl (r)))] := hD
          refine lv_goto (tgt := 339) hx hb dL_law_305 (by decide) ?_
          refine W.widen (k := 8 + 2 * (t + 1)) (n := 294 + 96 * (t + 1)) (by omega) (by omega) ?_
          exact EN h6 x1 x2 x3 v.1.1 v.1.2 m3 u.1 u.2 r H locs ls hP hD hS (lv_sub hl [0, 1, 2, 3] rfl)
        · skip
          refine lv_tableIn (off := 275) (tgt := 308) hx hb dL_law_33 (by decide +kernel) (by decide +kernel) (by decide +kernel) (by decide) ?_
          refine lv_aload_n hx hb dL_law_308 rfl (lv_at hl 1 rfl) ?_
          refine lv_aload_n hx hb dL_law_309 rfl (lv_at hl 0 rfl) ?_
          refine lv_iload_n hx hb dL_law_310 rfl (lv_at hl 3 rfl) ?_
          refine lv_iconst (v := zI (1)) hx hb dL_law_311 rfl ?_
          refine kz_iadd (E := ((6 * t + 1 : Nat) : Int)) hx hb dL_law_312 (by omega) ?_
          refine kz_sld (k := 6 * t + 1) hx hb hX hbl hbA hS (by omega) (by omega) (by omega) dL_law_313 ?_
          refine lv_aload_n hx hb dL_law_314 rfl (lv_at hl 0 rfl) ?_
          refine lv_iload_n hx hb dL_law_315 rfl (lv_at hl 3 rfl) ?_
          refine lv_iconst (v := zI (2)) hx hb dL_law_316 rfl ?_
          refine kz_iadd (E := ((6 * t + 2 : Nat) : Int)) hx hb dL_law_317 (by omega) ?_
          refine kz_sld (k := 6 * t + 2) hx hb hX hbl hbA hS (by omega) (by omega) (by omega) dL_law_318 ?_
          refine zcallVv (q := (RX0, TX0, 3)) (ci := 0) (As := [.int (xs (6 * t + 1)), .int (xs (6 * t + 2))]) (rest := []) (wr := [(om, .inr (1, [.ref m1, .ref m2, .ref m3])), (m1, .inl (dA, 48, .inl (f))), (m2, .inl (dA, 48, .inl (g))), (m3, .inl (dA, 48, .inl (r)))]) ⟨hx, hb, hml, hown, hts⟩ [0, 1, 2, 3] [4, 5, 6, 7] (met0_indirect l dC dI dA H ox x1 x2 x3 f g r (xs (6 * t + 1)) (xs (6 * t + 2))) (cwV 2 hts (lw_V q98 q99 q100 q5 q101) rfl rfl rfl (by decide +kernel) ⟨Nat.le_of_ble_eq_true rfl, Nat.le_of_ble_eq_true rfl⟩) hK hP hD hS hA rfl rfl (by decide) (by decide) (by decide) rfl rfl rfl rfl hl.1 (Nat.le_of_ble_eq_true rfl) dL_law_319 ⟨(by show _ ≤ 1200000; omega), (by show _ ≤ 5502250; omega)⟩ (fun u H locs hw hP hD hS => ?_)
          have hP : va_P (dC, dI) vwCl [(om, .inr (1, [.ref m1, .ref m2, .ref m3])), (m1, .inl (dA, 48, .inl (f))), (m2, .inl (dA, 48, .inl (g))), (m3, .inl (dA, 48, .inl (r))), (ox, .inr (0, [.ref x1, .ref x2, .ref x3])), (x1, .inl (dA, 48, .inl (f))), (x2, .inl (dA, 48, .inl (g))), (x3, .inl (dA, 48, .inl (u)))] H := hP
          have hD : va_D A [(om, .inr (1, [.ref m1, .ref m2, .ref m3])), (m1, .inl (dA, 48, .inl (f))), (m2, .inl (dA, 48, .inl (g))), (m3, .inl (dA, 48, .inl (r))), (ox, .inr (0, [.ref x1, .ref x2, .ref x3])), (x1, .inl (dA, 48, .inl (f))), (x2, .inl (dA, 48, .inl (g))), (x3, .inl (dA, 48, .inl (u)))] := hD
          have hP := hP.sub (ws' := [(ox, .inr (0, [.ref x1, .ref x2, .ref x3])), (x1, .inl (dA, 48, .inl (f))), (x2, .inl (dA, 48, .inl (g))), (x3, .inl (dA, 48, .inl (u))), (om, .inr (1, [.ref m1, .ref m2, .ref m3])), (m1, .inl (dA, 48, .inl (f))), (m2, .inl (dA, 48, .inl (g))), (m3, .inl (dA, 48, .inl (r)))]) [4, 5, 6, 7, 0, 1, 2, 3] rfl
          have hD := hD.sub (ws' := [(ox, .inr (0, [.ref x1, .ref x2, .ref x3])), (x1, .inl (dA, 48, .inl (f))), (x2, .inl (dA, 48, .inl (g))), (x3, .inl (dA, 48, .inl (u))), (om, .inr (1, [.ref m1, .ref m2, .ref m3])), (m1, .inl (dA, 48, .inl (f))), (m2, .inl (dA, 48, .inl (g))), (m3, .inl (dA, 48, .inl (r)))]) [4, 5, 6, 7, 0, 1, 2, 3] (by decide) rfl
          refine lv_aload_n hx hb dL_law_322 rfl (lv_at hl 2 rfl) ?_
          refine lv_aload_n hx hb dL_law_323 rfl (lv_at hl 0 rfl) ?_
          refine lv_iload_n hx hb dL_law_324 rfl (lv_at hl 3 rfl) ?_
          refine lv_iconst (v := zI (1)) hx hb dL_law_325 rfl ?_
          refine kz_iadd (E := ((6 * t + 1 : Nat) : Int)) hx hb dL_law_326 (by omega) ?_
          refine kz_sld (k := 6 * t + 1) hx hb hX hbl hbA hS (by omega) (by omega) (by omega) dL_law_327 ?_
          refine lv_aload_n hx hb dL_law_328 rfl (lv_at hl 0 rfl) ?_
          refine lv_iload_n hx hb dL_law_329 rfl (lv_at hl 3 rfl) ?_
          refine lv_iconst (v := zI (2)) hx hb dL_law_330 rfl ?_
          refine kz_iadd (E := ((6 * t + 2 : Nat) : Int)) hx hb dL_law_331 (by omega) ?_
          refine kz_sld (k := 6 * t + 2) hx hb hX hbl hbA hS (by omega) (by omega) (by omega) dL_law_332 ?_
          refine zcallVv (q := (RX1, TX1, 3)) (ci := 1) (As := [.int (xs (6 * t + 1)), .int (xs (6 * t + 2))]) (rest := []) (wr := [(ox, .inr (0, [.ref x1, .ref x2, .ref x3])), (x1, .inl (dA, 48, .inl (f))), (x2, .inl (dA, 48, .inl (g))), (x3, .inl (dA, 48, .inl (u)))]) ⟨hx, hb, hml, hown, hts⟩ [4, 5, 6, 7] [0, 1, 2, 3] (met1_indirect l dC dI dA H om m1 m2 m3 f g r (xs (6 * t + 1)) (xs (6 * t + 2))) (cwV 2 hts (lw_V q182 q183 q184 q6 q185) rfl rfl rfl (by decide +kernel) ⟨Nat.le_of_ble_eq_true rfl, Nat.le_of_ble_eq_true rfl⟩) hK hP hD hS hA rfl rfl (by decide) (by decide) (by decide) rfl rfl rfl rfl hl.1 (Nat.le_of_ble_eq_true rfl) dL_law_333 ⟨(by show _ ≤ 1200000; omega), (by show _ ≤ 5502250; omega)⟩ (fun v H locs hw2 hP hD hS => ?_)
          have hP : va_P (dC, dI) vwCl [(ox, .inr (0, [.ref x1, .ref x2, .ref x3])), (x1, .inl (dA, 48, .inl (f))), (x2, .inl (dA, 48, .inl (g))), (x3, .inl (dA, 48, .inl (u))), (om, .inr (1, [.ref m1, .ref m2, .ref v.1])), (m1, .inl (dA, 48, .inl (f))), (m2, .inl (dA, 48, .inl (g))), (v.1, .inl (dA, 48, .inl (v.2)))] H := hP
          have hD : va_D A [(ox, .inr (0, [.ref x1, .ref x2, .ref x3])), (x1, .inl (dA, 48, .inl (f))), (x2, .inl (dA, 48, .inl (g))), (x3, .inl (dA, 48, .inl (u))), (om, .inr (1, [.ref m1, .ref m2, .ref v.1])), (m1, .inl (dA, 48, .inl (f))), (m2, .inl (dA, 48, .inl (g))), (v.1, .inl (dA, 48, .inl (v.2)))] := hD
          have hP := hP.sub (ws' := [(ox, .inr (0, [.ref x1, .ref x2, .ref x3])), (x1, .inl (dA, 48, .inl (f))), (x2, .inl (dA, 48, .inl (g))), (x3, .inl (dA, 48, .inl (u))), (om, .inr (1, [.ref m1, .ref m2, .ref v.1])), (m1, .inl (dA, 48, .inl (f))), (m2, .inl (dA, 48, .inl (g))), (v.1, .inl (dA, 48, .inl (v.2)))]) [0, 1, 2, 3, 4, 5, 6, 7] rfl
          have hD := hD.sub (ws' := [(ox, .inr (0, [.ref x1, .ref x2, .ref x3])), (x1, .inl (dA, 48, .inl (f))), (x2, .inl (dA, 48, .inl (g))), (x3, .inl (dA, 48, .inl (u))), (om, .inr (1, [.ref m1, .ref m2, .ref v.1])), (m1, .inl (dA, 48, .inl (f))), (m2, .inl (dA, 48, .inl (g))), (v.1, .inl (dA, 48, .inl (v.2)))]) [0, 1, 2, 3, 4, 5, 6, 7] (by decide) rfl
          have hsm := zIx_one (zto_le (xs (6 * t + 1)) (xs (6 * t + 2))) hw hw2
          have hP := zP_cong (k := 7) (g := u) hP rfl (hsm)
          have hD := va_D.set (p := 7) (e := .inl (dA, 48, .inl (u))) hD rfl
          have hP : va_P (dC, dI) vwCl [(ox, .inr (0, [.ref x1, .ref x2, .ref x3])), (x1, .inl (dA, 48, .inl (f))), (x2, .inl (dA, 48, .inl (g))), (x3, .inl (dA, 48, .inl (u))), (om, .inr (1, [.ref m1, .ref m2, .ref v.1])), (m1, .inl (dA, 48, .inl (f))), (m2, .inl (dA, 48, .inl (g))), (v.1, .inl (dA, 48, .inl (u)))] H := hP
          have hD : va_D A [(ox, .inr (0, [.ref x1, .ref x2, .ref x3])), (x1, .inl (dA, 48, .inl (f))), (x2, .inl (dA, 48, .inl (g))), (x3, .inl (dA, 48, .inl (u))), (om, .inr (1, [.ref m1, .ref m2, .ref v.1])), (m1, .inl (dA, 48, .inl (f))), (m2, .inl (dA, 48, .inl (g))), (v.1, .inl (dA, 48, .inl (u)))] := hD
          refine lv_goto (tgt := 339) hx hb dL_law_336 (by decide) ?_
          refine W.widen (k := 8 + 2 * (t + 1)) (n := 294 + 96 * (t + 1)) (by omega) (by omega) ?_
          exact EN h6 x1 x2 x3 m1 m2 v.1 f g u H locs ls hP hD hS (lv_sub hl [0, 1, 2, 3] rfl)
        · skip
          refine lv_tableOut (tgt := 339) hx hb dL_law_33 (Or.inr (by rw [zI_t (by omega) (by omega)]; omega)) (by decide) ?_
          refine W.widen (k := 8 + 2 * (t + 1)) (n := 294 + 96 * (t + 1)) (by omega) (by omega) ?_
          exact EN h6 x1 x2 x3 m1 m2 m3 f g r H locs ls hP hD hS (lv_sub hl [0, 1, 2, 3] rfl)
  exact loop 49 0 x1 x2 x3 m1 m2 m3 (fun _ => 0) (fun _ => 0) rx H locs ls (by omega) (by omega) hP hD hS (lv_sub hl [3, 2, 1, 0] rfl)
end
section
set_option maxHeartbeats 4000000 in
theorem lw_walk (l : Launch) (hflags : l.flags = flags0) (b : Addr) (xs : List Int32) : MetFree l x (headSpec (Jvm.Cond.code x code maxLocals ret :: tables_1) room_1) (lw_P b xs) (fun _ _ _ _ _ => True) lw_Q := by
  refine MetFree.of_bodyS (code := code) (maxLocals := maxLocals) (ret := ret) (by decide) ?_ ?_
  · intro args s m h hn
    obtain ⟨meth, c, h1, h2, h3, h4, h5, h6, -, -⟩ := Cond.code_spec hn (atoms_spec (ws := Jvm.Cond.code x code maxLocals ret :: tables_1) h _ List.mem_cons_self)
    exact ⟨meth, c, h1, h2, h3, h4, h5, h6⟩
  · intro p e s m args below meth c s₁ B hml0 hP _
    obtain ⟨rfl, hx, hbd, hgv⟩ := hP
    obtain ⟨scr, harrAt, hlist, hof, hsmall⟩ := hx
    obtain ⟨hcb, hkn, -, -⟩ := State.arrayAt?_spec harrAt
    have hown : s.vm.findClass R_law = some m.cls := findClass_of_methodNamed B.named
    have hts0 : ∀ c ∈ (Jvm.Cond.code x code maxLocals ret :: tables_1), c.before #[Value.ref b] s = true := atoms_spec (ws := Jvm.Cond.code x code maxLocals ret :: tables_1) B.pre
    have hts : ∀ w ∈ lw_tbl, w.before #[Value.ref b] s = true := k2_hts_sels lw_privs (fun w hw => hts0 w (List.mem_cons_of_mem _ hw)) lw_privs_ok
    have hml : c.maxLocals = 4 := B.maxLocals_eq (hts0 _ List.mem_cons_self)
    have X₀ : Stand p l e room_1 s m #[Value.ref b] below meth c s₁ [] 0 0 := Stand.of_body B
    have hh0 : s₁.heap = s.heap := by rw [B.state]; rfl
    have hsz : scr.slots.size = xs.length := by rw [← Array.length_toList, hlist, List.length_map]
    have hval : ∀ j : Nat, j < xs.length → scr.slots[j]? = some (.int (xs.getD j 0)) := fun j hj => by
      rw [← Array.getElem?_toList, hlist]
      simp [hj]
    have hbl : b < s.heap.size := (Array.getElem?_eq_some_iff.mp hcb).1
    have hX : va_X b xs.length (fun j => xs.getD j 0) s s.heap := ⟨scr, hcb, hof, hkn, hsz, hval⟩
    have K : W p l e room_1 s m #[Value.ref b] below meth c s₁.heap [] 0 0 (lw_Z below #[Value.ref b] s) (entryFrame m ([Value.ref b] : List Value).toArray 4) := by
      rw [hh0]
      exact whole_start l hflags hbd ⟨B.exec, B.bytes, B.returns, hml, hown, hts, hX, hbl, B.notSynchronized, hgv⟩
    obtain ⟨t, a1, o, b1, b2, b3⟩ := K s₁ rfl X₀
    exact ⟨t, o, a1, b1, b2, b3⟩
theorem lw_pre_spec {args : Array Value} {s : State} (h : (Jvm.Cond.and given_1 narrow_1).before args s = true) (hr : rest_1_c.before args s = true) : ∃ (b : Addr) (xs : List Int32), lw_P b xs args s := by
  have hs := flat_of_before _ h
  have hq := flat_of_before _ hr
  have hc : (Cond.count 1).before args s = true := hs _ (by decide +kernel)
  have harr : (Cond.arrayOf (.arg 0) .int).before args s = true := hs _ (by decide +kernel)
  have hle : (Cond.le (.length (.arg 0)) (.int 288)).before args s = true := hs _ (by decide +kernel)
  have hlen : (Cond.isInt (.length (.arg 0))).before args s = true := hq _ (by decide +kernel)
  have hall : (Cond.all (.arg 0) (.isInt (.elem (.arg 0) (.index 0)))).before args s = true := hq _ (by decide +kernel)
  obtain ⟨b, xs, hb, hx⟩ := State.ints_of_pre rfl harr hlen hall
  have hsm : xs.length < 2 ^ 31 := hx.choose_spec.2.2.2
  have hev : (Term.length (.arg 0)).eval args s none [] s = some (.int xs.length.toInt32) := hx.length_eval hb
  have hv := Cond.le_ints hev (show (Term.int 288).eval args s none [] s = some (.int 288) from rfl)
  have hd : xs.length.toInt32 ≤ 288 := by
    simpa [Cond.before, Cond.holds, hv] using hle
  have hN : xs.length ≤ 288 := (Int32.ofNat_le_ofNat hsm (by decide)).mp (show Int32.ofNat xs.length ≤ Int32.ofNat 288 from hd)
  exact ⟨b, xs, Cond.one_arg hc (show args[0]? = some (.ref b) from hb), hx, hN, h⟩
theorem lw_comes (l : Launch) (hflags : l.flags = flags0) : Comes l x (Jvm.Cond.code x code maxLocals ret :: tables_1) room_1 (fun tb e args s => Calls_1 tb e args s ∧ rest_1 tb e args s ∧ Pre_1 tb e args s)
    (fun _ _ args s o t => lw_Q args s o t) := by
  intro p e ha hc hk s m args below hf hfit hheap happ hpre
  obtain ⟨b, xs, hP⟩ := lw_pre_spec hpre.2.2 hpre.2.1
  obtain ⟨k, o, h1, h2, h3, hQ⟩ := lw_walk l hflags b xs p e ha hc hk s m args below hf ((Spec.applies_iff_loose hf).mp happ).1 hP trivial
  exact ⟨k, o, h1, h2, h3, hQ⟩
theorem lw_frame {s t : State} {o : Outcome} {args : Array Value} (h : Framed s o t [] 1200000 5502250) :
    Framed s o t (fieldLocs frame_1_writes args s ++ arrayLocs frame_1_arrays args s ++ staticLocs frame_1_statics s) 1200000 5502250 := h
theorem lw_limb (L : Cond) (hL : ∀ (args : Array Value) (s t : State), L.after args s (.returned (some (.int 1))) t = true) :
    ArmFor flags0 classFile x code maxLocals ret World_1 tables_1 room_1 Calls_1 rest_1 Pre_1
      (fun tb e a s o t => postC L tb e a s o t ∧ Framed s o t (fieldLocs frame_1_writes a s ++ arrayLocs frame_1_arrays a s ++ staticLocs frame_1_statics s) 1200000 5502250) := by
  intro l hflags _ _ p e ha hc hk s m args below hf hfit hheap happ hpre
  obtain ⟨k, o, h1, h2, h3, rfl, hF⟩ := lw_comes l hflags p e ha hc hk s m args below hf hfit hheap happ hpre
  exact ⟨k, _, h1, h2, h3, hL args s _, lw_frame hF⟩
theorem i_vc : Claimed_1_1 ∧ Claimed_1_2 := ⟨lw_limb limb_1_1 (fun args s t => by simp [limb_1_1, Cond.after, Cond.holds, Cond.value]), lw_limb limb_1_2 (fun args s t => Cond.after_iff.mpr (by
  first | (rw [show limb_1_2 = Cond.eq .result (.int 1) from rfl, Cond.eq_ints (x := 1) (y := 1) rfl rfl]; simp; done) | (simp [limb_1_2, Cond.value, Term.eval]; done)))⟩
end
