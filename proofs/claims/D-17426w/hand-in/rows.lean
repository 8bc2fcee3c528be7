section
-- ===== PART A: goes FIRST, ahead of the names: the tables' words, and 'selects' of the private methods out of them =====
/-- a private method of a class that the tables say can be made, by its rows of tables_1 -/
def lw_okq (q : MethodName × Nat) : Prop := (q.1.cls ≠ "java/lang/invoke/MethodHandle" ∧ q.1.cls ≠ "java/lang/invoke/VarHandle") ∧ Cond.instantiable q.1.cls q.2 ∈ tables_1 ∧ Cond.privateMethod q.1 ∈ tables_1 ∧ Cond.instanceMethod q.1 ∈ tables_1
set_option maxRecDepth 100000
theorem lw_t1 {w : Cond} (h : w ∈ tables_1_1) : w ∈ tables_1 := List.mem_append_left _ h
theorem lw_t2 {w : Cond} (h : w ∈ tables_1_2) : w ∈ tables_1 := List.mem_append_right _ h
theorem lw_p0 : lw_okq (⟨"RcFourDesk", "from", "(I)I"⟩, 8) := ⟨⟨by decide +kernel, by decide +kernel⟩, lw_t1 (List.mem_of_getElem? (i := 14) rfl), lw_t1 (List.mem_of_getElem? (i := 81) rfl), lw_t1 (List.mem_of_getElem? (i := 82) rfl)⟩
theorem lw_p1 : lw_okq (⟨"RC4Engine", "setKey", "([B)V"⟩, 5) := ⟨⟨by decide +kernel, by decide +kernel⟩, lw_t1 (List.mem_of_getElem? (i := 22) rfl), lw_t1 (List.mem_of_getElem? (i := 126) rfl), lw_t1 (List.mem_of_getElem? (i := 127) rfl)⟩
theorem lw_p2 : lw_okq (⟨"java/lang/Throwable", "fillInStackTrace", "(I)Ljava/lang/Throwable;"⟩, 6) := ⟨⟨by decide +kernel, by decide +kernel⟩, lw_t1 (List.mem_of_getElem? (i := 168) rfl), lw_t1 (List.mem_of_getElem? (i := 166) rfl), lw_t1 (List.mem_of_getElem? (i := 167) rfl)⟩
theorem lw_p3 : lw_okq (⟨"RcFourDesk", "count", "(II)I"⟩, 8) := ⟨⟨by decide +kernel, by decide +kernel⟩, lw_t1 (List.mem_of_getElem? (i := 14) rfl), lw_t1 (List.mem_of_getElem? (i := 201) rfl), lw_t1 (List.mem_of_getElem? (i := 202) rfl)⟩
theorem lw_p4 : lw_okq (⟨"RcFourDeskModel", "from", "(I)I"⟩, 9) := ⟨⟨by decide +kernel, by decide +kernel⟩, lw_t2 (List.mem_of_getElem? (i := 26) rfl), lw_t2 (List.mem_of_getElem? (i := 72) rfl), lw_t2 (List.mem_of_getElem? (i := 73) rfl)⟩
theorem lw_p5 : lw_okq (⟨"RcFourDeskModel", "lays", "()V"⟩, 9) := ⟨⟨by decide +kernel, by decide +kernel⟩, lw_t2 (List.mem_of_getElem? (i := 26) rfl), lw_t2 (List.mem_of_getElem? (i := 89) rfl), lw_t2 (List.mem_of_getElem? (i := 90) rfl)⟩
theorem lw_p6 : lw_okq (⟨"RcFourDeskModel", "swaps", "(II)V"⟩, 9) := ⟨⟨by decide +kernel, by decide +kernel⟩, lw_t2 (List.mem_of_getElem? (i := 26) rfl), lw_t2 (List.mem_of_getElem? (i := 93) rfl), lw_t2 (List.mem_of_getElem? (i := 94) rfl)⟩
theorem lw_p7 : lw_okq (⟨"RcFourDeskModel", "next", "()I"⟩, 9) := ⟨⟨by decide +kernel, by decide +kernel⟩, lw_t2 (List.mem_of_getElem? (i := 26) rfl), lw_t2 (List.mem_of_getElem? (i := 101) rfl), lw_t2 (List.mem_of_getElem? (i := 102) rfl)⟩
def lw_privs_1 : List (MethodName × Nat) := [(⟨"RcFourDesk", "from", "(I)I"⟩, 8), (⟨"RC4Engine", "setKey", "([B)V"⟩, 5), (⟨"java/lang/Throwable", "fillInStackTrace", "(I)Ljava/lang/Throwable;"⟩, 6), (⟨"RcFourDesk", "count", "(II)I"⟩, 8), (⟨"RcFourDeskModel", "from", "(I)I"⟩, 9), (⟨"RcFourDeskModel", "lays", "()V"⟩, 9), (⟨"RcFourDeskModel", "swaps", "(II)V"⟩, 9), (⟨"RcFourDeskModel", "next", "()I"⟩, 9)]
theorem lw_r1 : ∀ q ∈ lw_privs_1, lw_okq q := List.forall_mem_cons.mpr ⟨lw_p0, List.forall_mem_cons.mpr ⟨lw_p1, List.forall_mem_cons.mpr ⟨lw_p2, List.forall_mem_cons.mpr ⟨lw_p3, List.forall_mem_cons.mpr ⟨lw_p4, List.forall_mem_cons.mpr ⟨lw_p5, List.forall_mem_cons.mpr ⟨lw_p6, List.forall_mem_cons.mpr ⟨lw_p7, fun _ h => absurd h List.not_mem_nil⟩⟩⟩⟩⟩⟩⟩⟩
def lw_privs : List (MethodName × Nat) := lw_privs_1
def lw_tbl : List Cond := k2_sels lw_privs ++ tables_1
theorem lw_privs_ok : ∀ q ∈ lw_privs, lw_okq q := lw_r1
-- ===== ONE list of words for every method: the tables' words that hold all through a run =====
def lw_all : List Cond := lw_tbl.filter goodWord
/-- a word of the tables by its place: claim/WORDS.tsv -/
theorem lw_w {w : Cond} (i : Nat) (h : lw_tbl[i]? = some w) (g : goodWord w = true) : w ∈ lw_all := List.mem_filter.mpr ⟨List.mem_of_getElem? h, g⟩
theorem lw_all_tbl {w : Cond} (h : w ∈ lw_all) : w ∈ lw_tbl := (List.mem_filter.mp h).1
theorem lw_self : GoodIn lw_all lw_all := fun w h => ⟨h, good_of_word (List.mem_filter.mp h).2⟩
/-- a class's field words, by their places -/
theorem lw_in (ws : List Cond) (ps : List Nat) (hp : ws = ps.filterMap (fun i => lw_tbl[i]?)) (hg : ws.all goodWord = true) : ∀ w ∈ ws, w ∈ lw_all := by
  intro w h
  have h1 := List.all_eq_true.mp hg w h
  rw [hp] at h
  obtain ⟨i, -, hi⟩ := List.mem_filterMap.mp h
  exact lw_w i hi h1
/-- the words of a contract for the method y with code b, L locals, answer r -/
abbrev ws_ (y : MethodName) (b : ByteArray) (L : Nat) (r : Option FieldType) : List Cond := Cond.code y b L r :: lw_all
theorem lw_meth {y : MethodName} {b : ByteArray} {L : Nat} {r : Option FieldType} (h : Cond.code y b L r ∈ lw_all) : GoodIn lw_all (ws_ y b L r) := by
  intro w hw
  rcases List.mem_cons.mp hw with e | e
  · rw [e]
    exact lw_self _ h
  · exact lw_self _ e
theorem lw_app {a c : List Cond} (ha : ∀ w ∈ a, w ∈ lw_all) (hc : GoodIn lw_all c) : GoodIn lw_all (a ++ c) := by
  intro w hw
  rcases List.mem_append.mp hw with e | e
  · exact lw_self w (ha w e)
  · exact hc w e
/-- what a call through an object asks: cwV n hts (lw_V ..) -/
theorem lw_V {own : String} {idx : Nat} {C : String} {y : MethodName} {b : ByteArray} {L : Nat} {r : Option FieldType} (h1 : Cond.methodLink own idx y ∈ lw_all) (h2 : Cond.instanceMethod y ∈ lw_all) (h3 : Cond.selects C y y ∈ lw_all) (h4 : Cond.initialized C ∈ lw_all) (h5 : Cond.code y b L r ∈ lw_all) : GoodIn lw_all (wsV own idx C y (ws_ y b L r)) := by
  refine lw_app ?_ (lw_meth h5)
  intro w hw
  simp only [List.mem_cons, List.not_mem_nil, or_false] at hw
  rcases hw with e | e | e | e
  · rw [e]; exact h1
  · rw [e]; exact h2
  · rw [e]; exact h3
  · rw [e]; exact h4
/-- what a static call asks: va_cwS n hts (lw_S ..) -/
theorem lw_S {own : String} {idx : Nat} {y : MethodName} {b : ByteArray} {L : Nat} {r : Option FieldType} (h1 : Cond.methodLink own idx y ∈ lw_all) (h2 : Cond.static y ∈ lw_all) (h3 : Cond.initialized y.cls ∈ lw_all) (h4 : Cond.code y b L r ∈ lw_all) : GoodIn lw_all (va_wsS own idx y (ws_ y b L r)) := by
  refine lw_app ?_ (lw_meth h4)
  intro w hw
  simp only [List.mem_cons, List.not_mem_nil, or_false] at hw
  rcases hw with e | e | e
  · rw [e]; exact h1
  · rw [e]; exact h2
  · rw [e]; exact h3
/-- the words of a contract for a method WITH HANDLERS (hh: its table) -/
abbrev wsW_ (y : MethodName) (b : ByteArray) (L : Nat) (r : Option FieldType) (hh : List (Nat × Nat × Nat × Nat)) : List Cond := Cond.codeWith y b L r hh :: lw_all
theorem lw_methW {y : MethodName} {b : ByteArray} {L : Nat} {r : Option FieldType} {hh : List (Nat × Nat × Nat × Nat)} (h : Cond.codeWith y b L r hh ∈ lw_all) : GoodIn lw_all (wsW_ y b L r hh) := by
  intro w hw
  rcases List.mem_cons.mp hw with e | e
  · rw [e]
    exact lw_self _ h
  · exact lw_self _ e
/-- any list of words by their places (lw_in), good -/
theorem lw_good {ws : List Cond} (h : ∀ w ∈ ws, w ∈ lw_all) : GoodIn lw_all ws := fun w hw => lw_self w (h w hw)
/-- what a call of a method with handlers asks: vx_cwVW n hts (lw_VW ..), vx_cwSW n hts (lw_SW ..) -/
theorem lw_VW {own : String} {idx : Nat} {C : String} {y : MethodName} {b : ByteArray} {L : Nat} {r : Option FieldType} {hh : List (Nat × Nat × Nat × Nat)} (h1 : Cond.methodLink own idx y ∈ lw_all) (h2 : Cond.instanceMethod y ∈ lw_all) (h3 : Cond.selects C y y ∈ lw_all) (h4 : Cond.initialized C ∈ lw_all) (h5 : Cond.codeWith y b L r hh ∈ lw_all) : GoodIn lw_all (wsV own idx C y (wsW_ y b L r hh)) := by
  refine lw_app ?_ (lw_methW h5)
  intro w hw
  simp only [List.mem_cons, List.not_mem_nil, or_false] at hw
  rcases hw with e | e | e | e
  · rw [e]; exact h1
  · rw [e]; exact h2
  · rw [e]; exact h3
  · rw [e]; exact h4
theorem lw_SW {own : String} {idx : Nat} {y : MethodName} {b : ByteArray} {L : Nat} {r : Option FieldType} {hh : List (Nat × Nat × Nat × Nat)} (h1 : Cond.methodLink own idx y ∈ lw_all) (h2 : Cond.static y ∈ lw_all) (h3 : Cond.initialized y.cls ∈ lw_all) (h4 : Cond.codeWith y b L r hh ∈ lw_all) : GoodIn lw_all (va_wsS own idx y (wsW_ y b L r hh)) := by
  refine lw_app ?_ (lw_methW h4)
  intro w hw
  simp only [List.mem_cons, List.not_mem_nil, or_false] at hw
  rcases hw with e | e | e
  · rw [e]; exact h1
  · rw [e]; exact h2
  · rw [e]; exact h3
/-- a word by its place in its run of the tables -/
theorem lw_at {r : List Cond} (hr : ∀ w ∈ r, w ∈ lw_tbl) {w : Cond} (i : Nat) (h : r[i]? = some w) : w ∈ lw_tbl := hr w (List.mem_of_getElem? h)
theorem lw_g {w : Cond} (h : w ∈ lw_tbl) (g : goodWord w = true) : w ∈ lw_all := List.mem_filter.mpr ⟨h, g⟩
theorem lw_ms : ∀ w ∈ k2_sels lw_privs, w ∈ lw_tbl := fun w h => show w ∈ k2_sels lw_privs ++ tables_1 from List.mem_append_left _ h
theorem lw_m1 : ∀ w ∈ tables_1_1, w ∈ lw_tbl := fun w h => show w ∈ k2_sels lw_privs ++ tables_1 from List.mem_append_right (k2_sels lw_privs) (show w ∈ tables_1 from List.mem_append_left _ h)
theorem lw_m2 : ∀ w ∈ tables_1_2, w ∈ lw_tbl := fun w h => show w ∈ k2_sels lw_privs ++ tables_1 from List.mem_append_right (k2_sels lw_privs) (show w ∈ tables_1 from List.mem_append_right _ h)
theorem qs0 : (Cond.selects "RcFourDesk" ⟨"RcFourDesk", "from", "(I)I"⟩ ⟨"RcFourDesk", "from", "(I)I"⟩) ∈ lw_all := lw_g (lw_at lw_ms 0 rfl) rfl
theorem qs1 : (Cond.selects "RC4Engine" ⟨"RC4Engine", "setKey", "([B)V"⟩ ⟨"RC4Engine", "setKey", "([B)V"⟩) ∈ lw_all := lw_g (lw_at lw_ms 1 rfl) rfl
theorem qs2 : (Cond.selects "java/lang/Throwable" ⟨"java/lang/Throwable", "fillInStackTrace", "(I)Ljava/lang/Throwable;"⟩ ⟨"java/lang/Throwable", "fillInStackTrace", "(I)Ljava/lang/Throwable;"⟩) ∈ lw_all := lw_g (lw_at lw_ms 2 rfl) rfl
theorem qs3 : (Cond.selects "RcFourDesk" ⟨"RcFourDesk", "count", "(II)I"⟩ ⟨"RcFourDesk", "count", "(II)I"⟩) ∈ lw_all := lw_g (lw_at lw_ms 3 rfl) rfl
theorem qs4 : (Cond.selects "RcFourDeskModel" ⟨"RcFourDeskModel", "from", "(I)I"⟩ ⟨"RcFourDeskModel", "from", "(I)I"⟩) ∈ lw_all := lw_g (lw_at lw_ms 4 rfl) rfl
theorem qs5 : (Cond.selects "RcFourDeskModel" ⟨"RcFourDeskModel", "lays", "()V"⟩ ⟨"RcFourDeskModel", "lays", "()V"⟩) ∈ lw_all := lw_g (lw_at lw_ms 5 rfl) rfl
theorem qs6 : (Cond.selects "RcFourDeskModel" ⟨"RcFourDeskModel", "swaps", "(II)V"⟩ ⟨"RcFourDeskModel", "swaps", "(II)V"⟩) ∈ lw_all := lw_g (lw_at lw_ms 6 rfl) rfl
theorem qs7 : (Cond.selects "RcFourDeskModel" ⟨"RcFourDeskModel", "next", "()I"⟩ ⟨"RcFourDeskModel", "next", "()I"⟩) ∈ lw_all := lw_g (lw_at lw_ms 7 rfl) rfl
end
section
/-! DECODE ROWS BY BYTES: one lemma an opcode; a method's code is cut into short pieces once, and a row reads its own piece alone. -/
set_option maxRecDepth 100000
/-- the code has just these bytes from pc on -/
def DkAt (code : ByteArray) (pc : Nat) (bs : List UInt8) : Prop := ∀ (j : Nat) (b : UInt8), bs[j]? = some b → code.data.toList[pc + j]? = some b
/-- the piece W has the bytes bs from its place j on -/
def dkIn (W : List UInt8) (j : Nat) (bs : List UInt8) : Bool := decide ((W.drop j).take bs.length = bs)
theorem dk_seg {l W T : List UInt8} {o o2 : Nat} (h : l.drop o = W ++ T) (n : Nat) (hn : W.length = n) (ho : o + n = o2) : l.drop o2 = T := by
  subst ho
  rw [← List.drop_drop, h, List.drop_left' hn]
theorem dk_at {code : ByteArray} {W T bs : List UInt8} {o pc : Nat} (h : code.data.toList.drop o = W ++ T) (j : Nat) (hp : o + j = pc) (hw : dkIn W j bs = true) : DkAt code pc bs := by
  subst hp
  intro i b e
  have h1 := of_decide_eq_true hw
  have h2 : i < bs.length := (List.getElem?_eq_some_iff.mp e).1
  have h3 : W[j + i]? = some b := by
    rw [← h1, List.getElem?_take, if_pos h2, List.getElem?_drop] at e
    exact e
  have h4 : j + i < W.length := (List.getElem?_eq_some_iff.mp h3).1
  have h5 : (code.data.toList.drop o)[j + i]? = some b := by
    rw [h, List.getElem?_append_left h4]
    exact h3
  rw [List.getElem?_drop, ← Nat.add_assoc] at h5
  exact h5
theorem dk_u1 {A : ByteArray} {p : Nat} {b : UInt8} (h : A.data.toList[p]? = some b) : (Reader.u1 : Reader DecodeError Nat) A p = .ok (b.toNat, p + 1) := by
  obtain ⟨h1, h2⟩ := List.getElem?_eq_some_iff.mp h
  have h3 : p < A.size := by simpa using h1
  have h4 : A[p]'h3 = b := h2
  have e : (Reader.u1 : Reader DecodeError Nat) A p = (if h : p < A.size then .ok (A[p].toNat, p + 1) else .error (HasTruncated.truncated p)) := by
    show (do if h : p < A.size then do set (p + 1); Pure.pure A[p].toNat else MonadExcept.throw (HasTruncated.truncated p) : Reader DecodeError Nat) A p = _
    by_cases hi : p < A.size
    · rw [dif_pos hi, dif_pos hi]; rfl
    · rw [dif_neg hi, dif_neg hi]; rfl
  rw [e, dif_pos h3, h4]
theorem dk_bind {α β : Type} {r : Reader DecodeError α} {f : α → Reader DecodeError β} {A : ByteArray} {p s : Nat} {a : α} (h : r A p = .ok (a, s)) : (r >>= f) A p = f a A s := by
  show (do let (a, s) ← r A p; f a A s : Except DecodeError (β × Nat)) = _
  rw [h]
  rfl
theorem dk_map {α β : Type} {r : Reader DecodeError α} {g : α → β} {A : ByteArray} {p s : Nat} {a : α} (h : r A p = .ok (a, s)) : (g <$> r) A p = .ok (g a, s) := by
  show (do let (a, s) ← r A p; .ok (g a, s) : Except DecodeError (β × Nat)) = _
  rw [h]
  rfl
theorem dk_u2 {A : ByteArray} {p : Nat} {a b : UInt8} (h : A.data.toList[p]? = some a) (h2 : A.data.toList[p + 1]? = some b) : (Reader.u2 : Reader DecodeError Nat) A p = .ok (a.toNat * 256 + b.toNat, p + 2) := by
  show (Reader.u1 >>= fun hi => Reader.u1 >>= fun lo => Pure.pure (hi * 256 + lo) : Reader DecodeError Nat) A p = _
  rw [dk_bind (dk_u1 h), dk_bind (dk_u1 h2)]
  rfl
theorem dk_of {code : ByteArray} {pc n : Nat} {i : Instr} (h : Decoder.instr pc code pc = .ok (i, pc + n)) : decode code pc = .ok (i, n) := by
  have e : decode code pc = (match Decoder.instr pc code pc with | .error x => .error x | .ok (j, s) => .ok (j, s - pc)) := by
    show (do let (j, s) ← Decoder.instr pc code pc; Pure.pure (j, s - pc) : Except DecodeError (Instr × Nat)) = _
    cases Decoder.instr pc code pc <;> rfl
  rw [e, h]
  show Except.ok (i, pc + n - pc) = _
  rw [Nat.add_sub_cancel_left]
theorem dk_1 {code : ByteArray} {pc : Nat} (h : DkAt code pc [1]) : decode code pc = .ok (.aconst_null, 1) := dk_of ((dk_bind (dk_u1 (h 0 _ rfl))).trans rfl)
theorem dk_2 {code : ByteArray} {pc : Nat} (h : DkAt code pc [2]) : decode code pc = .ok (.iconst (-1), 1) := dk_of ((dk_bind (dk_u1 (h 0 _ rfl))).trans rfl)
theorem dk_3 {code : ByteArray} {pc : Nat} (h : DkAt code pc [3]) : decode code pc = .ok (.iconst 0, 1) := dk_of ((dk_bind (dk_u1 (h 0 _ rfl))).trans rfl)
theorem dk_4 {code : ByteArray} {pc : Nat} (h : DkAt code pc [4]) : decode code pc = .ok (.iconst 1, 1) := dk_of ((dk_bind (dk_u1 (h 0 _ rfl))).trans rfl)
theorem dk_5 {code : ByteArray} {pc : Nat} (h : DkAt code pc [5]) : decode code pc = .ok (.iconst 2, 1) := dk_of ((dk_bind (dk_u1 (h 0 _ rfl))).trans rfl)
theorem dk_6 {code : ByteArray} {pc : Nat} (h : DkAt code pc [6]) : decode code pc = .ok (.iconst 3, 1) := dk_of ((dk_bind (dk_u1 (h 0 _ rfl))).trans rfl)
theorem dk_7 {code : ByteArray} {pc : Nat} (h : DkAt code pc [7]) : decode code pc = .ok (.iconst 4, 1) := dk_of ((dk_bind (dk_u1 (h 0 _ rfl))).trans rfl)
theorem dk_8 {code : ByteArray} {pc : Nat} (h : DkAt code pc [8]) : decode code pc = .ok (.iconst 5, 1) := dk_of ((dk_bind (dk_u1 (h 0 _ rfl))).trans rfl)
theorem dk_16 {code : ByteArray} {pc : Nat} (a : UInt8) (h : DkAt code pc [16, a]) : decode code pc = .ok (.bipush (Reader.signed 8 a.toNat), 2) := dk_of ((dk_bind (dk_u1 (h 0 _ rfl))).trans ((dk_bind (dk_map (dk_u1 (h 1 _ rfl)))).trans rfl))
theorem dk_17 {code : ByteArray} {pc : Nat} (a b : UInt8) (h : DkAt code pc [17, a, b]) : decode code pc = .ok (.sipush (Reader.signed 16 (a.toNat * 256 + b.toNat)), 3) := dk_of ((dk_bind (dk_u1 (h 0 _ rfl))).trans ((dk_bind (dk_map (dk_u2 (h 1 _ rfl) (h 2 _ rfl)))).trans rfl))
theorem dk_18 {code : ByteArray} {pc : Nat} (a : UInt8) (h : DkAt code pc [18, a]) : decode code pc = .ok (.ldc a.toNat, 2) := dk_of ((dk_bind (dk_u1 (h 0 _ rfl))).trans ((dk_bind (dk_u1 (h 1 _ rfl))).trans rfl))
theorem dk_21 {code : ByteArray} {pc : Nat} (a : UInt8) (h : DkAt code pc [21, a]) : decode code pc = .ok (.iload a.toNat, 2) := dk_of ((dk_bind (dk_u1 (h 0 _ rfl))).trans ((dk_bind (dk_u1 (h 1 _ rfl))).trans rfl))
theorem dk_25 {code : ByteArray} {pc : Nat} (a : UInt8) (h : DkAt code pc [25, a]) : decode code pc = .ok (.aload a.toNat, 2) := dk_of ((dk_bind (dk_u1 (h 0 _ rfl))).trans ((dk_bind (dk_u1 (h 1 _ rfl))).trans rfl))
theorem dk_27 {code : ByteArray} {pc : Nat} (h : DkAt code pc [27]) : decode code pc = .ok (.iload_n 1, 1) := dk_of ((dk_bind (dk_u1 (h 0 _ rfl))).trans rfl)
theorem dk_28 {code : ByteArray} {pc : Nat} (h : DkAt code pc [28]) : decode code pc = .ok (.iload_n 2, 1) := dk_of ((dk_bind (dk_u1 (h 0 _ rfl))).trans rfl)
theorem dk_29 {code : ByteArray} {pc : Nat} (h : DkAt code pc [29]) : decode code pc = .ok (.iload_n 3, 1) := dk_of ((dk_bind (dk_u1 (h 0 _ rfl))).trans rfl)
theorem dk_42 {code : ByteArray} {pc : Nat} (h : DkAt code pc [42]) : decode code pc = .ok (.aload_n 0, 1) := dk_of ((dk_bind (dk_u1 (h 0 _ rfl))).trans rfl)
theorem dk_43 {code : ByteArray} {pc : Nat} (h : DkAt code pc [43]) : decode code pc = .ok (.aload_n 1, 1) := dk_of ((dk_bind (dk_u1 (h 0 _ rfl))).trans rfl)
theorem dk_44 {code : ByteArray} {pc : Nat} (h : DkAt code pc [44]) : decode code pc = .ok (.aload_n 2, 1) := dk_of ((dk_bind (dk_u1 (h 0 _ rfl))).trans rfl)
theorem dk_45 {code : ByteArray} {pc : Nat} (h : DkAt code pc [45]) : decode code pc = .ok (.aload_n 3, 1) := dk_of ((dk_bind (dk_u1 (h 0 _ rfl))).trans rfl)
theorem dk_46 {code : ByteArray} {pc : Nat} (h : DkAt code pc [46]) : decode code pc = .ok (.iaload, 1) := dk_of ((dk_bind (dk_u1 (h 0 _ rfl))).trans rfl)
theorem dk_51 {code : ByteArray} {pc : Nat} (h : DkAt code pc [51]) : decode code pc = .ok (.baload, 1) := dk_of ((dk_bind (dk_u1 (h 0 _ rfl))).trans rfl)
theorem dk_54 {code : ByteArray} {pc : Nat} (a : UInt8) (h : DkAt code pc [54, a]) : decode code pc = .ok (.istore a.toNat, 2) := dk_of ((dk_bind (dk_u1 (h 0 _ rfl))).trans ((dk_bind (dk_u1 (h 1 _ rfl))).trans rfl))
theorem dk_58 {code : ByteArray} {pc : Nat} (a : UInt8) (h : DkAt code pc [58, a]) : decode code pc = .ok (.astore a.toNat, 2) := dk_of ((dk_bind (dk_u1 (h 0 _ rfl))).trans ((dk_bind (dk_u1 (h 1 _ rfl))).trans rfl))
theorem dk_60 {code : ByteArray} {pc : Nat} (h : DkAt code pc [60]) : decode code pc = .ok (.istore_n 1, 1) := dk_of ((dk_bind (dk_u1 (h 0 _ rfl))).trans rfl)
theorem dk_61 {code : ByteArray} {pc : Nat} (h : DkAt code pc [61]) : decode code pc = .ok (.istore_n 2, 1) := dk_of ((dk_bind (dk_u1 (h 0 _ rfl))).trans rfl)
theorem dk_62 {code : ByteArray} {pc : Nat} (h : DkAt code pc [62]) : decode code pc = .ok (.istore_n 3, 1) := dk_of ((dk_bind (dk_u1 (h 0 _ rfl))).trans rfl)
theorem dk_76 {code : ByteArray} {pc : Nat} (h : DkAt code pc [76]) : decode code pc = .ok (.astore_n 1, 1) := dk_of ((dk_bind (dk_u1 (h 0 _ rfl))).trans rfl)
theorem dk_77 {code : ByteArray} {pc : Nat} (h : DkAt code pc [77]) : decode code pc = .ok (.astore_n 2, 1) := dk_of ((dk_bind (dk_u1 (h 0 _ rfl))).trans rfl)
theorem dk_78 {code : ByteArray} {pc : Nat} (h : DkAt code pc [78]) : decode code pc = .ok (.astore_n 3, 1) := dk_of ((dk_bind (dk_u1 (h 0 _ rfl))).trans rfl)
theorem dk_79 {code : ByteArray} {pc : Nat} (h : DkAt code pc [79]) : decode code pc = .ok (.iastore, 1) := dk_of ((dk_bind (dk_u1 (h 0 _ rfl))).trans rfl)
theorem dk_84 {code : ByteArray} {pc : Nat} (h : DkAt code pc [84]) : decode code pc = .ok (.bastore, 1) := dk_of ((dk_bind (dk_u1 (h 0 _ rfl))).trans rfl)
theorem dk_87 {code : ByteArray} {pc : Nat} (h : DkAt code pc [87]) : decode code pc = .ok (.pop, 1) := dk_of ((dk_bind (dk_u1 (h 0 _ rfl))).trans rfl)
theorem dk_89 {code : ByteArray} {pc : Nat} (h : DkAt code pc [89]) : decode code pc = .ok (.dup, 1) := dk_of ((dk_bind (dk_u1 (h 0 _ rfl))).trans rfl)
theorem dk_96 {code : ByteArray} {pc : Nat} (h : DkAt code pc [96]) : decode code pc = .ok (.iadd, 1) := dk_of ((dk_bind (dk_u1 (h 0 _ rfl))).trans rfl)
theorem dk_100 {code : ByteArray} {pc : Nat} (h : DkAt code pc [100]) : decode code pc = .ok (.isub, 1) := dk_of ((dk_bind (dk_u1 (h 0 _ rfl))).trans rfl)
theorem dk_104 {code : ByteArray} {pc : Nat} (h : DkAt code pc [104]) : decode code pc = .ok (.imul, 1) := dk_of ((dk_bind (dk_u1 (h 0 _ rfl))).trans rfl)
theorem dk_112 {code : ByteArray} {pc : Nat} (h : DkAt code pc [112]) : decode code pc = .ok (.irem, 1) := dk_of ((dk_bind (dk_u1 (h 0 _ rfl))).trans rfl)
theorem dk_120 {code : ByteArray} {pc : Nat} (h : DkAt code pc [120]) : decode code pc = .ok (.ishl, 1) := dk_of ((dk_bind (dk_u1 (h 0 _ rfl))).trans rfl)
theorem dk_122 {code : ByteArray} {pc : Nat} (h : DkAt code pc [122]) : decode code pc = .ok (.ishr, 1) := dk_of ((dk_bind (dk_u1 (h 0 _ rfl))).trans rfl)
theorem dk_126 {code : ByteArray} {pc : Nat} (h : DkAt code pc [126]) : decode code pc = .ok (.iand, 1) := dk_of ((dk_bind (dk_u1 (h 0 _ rfl))).trans rfl)
theorem dk_130 {code : ByteArray} {pc : Nat} (h : DkAt code pc [130]) : decode code pc = .ok (.ixor, 1) := dk_of ((dk_bind (dk_u1 (h 0 _ rfl))).trans rfl)
theorem dk_132 {code : ByteArray} {pc : Nat} (a b : UInt8) (h : DkAt code pc [132, a, b]) : decode code pc = .ok (.iinc a.toNat (Reader.signed 8 b.toNat), 3) := dk_of ((dk_bind (dk_u1 (h 0 _ rfl))).trans ((dk_bind (dk_u1 (h 1 _ rfl))).trans ((dk_bind (dk_map (dk_u1 (h 2 _ rfl)))).trans rfl)))
theorem dk_145 {code : ByteArray} {pc : Nat} (h : DkAt code pc [145]) : decode code pc = .ok (.i2b, 1) := dk_of ((dk_bind (dk_u1 (h 0 _ rfl))).trans rfl)
theorem dk_153 {code : ByteArray} {pc : Nat} (a b : UInt8) (h : DkAt code pc [153, a, b]) : decode code pc = .ok (.ifCond .eq (Reader.signed 16 (a.toNat * 256 + b.toNat)), 3) := dk_of ((dk_bind (dk_u1 (h 0 _ rfl))).trans ((dk_bind (dk_map (dk_u2 (h 1 _ rfl) (h 2 _ rfl)))).trans rfl))
theorem dk_154 {code : ByteArray} {pc : Nat} (a b : UInt8) (h : DkAt code pc [154, a, b]) : decode code pc = .ok (.ifCond .ne (Reader.signed 16 (a.toNat * 256 + b.toNat)), 3) := dk_of ((dk_bind (dk_u1 (h 0 _ rfl))).trans ((dk_bind (dk_map (dk_u2 (h 1 _ rfl) (h 2 _ rfl)))).trans rfl))
theorem dk_158 {code : ByteArray} {pc : Nat} (a b : UInt8) (h : DkAt code pc [158, a, b]) : decode code pc = .ok (.ifCond .le (Reader.signed 16 (a.toNat * 256 + b.toNat)), 3) := dk_of ((dk_bind (dk_u1 (h 0 _ rfl))).trans ((dk_bind (dk_map (dk_u2 (h 1 _ rfl) (h 2 _ rfl)))).trans rfl))
theorem dk_159 {code : ByteArray} {pc : Nat} (a b : UInt8) (h : DkAt code pc [159, a, b]) : decode code pc = .ok (.if_icmp .eq (Reader.signed 16 (a.toNat * 256 + b.toNat)), 3) := dk_of ((dk_bind (dk_u1 (h 0 _ rfl))).trans ((dk_bind (dk_map (dk_u2 (h 1 _ rfl) (h 2 _ rfl)))).trans rfl))
theorem dk_161 {code : ByteArray} {pc : Nat} (a b : UInt8) (h : DkAt code pc [161, a, b]) : decode code pc = .ok (.if_icmp .lt (Reader.signed 16 (a.toNat * 256 + b.toNat)), 3) := dk_of ((dk_bind (dk_u1 (h 0 _ rfl))).trans ((dk_bind (dk_map (dk_u2 (h 1 _ rfl) (h 2 _ rfl)))).trans rfl))
theorem dk_162 {code : ByteArray} {pc : Nat} (a b : UInt8) (h : DkAt code pc [162, a, b]) : decode code pc = .ok (.if_icmp .ge (Reader.signed 16 (a.toNat * 256 + b.toNat)), 3) := dk_of ((dk_bind (dk_u1 (h 0 _ rfl))).trans ((dk_bind (dk_map (dk_u2 (h 1 _ rfl) (h 2 _ rfl)))).trans rfl))
theorem dk_163 {code : ByteArray} {pc : Nat} (a b : UInt8) (h : DkAt code pc [163, a, b]) : decode code pc = .ok (.if_icmp .gt (Reader.signed 16 (a.toNat * 256 + b.toNat)), 3) := dk_of ((dk_bind (dk_u1 (h 0 _ rfl))).trans ((dk_bind (dk_map (dk_u2 (h 1 _ rfl) (h 2 _ rfl)))).trans rfl))
theorem dk_164 {code : ByteArray} {pc : Nat} (a b : UInt8) (h : DkAt code pc [164, a, b]) : decode code pc = .ok (.if_icmp .le (Reader.signed 16 (a.toNat * 256 + b.toNat)), 3) := dk_of ((dk_bind (dk_u1 (h 0 _ rfl))).trans ((dk_bind (dk_map (dk_u2 (h 1 _ rfl) (h 2 _ rfl)))).trans rfl))
theorem dk_167 {code : ByteArray} {pc : Nat} (a b : UInt8) (h : DkAt code pc [167, a, b]) : decode code pc = .ok (.goto (Reader.signed 16 (a.toNat * 256 + b.toNat)), 3) := dk_of ((dk_bind (dk_u1 (h 0 _ rfl))).trans ((dk_bind (dk_map (dk_u2 (h 1 _ rfl) (h 2 _ rfl)))).trans rfl))
theorem dk_172 {code : ByteArray} {pc : Nat} (h : DkAt code pc [172]) : decode code pc = .ok (.ireturn, 1) := dk_of ((dk_bind (dk_u1 (h 0 _ rfl))).trans rfl)
theorem dk_177 {code : ByteArray} {pc : Nat} (h : DkAt code pc [177]) : decode code pc = .ok (.return_, 1) := dk_of ((dk_bind (dk_u1 (h 0 _ rfl))).trans rfl)
theorem dk_178 {code : ByteArray} {pc : Nat} (a b : UInt8) (h : DkAt code pc [178, a, b]) : decode code pc = .ok (.getstatic (a.toNat * 256 + b.toNat), 3) := dk_of ((dk_bind (dk_u1 (h 0 _ rfl))).trans ((dk_bind (dk_u2 (h 1 _ rfl) (h 2 _ rfl))).trans rfl))
theorem dk_180 {code : ByteArray} {pc : Nat} (a b : UInt8) (h : DkAt code pc [180, a, b]) : decode code pc = .ok (.getfield (a.toNat * 256 + b.toNat), 3) := dk_of ((dk_bind (dk_u1 (h 0 _ rfl))).trans ((dk_bind (dk_u2 (h 1 _ rfl) (h 2 _ rfl))).trans rfl))
theorem dk_181 {code : ByteArray} {pc : Nat} (a b : UInt8) (h : DkAt code pc [181, a, b]) : decode code pc = .ok (.putfield (a.toNat * 256 + b.toNat), 3) := dk_of ((dk_bind (dk_u1 (h 0 _ rfl))).trans ((dk_bind (dk_u2 (h 1 _ rfl) (h 2 _ rfl))).trans rfl))
theorem dk_182 {code : ByteArray} {pc : Nat} (a b : UInt8) (h : DkAt code pc [182, a, b]) : decode code pc = .ok (.invokevirtual (a.toNat * 256 + b.toNat), 3) := dk_of ((dk_bind (dk_u1 (h 0 _ rfl))).trans ((dk_bind (dk_u2 (h 1 _ rfl) (h 2 _ rfl))).trans rfl))
theorem dk_183 {code : ByteArray} {pc : Nat} (a b : UInt8) (h : DkAt code pc [183, a, b]) : decode code pc = .ok (.invokespecial (a.toNat * 256 + b.toNat), 3) := dk_of ((dk_bind (dk_u1 (h 0 _ rfl))).trans ((dk_bind (dk_u2 (h 1 _ rfl) (h 2 _ rfl))).trans rfl))
theorem dk_184 {code : ByteArray} {pc : Nat} (a b : UInt8) (h : DkAt code pc [184, a, b]) : decode code pc = .ok (.invokestatic (a.toNat * 256 + b.toNat), 3) := dk_of ((dk_bind (dk_u1 (h 0 _ rfl))).trans ((dk_bind (dk_u2 (h 1 _ rfl) (h 2 _ rfl))).trans rfl))
theorem dk_187 {code : ByteArray} {pc : Nat} (a b : UInt8) (h : DkAt code pc [187, a, b]) : decode code pc = .ok (.new (a.toNat * 256 + b.toNat), 3) := dk_of ((dk_bind (dk_u1 (h 0 _ rfl))).trans ((dk_bind (dk_u2 (h 1 _ rfl) (h 2 _ rfl))).trans rfl))
theorem dk_188_8 {code : ByteArray} {pc : Nat} (h : DkAt code pc [188, 8]) : decode code pc = .ok (.newarray .byte, 2) := dk_of ((dk_bind (dk_u1 (h 0 _ rfl))).trans ((dk_bind (dk_u1 (h 1 _ rfl))).trans rfl))
theorem dk_188_10 {code : ByteArray} {pc : Nat} (h : DkAt code pc [188, 10]) : decode code pc = .ok (.newarray .int, 2) := dk_of ((dk_bind (dk_u1 (h 0 _ rfl))).trans ((dk_bind (dk_u1 (h 1 _ rfl))).trans rfl))
theorem dk_190 {code : ByteArray} {pc : Nat} (h : DkAt code pc [190]) : decode code pc = .ok (.arraylength, 1) := dk_of ((dk_bind (dk_u1 (h 0 _ rfl))).trans rfl)
theorem dk_191 {code : ByteArray} {pc : Nat} (h : DkAt code pc [191]) : decode code pc = .ok (.athrow, 1) := dk_of ((dk_bind (dk_u1 (h 0 _ rfl))).trans rfl)
theorem dk_192 {code : ByteArray} {pc : Nat} (a b : UInt8) (h : DkAt code pc [192, a, b]) : decode code pc = .ok (.checkcast (a.toNat * 256 + b.toNat), 3) := dk_of ((dk_bind (dk_u1 (h 0 _ rfl))).trans ((dk_bind (dk_u2 (h 1 _ rfl) (h 2 _ rfl))).trans rfl))
theorem dk_193 {code : ByteArray} {pc : Nat} (a b : UInt8) (h : DkAt code pc [193, a, b]) : decode code pc = .ok (.instanceof (a.toNat * 256 + b.toNat), 3) := dk_of ((dk_bind (dk_u1 (h 0 _ rfl))).trans ((dk_bind (dk_u2 (h 1 _ rfl) (h 2 _ rfl))).trans rfl))
theorem dk_199 {code : ByteArray} {pc : Nat} (a b : UInt8) (h : DkAt code pc [199, a, b]) : decode code pc = .ok (.ifnonnull (Reader.signed 16 (a.toNat * 256 + b.toNat)), 3) := dk_of ((dk_bind (dk_u1 (h 0 _ rfl))).trans ((dk_bind (dk_map (dk_u2 (h 1 _ rfl) (h 2 _ rfl)))).trans rfl))
theorem q76 : (Jvm.Cond.arrayClass Jvm.ClassFile.FieldType.byte) ∈ lw_all := lw_g (lw_at lw_m1 68 rfl) rfl
set_option maxRecDepth 100000
theorem q307 : (Jvm.Cond.arrayClass Jvm.ClassFile.FieldType.int) ∈ lw_all := lw_g (lw_at lw_m2 59 rfl) rfl
theorem q13 : (Jvm.Cond.initialized "java/lang/System") ∈ lw_all := lw_g (lw_at lw_m1 5 rfl) rfl
set_option maxRecDepth 100000
theorem q122 : (Jvm.Cond.static ({ cls := "java/lang/System", name := "arraycopy", desc := "(Ljava/lang/Object;ILjava/lang/Object;II)V" } : Jvm.MethodName)) ∈ lw_all := lw_g (lw_at lw_m1 114 rfl) rfl
theorem q123 : (Jvm.Cond.native ({ cls := "java/lang/System", name := "arraycopy", desc := "(Ljava/lang/Object;ILjava/lang/Object;II)V" } : Jvm.MethodName)) ∈ lw_all := lw_g (lw_at lw_m1 115 rfl) rfl
/-! java/lang/Object -/
set_option maxRecDepth 100000
def RJ4 : String := "java/lang/Object"
abbrev cJ4_init : ByteArray := object_method_1_code
def yJ4_init : MethodName := ⟨RJ4, "<init>", "()V"⟩
theorem dJ4_init_0 : decode cJ4_init 0 = .ok (.return_, 1) := by decide +kernel
theorem q27 : (Jvm.Cond.instanceMethod ({ cls := "java/lang/Object", name := "<init>", desc := "()V" } : Jvm.MethodName)) ∈ lw_all := lw_g (lw_at lw_m1 19 rfl) rfl
theorem q28 : (Jvm.Cond.code ({ cls := "java/lang/Object", name := "<init>", desc := "()V" } : Jvm.MethodName) object_method_1_code (1 : Nat) (Option.none : Option Jvm.ClassFile.FieldType)) ∈ lw_all := lw_g (lw_at lw_m1 20 rfl) rfl
/-! KeyParameter -/
set_option maxRecDepth 100000
def RX3 : String := "KeyParameter"
def TX3 : u_T := fun k => match k with
  | _ => ("KeyParameter", "key", "[B", false)
def tyX3 : Nat → FieldType := fun k => match k with
  | _ => .array .byte
abbrev wsX30 : List Cond := u_ws RX3 TX3 1
theorem nmX3 : ∀ a, a < 1 → ∀ b, b < 1 → a ≠ b → (TX3 a).2.1 ≠ (TX3 b).2.1 := by decide +kernel
theorem tyX3_ok : ∀ k, k < 1 → parseFieldDescriptor (TX3 k).2.2.1 = some (tyX3 k) := by decide +kernel
abbrev cX3_init : ByteArray := prog_3_method_1_code
def yX3_init : MethodName := ⟨RX3, "<init>", "([B)V"⟩
def dkwX3_init_0 : List UInt8 := [42, 43, 3, 43, 190, 183, 0, 1, 177]
abbrev dktX3_init_0 : List UInt8 := dkwX3_init_0 ++ []
theorem dksX3_init_0 : cX3_init.data.toList.drop 0 = dktX3_init_0 := by decide +kernel
theorem dX3_init_0 : decode cX3_init 0 = .ok (.aload_n 0, 1) := dk_42 (dk_at dksX3_init_0 0 rfl rfl)
theorem dX3_init_1 : decode cX3_init 1 = .ok (.aload_n 1, 1) := dk_43 (dk_at dksX3_init_0 1 rfl rfl)
theorem dX3_init_2 : decode cX3_init 2 = .ok (.iconst 0, 1) := dk_3 (dk_at dksX3_init_0 2 rfl rfl)
theorem dX3_init_3 : decode cX3_init 3 = .ok (.aload_n 1, 1) := dk_43 (dk_at dksX3_init_0 3 rfl rfl)
theorem dX3_init_4 : decode cX3_init 4 = .ok (.arraylength, 1) := dk_190 (dk_at dksX3_init_0 4 rfl rfl)
theorem dX3_init_5 : decode cX3_init 5 = .ok (.invokespecial 1, 3) := dk_183 0 1 (dk_at dksX3_init_0 5 rfl rfl)
theorem dX3_init_8 : decode cX3_init 8 = .ok (.return_, 1) := dk_177 (dk_at dksX3_init_0 8 rfl rfl)
abbrev cX3_init_2 : ByteArray := prog_3_method_2_code
def yX3_init_2 : MethodName := ⟨RX3, "<init>", "([BII)V"⟩
def dkwX3_init_2_0 : List UInt8 := [42, 29, 183, 0, 7, 43, 28, 42, 180, 0, 10, 3, 29, 184, 0, 14, 177]
abbrev dktX3_init_2_0 : List UInt8 := dkwX3_init_2_0 ++ []
theorem dksX3_init_2_0 : cX3_init_2.data.toList.drop 0 = dktX3_init_2_0 := by decide +kernel
theorem dX3_init_2_0 : decode cX3_init_2 0 = .ok (.aload_n 0, 1) := dk_42 (dk_at dksX3_init_2_0 0 rfl rfl)
theorem dX3_init_2_1 : decode cX3_init_2 1 = .ok (.iload_n 3, 1) := dk_29 (dk_at dksX3_init_2_0 1 rfl rfl)
theorem dX3_init_2_2 : decode cX3_init_2 2 = .ok (.invokespecial 7, 3) := dk_183 0 7 (dk_at dksX3_init_2_0 2 rfl rfl)
theorem dX3_init_2_5 : decode cX3_init_2 5 = .ok (.aload_n 1, 1) := dk_43 (dk_at dksX3_init_2_0 5 rfl rfl)
theorem dX3_init_2_6 : decode cX3_init_2 6 = .ok (.iload_n 2, 1) := dk_28 (dk_at dksX3_init_2_0 6 rfl rfl)
theorem dX3_init_2_7 : decode cX3_init_2 7 = .ok (.aload_n 0, 1) := dk_42 (dk_at dksX3_init_2_0 7 rfl rfl)
theorem dX3_init_2_8 : decode cX3_init_2 8 = .ok (.getfield 10, 3) := dk_180 0 10 (dk_at dksX3_init_2_0 8 rfl rfl)
theorem dX3_init_2_11 : decode cX3_init_2 11 = .ok (.iconst 0, 1) := dk_3 (dk_at dksX3_init_2_0 11 rfl rfl)
theorem dX3_init_2_12 : decode cX3_init_2 12 = .ok (.iload_n 3, 1) := dk_29 (dk_at dksX3_init_2_0 12 rfl rfl)
theorem dX3_init_2_13 : decode cX3_init_2 13 = .ok (.invokestatic 14, 3) := dk_184 0 14 (dk_at dksX3_init_2_0 13 rfl rfl)
theorem dX3_init_2_16 : decode cX3_init_2 16 = .ok (.return_, 1) := dk_177 (dk_at dksX3_init_2_0 16 rfl rfl)
abbrev cX3_init_3 : ByteArray := prog_3_method_3_code
def yX3_init_3 : MethodName := ⟨RX3, "<init>", "(I)V"⟩
def dkwX3_init_3_0 : List UInt8 := [42, 183, 0, 20, 42, 27, 188, 8, 181, 0, 10, 177]
abbrev dktX3_init_3_0 : List UInt8 := dkwX3_init_3_0 ++ []
theorem dksX3_init_3_0 : cX3_init_3.data.toList.drop 0 = dktX3_init_3_0 := by decide +kernel
theorem dX3_init_3_0 : decode cX3_init_3 0 = .ok (.aload_n 0, 1) := dk_42 (dk_at dksX3_init_3_0 0 rfl rfl)
theorem dX3_init_3_1 : decode cX3_init_3 1 = .ok (.invokespecial 20, 3) := dk_183 0 20 (dk_at dksX3_init_3_0 1 rfl rfl)
theorem dX3_init_3_4 : decode cX3_init_3 4 = .ok (.aload_n 0, 1) := dk_42 (dk_at dksX3_init_3_0 4 rfl rfl)
theorem dX3_init_3_5 : decode cX3_init_3 5 = .ok (.iload_n 1, 1) := dk_27 (dk_at dksX3_init_3_0 5 rfl rfl)
theorem dX3_init_3_6 : decode cX3_init_3 6 = .ok (.newarray .byte, 2) := dk_188_8 (dk_at dksX3_init_3_0 6 rfl rfl)
theorem dX3_init_3_8 : decode cX3_init_3 8 = .ok (.putfield 10, 3) := dk_181 0 10 (dk_at dksX3_init_3_0 8 rfl rfl)
theorem dX3_init_3_11 : decode cX3_init_3 11 = .ok (.return_, 1) := dk_177 (dk_at dksX3_init_3_0 11 rfl rfl)
abbrev cX3_getKey : ByteArray := prog_3_method_4_code
def yX3_getKey : MethodName := ⟨RX3, "getKey", "()[B"⟩
theorem dX3_getKey_0 : decode cX3_getKey 0 = .ok (.aload_n 0, 1) := by decide +kernel
theorem dX3_getKey_1 : decode cX3_getKey 1 = .ok (.getfield 10, 3) := by decide +kernel
theorem dX3_getKey_4 : decode cX3_getKey 4 = .ok (.areturn, 1) := by decide +kernel
theorem q12 : (Jvm.Cond.initialized "KeyParameter") ∈ lw_all := lw_g (lw_at lw_m1 4 rfl) rfl
theorem q106 : (Jvm.Cond.instantiable "KeyParameter" (1 : Nat)) ∈ lw_all := lw_g (lw_at lw_m1 98 rfl) rfl
theorem q108 : (Jvm.Cond.instanceMethod ({ cls := "KeyParameter", name := "<init>", desc := "([B)V" } : Jvm.MethodName)) ∈ lw_all := lw_g (lw_at lw_m1 100 rfl) rfl
theorem q109 : (Jvm.Cond.code ({ cls := "KeyParameter", name := "<init>", desc := "([B)V" } : Jvm.MethodName) prog_3_method_1_code (2 : Nat) (Option.none : Option Jvm.ClassFile.FieldType)) ∈ lw_all := lw_g (lw_at lw_m1 101 rfl) rfl
theorem q110 : (Jvm.Cond.methodLink "KeyParameter" (1 : Nat) ({ cls := "KeyParameter", name := "<init>", desc := "([BII)V" } : Jvm.MethodName)) ∈ lw_all := lw_g (lw_at lw_m1 102 rfl) rfl
theorem q111 : (Jvm.Cond.instanceMethod ({ cls := "KeyParameter", name := "<init>", desc := "([BII)V" } : Jvm.MethodName)) ∈ lw_all := lw_g (lw_at lw_m1 103 rfl) rfl
theorem q112 : (Jvm.Cond.code ({ cls := "KeyParameter", name := "<init>", desc := "([BII)V" } : Jvm.MethodName) prog_3_method_2_code (4 : Nat) (Option.none : Option Jvm.ClassFile.FieldType)) ∈ lw_all := lw_g (lw_at lw_m1 104 rfl) rfl
theorem q113 : (Jvm.Cond.methodLink "KeyParameter" (7 : Nat) ({ cls := "KeyParameter", name := "<init>", desc := "(I)V" } : Jvm.MethodName)) ∈ lw_all := lw_g (lw_at lw_m1 105 rfl) rfl
theorem q114 : (Jvm.Cond.instanceMethod ({ cls := "KeyParameter", name := "<init>", desc := "(I)V" } : Jvm.MethodName)) ∈ lw_all := lw_g (lw_at lw_m1 106 rfl) rfl
theorem q115 : (Jvm.Cond.code ({ cls := "KeyParameter", name := "<init>", desc := "(I)V" } : Jvm.MethodName) prog_3_method_3_code (2 : Nat) (Option.none : Option Jvm.ClassFile.FieldType)) ∈ lw_all := lw_g (lw_at lw_m1 107 rfl) rfl
theorem q116 : (Jvm.Cond.methodLink "KeyParameter" (20 : Nat) ({ cls := "java/lang/Object", name := "<init>", desc := "()V" } : Jvm.MethodName)) ∈ lw_all := lw_g (lw_at lw_m1 108 rfl) rfl
theorem q117 : (Jvm.Cond.fieldLink "KeyParameter" (10 : Nat) "KeyParameter" "key" "[B") ∈ lw_all := lw_g (lw_at lw_m1 109 rfl) rfl
theorem q118 : (Jvm.Cond.lays "KeyParameter" "KeyParameter" "key" "[B") ∈ lw_all := lw_g (lw_at lw_m1 110 rfl) rfl
theorem q119 : (Jvm.Cond.soleField "KeyParameter" "key") ∈ lw_all := lw_g (lw_at lw_m1 111 rfl) rfl
theorem q120 : (Jvm.Cond.superclass "KeyParameter" "java/lang/Object") ∈ lw_all := lw_g (lw_at lw_m1 112 rfl) rfl
theorem q121 : (Jvm.Cond.methodLink "KeyParameter" (14 : Nat) ({ cls := "java/lang/System", name := "arraycopy", desc := "(Ljava/lang/Object;ILjava/lang/Object;II)V" } : Jvm.MethodName)) ∈ lw_all := lw_g (lw_at lw_m1 113 rfl) rfl
theorem q130 : (Jvm.Cond.instanceMethod ({ cls := "KeyParameter", name := "getKey", desc := "()[B" } : Jvm.MethodName)) ∈ lw_all := lw_g (lw_at lw_m1 122 rfl) rfl
theorem q131 : (Jvm.Cond.selects "KeyParameter" ({ cls := "KeyParameter", name := "getKey", desc := "()[B" } : Jvm.MethodName) ({ cls := "KeyParameter", name := "getKey", desc := "()[B" } : Jvm.MethodName)) ∈ lw_all := lw_g (lw_at lw_m1 123 rfl) rfl
theorem q132 : (Jvm.Cond.code ({ cls := "KeyParameter", name := "getKey", desc := "()[B" } : Jvm.MethodName) prog_3_method_4_code (1 : Nat) (Option.some (Jvm.ClassFile.FieldType.array Jvm.ClassFile.FieldType.byte))) ∈ lw_all := lw_g (lw_at lw_m1 124 rfl) rfl
theorem in_X3 : ∀ w ∈ wsX30, w ∈ lw_all := lw_in wsX30 [118] (by decide +kernel) (by decide +kernel)
/-! RC4Engine -/
set_option maxRecDepth 100000
def RX1 : String := "RC4Engine"
def TX1 : u_T := fun k => match k with
  | 0 => ("RC4Engine", "engineState", "[B", false)
  | 1 => ("RC4Engine", "x", "I", false)
  | 2 => ("RC4Engine", "y", "I", false)
  | 3 => ("RC4Engine", "workingKey", "[B", false)
  | _ => ("RC4Engine", "forEncryption", "Z", false)
def tyX1 : Nat → FieldType := fun k => match k with
  | 0 => .array .byte
  | 1 => .int
  | 2 => .int
  | 3 => .array .byte
  | _ => .boolean
abbrev wsX10 : List Cond := u_ws RX1 TX1 5
theorem nmX1 : ∀ a, a < 5 → ∀ b, b < 5 → a ≠ b → (TX1 a).2.1 ≠ (TX1 b).2.1 := by decide +kernel
theorem tyX1_ok : ∀ k, k < 5 → parseFieldDescriptor (TX1 k).2.2.1 = some (tyX1 k) := by decide +kernel
abbrev cX1_init : ByteArray := prog_5_method_1_code
def yX1_init : MethodName := ⟨RX1, "<init>", "()V"⟩
def dkwX1_init_1 : List UInt8 := [177]
abbrev dktX1_init_1 : List UInt8 := dkwX1_init_1 ++ []
def dkwX1_init_0 : List UInt8 := [42, 183, 0, 1, 42, 1, 181, 0, 7, 42, 3, 181, 0, 13, 42, 3, 181, 0, 17, 42, 1, 181, 0, 20]
abbrev dktX1_init_0 : List UInt8 := dkwX1_init_0 ++ dktX1_init_1
theorem dksX1_init_0 : cX1_init.data.toList.drop 0 = dktX1_init_0 := by decide +kernel
theorem dksX1_init_1 : cX1_init.data.toList.drop 24 = dktX1_init_1 := dk_seg dksX1_init_0 24 rfl rfl
theorem dX1_init_0 : decode cX1_init 0 = .ok (.aload_n 0, 1) := dk_42 (dk_at dksX1_init_0 0 rfl rfl)
theorem dX1_init_1 : decode cX1_init 1 = .ok (.invokespecial 1, 3) := dk_183 0 1 (dk_at dksX1_init_0 1 rfl rfl)
theorem dX1_init_4 : decode cX1_init 4 = .ok (.aload_n 0, 1) := dk_42 (dk_at dksX1_init_0 4 rfl rfl)
theorem dX1_init_5 : decode cX1_init 5 = .ok (.aconst_null, 1) := dk_1 (dk_at dksX1_init_0 5 rfl rfl)
theorem dX1_init_6 : decode cX1_init 6 = .ok (.putfield 7, 3) := dk_181 0 7 (dk_at dksX1_init_0 6 rfl rfl)
theorem dX1_init_9 : decode cX1_init 9 = .ok (.aload_n 0, 1) := dk_42 (dk_at dksX1_init_0 9 rfl rfl)
theorem dX1_init_10 : decode cX1_init 10 = .ok (.iconst 0, 1) := dk_3 (dk_at dksX1_init_0 10 rfl rfl)
theorem dX1_init_11 : decode cX1_init 11 = .ok (.putfield 13, 3) := dk_181 0 13 (dk_at dksX1_init_0 11 rfl rfl)
theorem dX1_init_14 : decode cX1_init 14 = .ok (.aload_n 0, 1) := dk_42 (dk_at dksX1_init_0 14 rfl rfl)
theorem dX1_init_15 : decode cX1_init 15 = .ok (.iconst 0, 1) := dk_3 (dk_at dksX1_init_0 15 rfl rfl)
theorem dX1_init_16 : decode cX1_init 16 = .ok (.putfield 17, 3) := dk_181 0 17 (dk_at dksX1_init_0 16 rfl rfl)
theorem dX1_init_19 : decode cX1_init 19 = .ok (.aload_n 0, 1) := dk_42 (dk_at dksX1_init_0 19 rfl rfl)
theorem dX1_init_20 : decode cX1_init 20 = .ok (.aconst_null, 1) := dk_1 (dk_at dksX1_init_0 20 rfl rfl)
theorem dX1_init_21 : decode cX1_init 21 = .ok (.putfield 20, 3) := dk_181 0 20 (dk_at dksX1_init_0 21 rfl rfl)
theorem dX1_init_24 : decode cX1_init 24 = .ok (.return_, 1) := dk_177 (dk_at dksX1_init_1 0 rfl rfl)
abbrev cX1_init_2 : ByteArray := prog_5_method_2_code
def yX1_init_2 : MethodName := ⟨RX1, "init", "(ZLCipherParameters;)V"⟩
def dkwX1_init_2_1 : List UInt8 := [42, 180, 0, 20, 182, 0, 33, 177, 187, 0, 37, 89, 18, 39, 183, 0, 41, 191]
abbrev dktX1_init_2_1 : List UInt8 := dkwX1_init_2_1 ++ []
def dkwX1_init_2_0 : List UInt8 := [44, 193, 0, 23, 153, 0, 28, 42, 44, 192, 0, 23, 182, 0, 25, 181, 0, 20, 42, 27, 181, 0, 29, 42]
abbrev dktX1_init_2_0 : List UInt8 := dkwX1_init_2_0 ++ dktX1_init_2_1
theorem dksX1_init_2_0 : cX1_init_2.data.toList.drop 0 = dktX1_init_2_0 := by decide +kernel
theorem dksX1_init_2_1 : cX1_init_2.data.toList.drop 24 = dktX1_init_2_1 := dk_seg dksX1_init_2_0 24 rfl rfl
theorem dX1_init_2_0 : decode cX1_init_2 0 = .ok (.aload_n 2, 1) := dk_44 (dk_at dksX1_init_2_0 0 rfl rfl)
theorem dX1_init_2_1 : decode cX1_init_2 1 = .ok (.instanceof 23, 3) := dk_193 0 23 (dk_at dksX1_init_2_0 1 rfl rfl)
theorem dX1_init_2_4 : decode cX1_init_2 4 = .ok (.ifCond .eq 28, 3) := dk_153 0 28 (dk_at dksX1_init_2_0 4 rfl rfl)
theorem dX1_init_2_7 : decode cX1_init_2 7 = .ok (.aload_n 0, 1) := dk_42 (dk_at dksX1_init_2_0 7 rfl rfl)
theorem dX1_init_2_8 : decode cX1_init_2 8 = .ok (.aload_n 2, 1) := dk_44 (dk_at dksX1_init_2_0 8 rfl rfl)
theorem dX1_init_2_9 : decode cX1_init_2 9 = .ok (.checkcast 23, 3) := dk_192 0 23 (dk_at dksX1_init_2_0 9 rfl rfl)
theorem dX1_init_2_12 : decode cX1_init_2 12 = .ok (.invokevirtual 25, 3) := dk_182 0 25 (dk_at dksX1_init_2_0 12 rfl rfl)
theorem dX1_init_2_15 : decode cX1_init_2 15 = .ok (.putfield 20, 3) := dk_181 0 20 (dk_at dksX1_init_2_0 15 rfl rfl)
theorem dX1_init_2_18 : decode cX1_init_2 18 = .ok (.aload_n 0, 1) := dk_42 (dk_at dksX1_init_2_0 18 rfl rfl)
theorem dX1_init_2_19 : decode cX1_init_2 19 = .ok (.iload_n 1, 1) := dk_27 (dk_at dksX1_init_2_0 19 rfl rfl)
theorem dX1_init_2_20 : decode cX1_init_2 20 = .ok (.putfield 29, 3) := dk_181 0 29 (dk_at dksX1_init_2_0 20 rfl rfl)
theorem dX1_init_2_23 : decode cX1_init_2 23 = .ok (.aload_n 0, 1) := dk_42 (dk_at dksX1_init_2_0 23 rfl rfl)
theorem dX1_init_2_24 : decode cX1_init_2 24 = .ok (.aload_n 0, 1) := dk_42 (dk_at dksX1_init_2_1 0 rfl rfl)
theorem dX1_init_2_25 : decode cX1_init_2 25 = .ok (.getfield 20, 3) := dk_180 0 20 (dk_at dksX1_init_2_1 1 rfl rfl)
theorem dX1_init_2_28 : decode cX1_init_2 28 = .ok (.invokevirtual 33, 3) := dk_182 0 33 (dk_at dksX1_init_2_1 4 rfl rfl)
theorem dX1_init_2_31 : decode cX1_init_2 31 = .ok (.return_, 1) := dk_177 (dk_at dksX1_init_2_1 7 rfl rfl)
theorem dX1_init_2_32 : decode cX1_init_2 32 = .ok (.new 37, 3) := dk_187 0 37 (dk_at dksX1_init_2_1 8 rfl rfl)
theorem dX1_init_2_35 : decode cX1_init_2 35 = .ok (.dup, 1) := dk_89 (dk_at dksX1_init_2_1 11 rfl rfl)
theorem dX1_init_2_36 : decode cX1_init_2 36 = .ok (.ldc 39, 2) := dk_18 39 (dk_at dksX1_init_2_1 12 rfl rfl)
theorem dX1_init_2_38 : decode cX1_init_2 38 = .ok (.invokespecial 41, 3) := dk_183 0 41 (dk_at dksX1_init_2_1 14 rfl rfl)
theorem dX1_init_2_41 : decode cX1_init_2 41 = .ok (.athrow, 1) := dk_191 (dk_at dksX1_init_2_1 17 rfl rfl)
abbrev cX1_setKey : ByteArray := prog_5_method_6_code
def yX1_setKey : MethodName := ⟨RX1, "setKey", "([B)V"⟩
def dkwX1_setKey_5 : List UInt8 := [21, 5, 84, 28, 4, 96, 43, 190, 112, 61, 132, 4, 1, 167, 255, 186, 177]
abbrev dktX1_setKey_5 : List UInt8 := dkwX1_setKey_5 ++ []
def dkwX1_setKey_4 : List UInt8 := [21, 4, 51, 54, 5, 42, 180, 0, 7, 21, 4, 42, 180, 0, 7, 29, 51, 84, 42, 180, 0, 7, 29]
abbrev dktX1_setKey_4 : List UInt8 := dkwX1_setKey_4 ++ dktX1_setKey_5
def dkwX1_setKey_3 : List UInt8 := [51, 17, 0, 255, 126, 42, 180, 0, 7, 21, 4, 51, 96, 29, 96, 17, 0, 255, 126, 62, 42, 180, 0, 7]
abbrev dktX1_setKey_3 : List UInt8 := dkwX1_setKey_3 ++ dktX1_setKey_4
def dkwX1_setKey_2 : List UInt8 := [84, 132, 2, 1, 167, 255, 238, 3, 61, 3, 62, 3, 54, 4, 21, 4, 17, 1, 0, 162, 0, 68, 43, 28]
abbrev dktX1_setKey_2 : List UInt8 := dkwX1_setKey_2 ++ dktX1_setKey_3
def dkwX1_setKey_1 : List UInt8 := [17, 1, 0, 188, 8, 181, 0, 7, 3, 61, 28, 17, 1, 0, 162, 0, 17, 42, 180, 0, 7, 28, 28, 145]
abbrev dktX1_setKey_1 : List UInt8 := dkwX1_setKey_1 ++ dktX1_setKey_2
def dkwX1_setKey_0 : List UInt8 := [42, 43, 181, 0, 20, 42, 3, 181, 0, 13, 42, 3, 181, 0, 17, 42, 180, 0, 7, 199, 0, 12, 42]
abbrev dktX1_setKey_0 : List UInt8 := dkwX1_setKey_0 ++ dktX1_setKey_1
theorem dksX1_setKey_0 : cX1_setKey.data.toList.drop 0 = dktX1_setKey_0 := by decide +kernel
theorem dksX1_setKey_1 : cX1_setKey.data.toList.drop 23 = dktX1_setKey_1 := dk_seg dksX1_setKey_0 23 rfl rfl
theorem dksX1_setKey_2 : cX1_setKey.data.toList.drop 47 = dktX1_setKey_2 := dk_seg dksX1_setKey_1 24 rfl rfl
theorem dksX1_setKey_3 : cX1_setKey.data.toList.drop 71 = dktX1_setKey_3 := dk_seg dksX1_setKey_2 24 rfl rfl
theorem dksX1_setKey_4 : cX1_setKey.data.toList.drop 95 = dktX1_setKey_4 := dk_seg dksX1_setKey_3 24 rfl rfl
theorem dksX1_setKey_5 : cX1_setKey.data.toList.drop 118 = dktX1_setKey_5 := dk_seg dksX1_setKey_4 23 rfl rfl
theorem dX1_setKey_0 : decode cX1_setKey 0 = .ok (.aload_n 0, 1) := dk_42 (dk_at dksX1_setKey_0 0 rfl rfl)
theorem dX1_setKey_1 : decode cX1_setKey 1 = .ok (.aload_n 1, 1) := dk_43 (dk_at dksX1_setKey_0 1 rfl rfl)
theorem dX1_setKey_2 : decode cX1_setKey 2 = .ok (.putfield 20, 3) := dk_181 0 20 (dk_at dksX1_setKey_0 2 rfl rfl)
theorem dX1_setKey_5 : decode cX1_setKey 5 = .ok (.aload_n 0, 1) := dk_42 (dk_at dksX1_setKey_0 5 rfl rfl)
theorem dX1_setKey_6 : decode cX1_setKey 6 = .ok (.iconst 0, 1) := dk_3 (dk_at dksX1_setKey_0 6 rfl rfl)
theorem dX1_setKey_7 : decode cX1_setKey 7 = .ok (.putfield 13, 3) := dk_181 0 13 (dk_at dksX1_setKey_0 7 rfl rfl)
theorem dX1_setKey_10 : decode cX1_setKey 10 = .ok (.aload_n 0, 1) := dk_42 (dk_at dksX1_setKey_0 10 rfl rfl)
theorem dX1_setKey_11 : decode cX1_setKey 11 = .ok (.iconst 0, 1) := dk_3 (dk_at dksX1_setKey_0 11 rfl rfl)
theorem dX1_setKey_12 : decode cX1_setKey 12 = .ok (.putfield 17, 3) := dk_181 0 17 (dk_at dksX1_setKey_0 12 rfl rfl)
theorem dX1_setKey_15 : decode cX1_setKey 15 = .ok (.aload_n 0, 1) := dk_42 (dk_at dksX1_setKey_0 15 rfl rfl)
theorem dX1_setKey_16 : decode cX1_setKey 16 = .ok (.getfield 7, 3) := dk_180 0 7 (dk_at dksX1_setKey_0 16 rfl rfl)
theorem dX1_setKey_19 : decode cX1_setKey 19 = .ok (.ifnonnull 12, 3) := dk_199 0 12 (dk_at dksX1_setKey_0 19 rfl rfl)
theorem dX1_setKey_22 : decode cX1_setKey 22 = .ok (.aload_n 0, 1) := dk_42 (dk_at dksX1_setKey_0 22 rfl rfl)
theorem dX1_setKey_23 : decode cX1_setKey 23 = .ok (.sipush 256, 3) := dk_17 1 0 (dk_at dksX1_setKey_1 0 rfl rfl)
theorem dX1_setKey_26 : decode cX1_setKey 26 = .ok (.newarray .byte, 2) := dk_188_8 (dk_at dksX1_setKey_1 3 rfl rfl)
theorem dX1_setKey_28 : decode cX1_setKey 28 = .ok (.putfield 7, 3) := dk_181 0 7 (dk_at dksX1_setKey_1 5 rfl rfl)
theorem dX1_setKey_31 : decode cX1_setKey 31 = .ok (.iconst 0, 1) := dk_3 (dk_at dksX1_setKey_1 8 rfl rfl)
theorem dX1_setKey_32 : decode cX1_setKey 32 = .ok (.istore_n 2, 1) := dk_61 (dk_at dksX1_setKey_1 9 rfl rfl)
theorem dX1_setKey_33 : decode cX1_setKey 33 = .ok (.iload_n 2, 1) := dk_28 (dk_at dksX1_setKey_1 10 rfl rfl)
theorem dX1_setKey_34 : decode cX1_setKey 34 = .ok (.sipush 256, 3) := dk_17 1 0 (dk_at dksX1_setKey_1 11 rfl rfl)
theorem dX1_setKey_37 : decode cX1_setKey 37 = .ok (.if_icmp .ge 17, 3) := dk_162 0 17 (dk_at dksX1_setKey_1 14 rfl rfl)
theorem dX1_setKey_40 : decode cX1_setKey 40 = .ok (.aload_n 0, 1) := dk_42 (dk_at dksX1_setKey_1 17 rfl rfl)
theorem dX1_setKey_41 : decode cX1_setKey 41 = .ok (.getfield 7, 3) := dk_180 0 7 (dk_at dksX1_setKey_1 18 rfl rfl)
theorem dX1_setKey_44 : decode cX1_setKey 44 = .ok (.iload_n 2, 1) := dk_28 (dk_at dksX1_setKey_1 21 rfl rfl)
theorem dX1_setKey_45 : decode cX1_setKey 45 = .ok (.iload_n 2, 1) := dk_28 (dk_at dksX1_setKey_1 22 rfl rfl)
theorem dX1_setKey_46 : decode cX1_setKey 46 = .ok (.i2b, 1) := dk_145 (dk_at dksX1_setKey_1 23 rfl rfl)
theorem dX1_setKey_47 : decode cX1_setKey 47 = .ok (.bastore, 1) := dk_84 (dk_at dksX1_setKey_2 0 rfl rfl)
theorem dX1_setKey_48 : decode cX1_setKey 48 = .ok (.iinc 2 1, 3) := dk_132 2 1 (dk_at dksX1_setKey_2 1 rfl rfl)
theorem dX1_setKey_51 : decode cX1_setKey 51 = .ok (.goto (-18), 3) := dk_167 255 238 (dk_at dksX1_setKey_2 4 rfl rfl)
theorem dX1_setKey_54 : decode cX1_setKey 54 = .ok (.iconst 0, 1) := dk_3 (dk_at dksX1_setKey_2 7 rfl rfl)
theorem dX1_setKey_55 : decode cX1_setKey 55 = .ok (.istore_n 2, 1) := dk_61 (dk_at dksX1_setKey_2 8 rfl rfl)
theorem dX1_setKey_56 : decode cX1_setKey 56 = .ok (.iconst 0, 1) := dk_3 (dk_at dksX1_setKey_2 9 rfl rfl)
theorem dX1_setKey_57 : decode cX1_setKey 57 = .ok (.istore_n 3, 1) := dk_62 (dk_at dksX1_setKey_2 10 rfl rfl)
theorem dX1_setKey_58 : decode cX1_setKey 58 = .ok (.iconst 0, 1) := dk_3 (dk_at dksX1_setKey_2 11 rfl rfl)
theorem dX1_setKey_59 : decode cX1_setKey 59 = .ok (.istore 4, 2) := dk_54 4 (dk_at dksX1_setKey_2 12 rfl rfl)
theorem dX1_setKey_61 : decode cX1_setKey 61 = .ok (.iload 4, 2) := dk_21 4 (dk_at dksX1_setKey_2 14 rfl rfl)
theorem dX1_setKey_63 : decode cX1_setKey 63 = .ok (.sipush 256, 3) := dk_17 1 0 (dk_at dksX1_setKey_2 16 rfl rfl)
theorem dX1_setKey_66 : decode cX1_setKey 66 = .ok (.if_icmp .ge 68, 3) := dk_162 0 68 (dk_at dksX1_setKey_2 19 rfl rfl)
theorem dX1_setKey_69 : decode cX1_setKey 69 = .ok (.aload_n 1, 1) := dk_43 (dk_at dksX1_setKey_2 22 rfl rfl)
theorem dX1_setKey_70 : decode cX1_setKey 70 = .ok (.iload_n 2, 1) := dk_28 (dk_at dksX1_setKey_2 23 rfl rfl)
theorem dX1_setKey_71 : decode cX1_setKey 71 = .ok (.baload, 1) := dk_51 (dk_at dksX1_setKey_3 0 rfl rfl)
theorem dX1_setKey_72 : decode cX1_setKey 72 = .ok (.sipush 255, 3) := dk_17 0 255 (dk_at dksX1_setKey_3 1 rfl rfl)
theorem dX1_setKey_75 : decode cX1_setKey 75 = .ok (.iand, 1) := dk_126 (dk_at dksX1_setKey_3 4 rfl rfl)
theorem dX1_setKey_76 : decode cX1_setKey 76 = .ok (.aload_n 0, 1) := dk_42 (dk_at dksX1_setKey_3 5 rfl rfl)
theorem dX1_setKey_77 : decode cX1_setKey 77 = .ok (.getfield 7, 3) := dk_180 0 7 (dk_at dksX1_setKey_3 6 rfl rfl)
theorem dX1_setKey_80 : decode cX1_setKey 80 = .ok (.iload 4, 2) := dk_21 4 (dk_at dksX1_setKey_3 9 rfl rfl)
theorem dX1_setKey_82 : decode cX1_setKey 82 = .ok (.baload, 1) := dk_51 (dk_at dksX1_setKey_3 11 rfl rfl)
theorem dX1_setKey_83 : decode cX1_setKey 83 = .ok (.iadd, 1) := dk_96 (dk_at dksX1_setKey_3 12 rfl rfl)
theorem dX1_setKey_84 : decode cX1_setKey 84 = .ok (.iload_n 3, 1) := dk_29 (dk_at dksX1_setKey_3 13 rfl rfl)
theorem dX1_setKey_85 : decode cX1_setKey 85 = .ok (.iadd, 1) := dk_96 (dk_at dksX1_setKey_3 14 rfl rfl)
theorem dX1_setKey_86 : decode cX1_setKey 86 = .ok (.sipush 255, 3) := dk_17 0 255 (dk_at dksX1_setKey_3 15 rfl rfl)
theorem dX1_setKey_89 : decode cX1_setKey 89 = .ok (.iand, 1) := dk_126 (dk_at dksX1_setKey_3 18 rfl rfl)
theorem dX1_setKey_90 : decode cX1_setKey 90 = .ok (.istore_n 3, 1) := dk_62 (dk_at dksX1_setKey_3 19 rfl rfl)
theorem dX1_setKey_91 : decode cX1_setKey 91 = .ok (.aload_n 0, 1) := dk_42 (dk_at dksX1_setKey_3 20 rfl rfl)
theorem dX1_setKey_92 : decode cX1_setKey 92 = .ok (.getfield 7, 3) := dk_180 0 7 (dk_at dksX1_setKey_3 21 rfl rfl)
theorem dX1_setKey_95 : decode cX1_setKey 95 = .ok (.iload 4, 2) := dk_21 4 (dk_at dksX1_setKey_4 0 rfl rfl)
theorem dX1_setKey_97 : decode cX1_setKey 97 = .ok (.baload, 1) := dk_51 (dk_at dksX1_setKey_4 2 rfl rfl)
theorem dX1_setKey_98 : decode cX1_setKey 98 = .ok (.istore 5, 2) := dk_54 5 (dk_at dksX1_setKey_4 3 rfl rfl)
theorem dX1_setKey_100 : decode cX1_setKey 100 = .ok (.aload_n 0, 1) := dk_42 (dk_at dksX1_setKey_4 5 rfl rfl)
theorem dX1_setKey_101 : decode cX1_setKey 101 = .ok (.getfield 7, 3) := dk_180 0 7 (dk_at dksX1_setKey_4 6 rfl rfl)
theorem dX1_setKey_104 : decode cX1_setKey 104 = .ok (.iload 4, 2) := dk_21 4 (dk_at dksX1_setKey_4 9 rfl rfl)
theorem dX1_setKey_106 : decode cX1_setKey 106 = .ok (.aload_n 0, 1) := dk_42 (dk_at dksX1_setKey_4 11 rfl rfl)
theorem dX1_setKey_107 : decode cX1_setKey 107 = .ok (.getfield 7, 3) := dk_180 0 7 (dk_at dksX1_setKey_4 12 rfl rfl)
theorem dX1_setKey_110 : decode cX1_setKey 110 = .ok (.iload_n 3, 1) := dk_29 (dk_at dksX1_setKey_4 15 rfl rfl)
theorem dX1_setKey_111 : decode cX1_setKey 111 = .ok (.baload, 1) := dk_51 (dk_at dksX1_setKey_4 16 rfl rfl)
theorem dX1_setKey_112 : decode cX1_setKey 112 = .ok (.bastore, 1) := dk_84 (dk_at dksX1_setKey_4 17 rfl rfl)
theorem dX1_setKey_113 : decode cX1_setKey 113 = .ok (.aload_n 0, 1) := dk_42 (dk_at dksX1_setKey_4 18 rfl rfl)
theorem dX1_setKey_114 : decode cX1_setKey 114 = .ok (.getfield 7, 3) := dk_180 0 7 (dk_at dksX1_setKey_4 19 rfl rfl)
theorem dX1_setKey_117 : decode cX1_setKey 117 = .ok (.iload_n 3, 1) := dk_29 (dk_at dksX1_setKey_4 22 rfl rfl)
theorem dX1_setKey_118 : decode cX1_setKey 118 = .ok (.iload 5, 2) := dk_21 5 (dk_at dksX1_setKey_5 0 rfl rfl)
theorem dX1_setKey_120 : decode cX1_setKey 120 = .ok (.bastore, 1) := dk_84 (dk_at dksX1_setKey_5 2 rfl rfl)
theorem dX1_setKey_121 : decode cX1_setKey 121 = .ok (.iload_n 2, 1) := dk_28 (dk_at dksX1_setKey_5 3 rfl rfl)
theorem dX1_setKey_122 : decode cX1_setKey 122 = .ok (.iconst 1, 1) := dk_4 (dk_at dksX1_setKey_5 4 rfl rfl)
theorem dX1_setKey_123 : decode cX1_setKey 123 = .ok (.iadd, 1) := dk_96 (dk_at dksX1_setKey_5 5 rfl rfl)
theorem dX1_setKey_124 : decode cX1_setKey 124 = .ok (.aload_n 1, 1) := dk_43 (dk_at dksX1_setKey_5 6 rfl rfl)
theorem dX1_setKey_125 : decode cX1_setKey 125 = .ok (.arraylength, 1) := dk_190 (dk_at dksX1_setKey_5 7 rfl rfl)
theorem dX1_setKey_126 : decode cX1_setKey 126 = .ok (.irem, 1) := dk_112 (dk_at dksX1_setKey_5 8 rfl rfl)
theorem dX1_setKey_127 : decode cX1_setKey 127 = .ok (.istore_n 2, 1) := dk_61 (dk_at dksX1_setKey_5 9 rfl rfl)
theorem dX1_setKey_128 : decode cX1_setKey 128 = .ok (.iinc 4 1, 3) := dk_132 4 1 (dk_at dksX1_setKey_5 10 rfl rfl)
theorem dX1_setKey_131 : decode cX1_setKey 131 = .ok (.goto (-70), 3) := dk_167 255 186 (dk_at dksX1_setKey_5 13 rfl rfl)
theorem dX1_setKey_134 : decode cX1_setKey 134 = .ok (.return_, 1) := dk_177 (dk_at dksX1_setKey_5 16 rfl rfl)
abbrev cX1_processBytes : ByteArray := prog_5_method_4_code
def yX1_processBytes : MethodName := ⟨RX1, "processBytes", "([BII[BI)I"⟩
def dkwX1_processBytes_7 : List UInt8 := [145, 84, 132, 6, 1, 167, 255, 127, 29, 172]
abbrev dktX1_processBytes_7 : List UInt8 := dkwX1_processBytes_7 ++ []
def dkwX1_processBytes_6 : List UInt8 := [180, 0, 7, 42, 180, 0, 13, 51, 42, 180, 0, 7, 42, 180, 0, 17, 51, 96, 17, 0, 255, 126, 51, 130]
abbrev dktX1_processBytes_6 : List UInt8 := dkwX1_processBytes_6 ++ dktX1_processBytes_7
def dkwX1_processBytes_5 : List UInt8 := [180, 0, 17, 21, 7, 84, 25, 4, 21, 6, 21, 5, 96, 43, 21, 6, 28, 96, 51, 42, 180, 0, 7, 42]
abbrev dktX1_processBytes_5 : List UInt8 := dkwX1_processBytes_5 ++ dktX1_processBytes_6
def dkwX1_processBytes_4 : List UInt8 := [180, 0, 7, 42, 180, 0, 13, 42, 180, 0, 7, 42, 180, 0, 17, 51, 84, 42, 180, 0, 7, 42]
abbrev dktX1_processBytes_4 : List UInt8 := dkwX1_processBytes_4 ++ dktX1_processBytes_5
def dkwX1_processBytes_3 : List UInt8 := [180, 0, 17, 96, 17, 0, 255, 126, 181, 0, 17, 42, 180, 0, 7, 42, 180, 0, 13, 51, 54, 7, 42]
abbrev dktX1_processBytes_3 : List UInt8 := dkwX1_processBytes_3 ++ dktX1_processBytes_4
def dkwX1_processBytes_2 : List UInt8 := [42, 180, 0, 13, 4, 96, 17, 0, 255, 126, 181, 0, 13, 42, 42, 180, 0, 7, 42, 180, 0, 13, 51, 42]
abbrev dktX1_processBytes_2 : List UInt8 := dkwX1_processBytes_2 ++ dktX1_processBytes_3
def dkwX1_processBytes_1 : List UInt8 := [190, 164, 0, 13, 187, 0, 49, 89, 18, 51, 183, 0, 53, 191, 3, 54, 6, 21, 6, 29, 162, 0, 129, 42]
abbrev dktX1_processBytes_1 : List UInt8 := dkwX1_processBytes_1 ++ dktX1_processBytes_2
def dkwX1_processBytes_0 : List UInt8 := [28, 29, 96, 43, 190, 164, 0, 13, 187, 0, 44, 89, 18, 46, 183, 0, 48, 191, 21, 5, 29, 96, 25, 4]
abbrev dktX1_processBytes_0 : List UInt8 := dkwX1_processBytes_0 ++ dktX1_processBytes_1
theorem dksX1_processBytes_0 : cX1_processBytes.data.toList.drop 0 = dktX1_processBytes_0 := by decide +kernel
theorem dksX1_processBytes_1 : cX1_processBytes.data.toList.drop 24 = dktX1_processBytes_1 := dk_seg dksX1_processBytes_0 24 rfl rfl
theorem dksX1_processBytes_2 : cX1_processBytes.data.toList.drop 48 = dktX1_processBytes_2 := dk_seg dksX1_processBytes_1 24 rfl rfl
theorem dksX1_processBytes_3 : cX1_processBytes.data.toList.drop 72 = dktX1_processBytes_3 := dk_seg dksX1_processBytes_2 24 rfl rfl
theorem dksX1_processBytes_4 : cX1_processBytes.data.toList.drop 95 = dktX1_processBytes_4 := dk_seg dksX1_processBytes_3 23 rfl rfl
theorem dksX1_processBytes_5 : cX1_processBytes.data.toList.drop 117 = dktX1_processBytes_5 := dk_seg dksX1_processBytes_4 22 rfl rfl
theorem dksX1_processBytes_6 : cX1_processBytes.data.toList.drop 141 = dktX1_processBytes_6 := dk_seg dksX1_processBytes_5 24 rfl rfl
theorem dksX1_processBytes_7 : cX1_processBytes.data.toList.drop 165 = dktX1_processBytes_7 := dk_seg dksX1_processBytes_6 24 rfl rfl
theorem dX1_processBytes_0 : decode cX1_processBytes 0 = .ok (.iload_n 2, 1) := dk_28 (dk_at dksX1_processBytes_0 0 rfl rfl)
theorem dX1_processBytes_1 : decode cX1_processBytes 1 = .ok (.iload_n 3, 1) := dk_29 (dk_at dksX1_processBytes_0 1 rfl rfl)
theorem dX1_processBytes_2 : decode cX1_processBytes 2 = .ok (.iadd, 1) := dk_96 (dk_at dksX1_processBytes_0 2 rfl rfl)
theorem dX1_processBytes_3 : decode cX1_processBytes 3 = .ok (.aload_n 1, 1) := dk_43 (dk_at dksX1_processBytes_0 3 rfl rfl)
theorem dX1_processBytes_4 : decode cX1_processBytes 4 = .ok (.arraylength, 1) := dk_190 (dk_at dksX1_processBytes_0 4 rfl rfl)
theorem dX1_processBytes_5 : decode cX1_processBytes 5 = .ok (.if_icmp .le 13, 3) := dk_164 0 13 (dk_at dksX1_processBytes_0 5 rfl rfl)
theorem dX1_processBytes_8 : decode cX1_processBytes 8 = .ok (.new 44, 3) := dk_187 0 44 (dk_at dksX1_processBytes_0 8 rfl rfl)
theorem dX1_processBytes_11 : decode cX1_processBytes 11 = .ok (.dup, 1) := dk_89 (dk_at dksX1_processBytes_0 11 rfl rfl)
theorem dX1_processBytes_12 : decode cX1_processBytes 12 = .ok (.ldc 46, 2) := dk_18 46 (dk_at dksX1_processBytes_0 12 rfl rfl)
theorem dX1_processBytes_14 : decode cX1_processBytes 14 = .ok (.invokespecial 48, 3) := dk_183 0 48 (dk_at dksX1_processBytes_0 14 rfl rfl)
theorem dX1_processBytes_17 : decode cX1_processBytes 17 = .ok (.athrow, 1) := dk_191 (dk_at dksX1_processBytes_0 17 rfl rfl)
theorem dX1_processBytes_18 : decode cX1_processBytes 18 = .ok (.iload 5, 2) := dk_21 5 (dk_at dksX1_processBytes_0 18 rfl rfl)
theorem dX1_processBytes_20 : decode cX1_processBytes 20 = .ok (.iload_n 3, 1) := dk_29 (dk_at dksX1_processBytes_0 20 rfl rfl)
theorem dX1_processBytes_21 : decode cX1_processBytes 21 = .ok (.iadd, 1) := dk_96 (dk_at dksX1_processBytes_0 21 rfl rfl)
theorem dX1_processBytes_22 : decode cX1_processBytes 22 = .ok (.aload 4, 2) := dk_25 4 (dk_at dksX1_processBytes_0 22 rfl rfl)
theorem dX1_processBytes_24 : decode cX1_processBytes 24 = .ok (.arraylength, 1) := dk_190 (dk_at dksX1_processBytes_1 0 rfl rfl)
theorem dX1_processBytes_25 : decode cX1_processBytes 25 = .ok (.if_icmp .le 13, 3) := dk_164 0 13 (dk_at dksX1_processBytes_1 1 rfl rfl)
theorem dX1_processBytes_28 : decode cX1_processBytes 28 = .ok (.new 49, 3) := dk_187 0 49 (dk_at dksX1_processBytes_1 4 rfl rfl)
theorem dX1_processBytes_31 : decode cX1_processBytes 31 = .ok (.dup, 1) := dk_89 (dk_at dksX1_processBytes_1 7 rfl rfl)
theorem dX1_processBytes_32 : decode cX1_processBytes 32 = .ok (.ldc 51, 2) := dk_18 51 (dk_at dksX1_processBytes_1 8 rfl rfl)
theorem dX1_processBytes_34 : decode cX1_processBytes 34 = .ok (.invokespecial 53, 3) := dk_183 0 53 (dk_at dksX1_processBytes_1 10 rfl rfl)
theorem dX1_processBytes_37 : decode cX1_processBytes 37 = .ok (.athrow, 1) := dk_191 (dk_at dksX1_processBytes_1 13 rfl rfl)
theorem dX1_processBytes_38 : decode cX1_processBytes 38 = .ok (.iconst 0, 1) := dk_3 (dk_at dksX1_processBytes_1 14 rfl rfl)
theorem dX1_processBytes_39 : decode cX1_processBytes 39 = .ok (.istore 6, 2) := dk_54 6 (dk_at dksX1_processBytes_1 15 rfl rfl)
theorem dX1_processBytes_41 : decode cX1_processBytes 41 = .ok (.iload 6, 2) := dk_21 6 (dk_at dksX1_processBytes_1 17 rfl rfl)
theorem dX1_processBytes_43 : decode cX1_processBytes 43 = .ok (.iload_n 3, 1) := dk_29 (dk_at dksX1_processBytes_1 19 rfl rfl)
theorem dX1_processBytes_44 : decode cX1_processBytes 44 = .ok (.if_icmp .ge 129, 3) := dk_162 0 129 (dk_at dksX1_processBytes_1 20 rfl rfl)
theorem dX1_processBytes_47 : decode cX1_processBytes 47 = .ok (.aload_n 0, 1) := dk_42 (dk_at dksX1_processBytes_1 23 rfl rfl)
theorem dX1_processBytes_48 : decode cX1_processBytes 48 = .ok (.aload_n 0, 1) := dk_42 (dk_at dksX1_processBytes_2 0 rfl rfl)
theorem dX1_processBytes_49 : decode cX1_processBytes 49 = .ok (.getfield 13, 3) := dk_180 0 13 (dk_at dksX1_processBytes_2 1 rfl rfl)
theorem dX1_processBytes_52 : decode cX1_processBytes 52 = .ok (.iconst 1, 1) := dk_4 (dk_at dksX1_processBytes_2 4 rfl rfl)
theorem dX1_processBytes_53 : decode cX1_processBytes 53 = .ok (.iadd, 1) := dk_96 (dk_at dksX1_processBytes_2 5 rfl rfl)
theorem dX1_processBytes_54 : decode cX1_processBytes 54 = .ok (.sipush 255, 3) := dk_17 0 255 (dk_at dksX1_processBytes_2 6 rfl rfl)
theorem dX1_processBytes_57 : decode cX1_processBytes 57 = .ok (.iand, 1) := dk_126 (dk_at dksX1_processBytes_2 9 rfl rfl)
theorem dX1_processBytes_58 : decode cX1_processBytes 58 = .ok (.putfield 13, 3) := dk_181 0 13 (dk_at dksX1_processBytes_2 10 rfl rfl)
theorem dX1_processBytes_61 : decode cX1_processBytes 61 = .ok (.aload_n 0, 1) := dk_42 (dk_at dksX1_processBytes_2 13 rfl rfl)
theorem dX1_processBytes_62 : decode cX1_processBytes 62 = .ok (.aload_n 0, 1) := dk_42 (dk_at dksX1_processBytes_2 14 rfl rfl)
theorem dX1_processBytes_63 : decode cX1_processBytes 63 = .ok (.getfield 7, 3) := dk_180 0 7 (dk_at dksX1_processBytes_2 15 rfl rfl)
theorem dX1_processBytes_66 : decode cX1_processBytes 66 = .ok (.aload_n 0, 1) := dk_42 (dk_at dksX1_processBytes_2 18 rfl rfl)
theorem dX1_processBytes_67 : decode cX1_processBytes 67 = .ok (.getfield 13, 3) := dk_180 0 13 (dk_at dksX1_processBytes_2 19 rfl rfl)
theorem dX1_processBytes_70 : decode cX1_processBytes 70 = .ok (.baload, 1) := dk_51 (dk_at dksX1_processBytes_2 22 rfl rfl)
theorem dX1_processBytes_71 : decode cX1_processBytes 71 = .ok (.aload_n 0, 1) := dk_42 (dk_at dksX1_processBytes_2 23 rfl rfl)
theorem dX1_processBytes_72 : decode cX1_processBytes 72 = .ok (.getfield 17, 3) := dk_180 0 17 (dk_at dksX1_processBytes_3 0 rfl rfl)
theorem dX1_processBytes_75 : decode cX1_processBytes 75 = .ok (.iadd, 1) := dk_96 (dk_at dksX1_processBytes_3 3 rfl rfl)
theorem dX1_processBytes_76 : decode cX1_processBytes 76 = .ok (.sipush 255, 3) := dk_17 0 255 (dk_at dksX1_processBytes_3 4 rfl rfl)
theorem dX1_processBytes_79 : decode cX1_processBytes 79 = .ok (.iand, 1) := dk_126 (dk_at dksX1_processBytes_3 7 rfl rfl)
theorem dX1_processBytes_80 : decode cX1_processBytes 80 = .ok (.putfield 17, 3) := dk_181 0 17 (dk_at dksX1_processBytes_3 8 rfl rfl)
theorem dX1_processBytes_83 : decode cX1_processBytes 83 = .ok (.aload_n 0, 1) := dk_42 (dk_at dksX1_processBytes_3 11 rfl rfl)
theorem dX1_processBytes_84 : decode cX1_processBytes 84 = .ok (.getfield 7, 3) := dk_180 0 7 (dk_at dksX1_processBytes_3 12 rfl rfl)
theorem dX1_processBytes_87 : decode cX1_processBytes 87 = .ok (.aload_n 0, 1) := dk_42 (dk_at dksX1_processBytes_3 15 rfl rfl)
theorem dX1_processBytes_88 : decode cX1_processBytes 88 = .ok (.getfield 13, 3) := dk_180 0 13 (dk_at dksX1_processBytes_3 16 rfl rfl)
theorem dX1_processBytes_91 : decode cX1_processBytes 91 = .ok (.baload, 1) := dk_51 (dk_at dksX1_processBytes_3 19 rfl rfl)
theorem dX1_processBytes_92 : decode cX1_processBytes 92 = .ok (.istore 7, 2) := dk_54 7 (dk_at dksX1_processBytes_3 20 rfl rfl)
theorem dX1_processBytes_94 : decode cX1_processBytes 94 = .ok (.aload_n 0, 1) := dk_42 (dk_at dksX1_processBytes_3 22 rfl rfl)
theorem dX1_processBytes_95 : decode cX1_processBytes 95 = .ok (.getfield 7, 3) := dk_180 0 7 (dk_at dksX1_processBytes_4 0 rfl rfl)
theorem dX1_processBytes_98 : decode cX1_processBytes 98 = .ok (.aload_n 0, 1) := dk_42 (dk_at dksX1_processBytes_4 3 rfl rfl)
theorem dX1_processBytes_99 : decode cX1_processBytes 99 = .ok (.getfield 13, 3) := dk_180 0 13 (dk_at dksX1_processBytes_4 4 rfl rfl)
theorem dX1_processBytes_102 : decode cX1_processBytes 102 = .ok (.aload_n 0, 1) := dk_42 (dk_at dksX1_processBytes_4 7 rfl rfl)
theorem dX1_processBytes_103 : decode cX1_processBytes 103 = .ok (.getfield 7, 3) := dk_180 0 7 (dk_at dksX1_processBytes_4 8 rfl rfl)
theorem dX1_processBytes_106 : decode cX1_processBytes 106 = .ok (.aload_n 0, 1) := dk_42 (dk_at dksX1_processBytes_4 11 rfl rfl)
theorem dX1_processBytes_107 : decode cX1_processBytes 107 = .ok (.getfield 17, 3) := dk_180 0 17 (dk_at dksX1_processBytes_4 12 rfl rfl)
theorem dX1_processBytes_110 : decode cX1_processBytes 110 = .ok (.baload, 1) := dk_51 (dk_at dksX1_processBytes_4 15 rfl rfl)
theorem dX1_processBytes_111 : decode cX1_processBytes 111 = .ok (.bastore, 1) := dk_84 (dk_at dksX1_processBytes_4 16 rfl rfl)
theorem dX1_processBytes_112 : decode cX1_processBytes 112 = .ok (.aload_n 0, 1) := dk_42 (dk_at dksX1_processBytes_4 17 rfl rfl)
theorem dX1_processBytes_113 : decode cX1_processBytes 113 = .ok (.getfield 7, 3) := dk_180 0 7 (dk_at dksX1_processBytes_4 18 rfl rfl)
theorem dX1_processBytes_116 : decode cX1_processBytes 116 = .ok (.aload_n 0, 1) := dk_42 (dk_at dksX1_processBytes_4 21 rfl rfl)
theorem dX1_processBytes_117 : decode cX1_processBytes 117 = .ok (.getfield 17, 3) := dk_180 0 17 (dk_at dksX1_processBytes_5 0 rfl rfl)
theorem dX1_processBytes_120 : decode cX1_processBytes 120 = .ok (.iload 7, 2) := dk_21 7 (dk_at dksX1_processBytes_5 3 rfl rfl)
theorem dX1_processBytes_122 : decode cX1_processBytes 122 = .ok (.bastore, 1) := dk_84 (dk_at dksX1_processBytes_5 5 rfl rfl)
theorem dX1_processBytes_123 : decode cX1_processBytes 123 = .ok (.aload 4, 2) := dk_25 4 (dk_at dksX1_processBytes_5 6 rfl rfl)
theorem dX1_processBytes_125 : decode cX1_processBytes 125 = .ok (.iload 6, 2) := dk_21 6 (dk_at dksX1_processBytes_5 8 rfl rfl)
theorem dX1_processBytes_127 : decode cX1_processBytes 127 = .ok (.iload 5, 2) := dk_21 5 (dk_at dksX1_processBytes_5 10 rfl rfl)
theorem dX1_processBytes_129 : decode cX1_processBytes 129 = .ok (.iadd, 1) := dk_96 (dk_at dksX1_processBytes_5 12 rfl rfl)
theorem dX1_processBytes_130 : decode cX1_processBytes 130 = .ok (.aload_n 1, 1) := dk_43 (dk_at dksX1_processBytes_5 13 rfl rfl)
theorem dX1_processBytes_131 : decode cX1_processBytes 131 = .ok (.iload 6, 2) := dk_21 6 (dk_at dksX1_processBytes_5 14 rfl rfl)
theorem dX1_processBytes_133 : decode cX1_processBytes 133 = .ok (.iload_n 2, 1) := dk_28 (dk_at dksX1_processBytes_5 16 rfl rfl)
theorem dX1_processBytes_134 : decode cX1_processBytes 134 = .ok (.iadd, 1) := dk_96 (dk_at dksX1_processBytes_5 17 rfl rfl)
theorem dX1_processBytes_135 : decode cX1_processBytes 135 = .ok (.baload, 1) := dk_51 (dk_at dksX1_processBytes_5 18 rfl rfl)
theorem dX1_processBytes_136 : decode cX1_processBytes 136 = .ok (.aload_n 0, 1) := dk_42 (dk_at dksX1_processBytes_5 19 rfl rfl)
theorem dX1_processBytes_137 : decode cX1_processBytes 137 = .ok (.getfield 7, 3) := dk_180 0 7 (dk_at dksX1_processBytes_5 20 rfl rfl)
theorem dX1_processBytes_140 : decode cX1_processBytes 140 = .ok (.aload_n 0, 1) := dk_42 (dk_at dksX1_processBytes_5 23 rfl rfl)
theorem dX1_processBytes_141 : decode cX1_processBytes 141 = .ok (.getfield 7, 3) := dk_180 0 7 (dk_at dksX1_processBytes_6 0 rfl rfl)
theorem dX1_processBytes_144 : decode cX1_processBytes 144 = .ok (.aload_n 0, 1) := dk_42 (dk_at dksX1_processBytes_6 3 rfl rfl)
theorem dX1_processBytes_145 : decode cX1_processBytes 145 = .ok (.getfield 13, 3) := dk_180 0 13 (dk_at dksX1_processBytes_6 4 rfl rfl)
theorem dX1_processBytes_148 : decode cX1_processBytes 148 = .ok (.baload, 1) := dk_51 (dk_at dksX1_processBytes_6 7 rfl rfl)
theorem dX1_processBytes_149 : decode cX1_processBytes 149 = .ok (.aload_n 0, 1) := dk_42 (dk_at dksX1_processBytes_6 8 rfl rfl)
theorem dX1_processBytes_150 : decode cX1_processBytes 150 = .ok (.getfield 7, 3) := dk_180 0 7 (dk_at dksX1_processBytes_6 9 rfl rfl)
theorem dX1_processBytes_153 : decode cX1_processBytes 153 = .ok (.aload_n 0, 1) := dk_42 (dk_at dksX1_processBytes_6 12 rfl rfl)
theorem dX1_processBytes_154 : decode cX1_processBytes 154 = .ok (.getfield 17, 3) := dk_180 0 17 (dk_at dksX1_processBytes_6 13 rfl rfl)
theorem dX1_processBytes_157 : decode cX1_processBytes 157 = .ok (.baload, 1) := dk_51 (dk_at dksX1_processBytes_6 16 rfl rfl)
theorem dX1_processBytes_158 : decode cX1_processBytes 158 = .ok (.iadd, 1) := dk_96 (dk_at dksX1_processBytes_6 17 rfl rfl)
theorem dX1_processBytes_159 : decode cX1_processBytes 159 = .ok (.sipush 255, 3) := dk_17 0 255 (dk_at dksX1_processBytes_6 18 rfl rfl)
theorem dX1_processBytes_162 : decode cX1_processBytes 162 = .ok (.iand, 1) := dk_126 (dk_at dksX1_processBytes_6 21 rfl rfl)
theorem dX1_processBytes_163 : decode cX1_processBytes 163 = .ok (.baload, 1) := dk_51 (dk_at dksX1_processBytes_6 22 rfl rfl)
theorem dX1_processBytes_164 : decode cX1_processBytes 164 = .ok (.ixor, 1) := dk_130 (dk_at dksX1_processBytes_6 23 rfl rfl)
theorem dX1_processBytes_165 : decode cX1_processBytes 165 = .ok (.i2b, 1) := dk_145 (dk_at dksX1_processBytes_7 0 rfl rfl)
theorem dX1_processBytes_166 : decode cX1_processBytes 166 = .ok (.bastore, 1) := dk_84 (dk_at dksX1_processBytes_7 1 rfl rfl)
theorem dX1_processBytes_167 : decode cX1_processBytes 167 = .ok (.iinc 6 1, 3) := dk_132 6 1 (dk_at dksX1_processBytes_7 2 rfl rfl)
theorem dX1_processBytes_170 : decode cX1_processBytes 170 = .ok (.goto (-129), 3) := dk_167 255 127 (dk_at dksX1_processBytes_7 5 rfl rfl)
theorem dX1_processBytes_173 : decode cX1_processBytes 173 = .ok (.iload_n 3, 1) := dk_29 (dk_at dksX1_processBytes_7 8 rfl rfl)
theorem dX1_processBytes_174 : decode cX1_processBytes 174 = .ok (.ireturn, 1) := dk_172 (dk_at dksX1_processBytes_7 9 rfl rfl)
abbrev cX1_returnByte : ByteArray := prog_5_method_3_code
def yX1_returnByte : MethodName := ⟨RX1, "returnByte", "(B)B"⟩
def dkwX1_returnByte_4 : List UInt8 := [180, 0, 17, 51, 96, 17, 0, 255, 126, 51, 130, 145, 172]
abbrev dktX1_returnByte_4 : List UInt8 := dkwX1_returnByte_4 ++ []
def dkwX1_returnByte_3 : List UInt8 := [180, 0, 17, 28, 84, 27, 42, 180, 0, 7, 42, 180, 0, 7, 42, 180, 0, 13, 51, 42, 180, 0, 7, 42]
abbrev dktX1_returnByte_3 : List UInt8 := dkwX1_returnByte_3 ++ dktX1_returnByte_4
def dkwX1_returnByte_2 : List UInt8 := [180, 0, 7, 42, 180, 0, 13, 42, 180, 0, 7, 42, 180, 0, 17, 51, 84, 42, 180, 0, 7, 42]
abbrev dktX1_returnByte_2 : List UInt8 := dkwX1_returnByte_2 ++ dktX1_returnByte_3
def dkwX1_returnByte_1 : List UInt8 := [42, 180, 0, 17, 96, 17, 0, 255, 126, 181, 0, 17, 42, 180, 0, 7, 42, 180, 0, 13, 51, 61, 42]
abbrev dktX1_returnByte_1 : List UInt8 := dkwX1_returnByte_1 ++ dktX1_returnByte_2
def dkwX1_returnByte_0 : List UInt8 := [42, 42, 180, 0, 13, 4, 96, 17, 0, 255, 126, 181, 0, 13, 42, 42, 180, 0, 7, 42, 180, 0, 13, 51]
abbrev dktX1_returnByte_0 : List UInt8 := dkwX1_returnByte_0 ++ dktX1_returnByte_1
theorem dksX1_returnByte_0 : cX1_returnByte.data.toList.drop 0 = dktX1_returnByte_0 := by decide +kernel
theorem dksX1_returnByte_1 : cX1_returnByte.data.toList.drop 24 = dktX1_returnByte_1 := dk_seg dksX1_returnByte_0 24 rfl rfl
theorem dksX1_returnByte_2 : cX1_returnByte.data.toList.drop 47 = dktX1_returnByte_2 := dk_seg dksX1_returnByte_1 23 rfl rfl
theorem dksX1_returnByte_3 : cX1_returnByte.data.toList.drop 69 = dktX1_returnByte_3 := dk_seg dksX1_returnByte_2 22 rfl rfl
theorem dksX1_returnByte_4 : cX1_returnByte.data.toList.drop 93 = dktX1_returnByte_4 := dk_seg dksX1_returnByte_3 24 rfl rfl
theorem dX1_returnByte_0 : decode cX1_returnByte 0 = .ok (.aload_n 0, 1) := dk_42 (dk_at dksX1_returnByte_0 0 rfl rfl)
theorem dX1_returnByte_1 : decode cX1_returnByte 1 = .ok (.aload_n 0, 1) := dk_42 (dk_at dksX1_returnByte_0 1 rfl rfl)
theorem dX1_returnByte_2 : decode cX1_returnByte 2 = .ok (.getfield 13, 3) := dk_180 0 13 (dk_at dksX1_returnByte_0 2 rfl rfl)
theorem dX1_returnByte_5 : decode cX1_returnByte 5 = .ok (.iconst 1, 1) := dk_4 (dk_at dksX1_returnByte_0 5 rfl rfl)
theorem dX1_returnByte_6 : decode cX1_returnByte 6 = .ok (.iadd, 1) := dk_96 (dk_at dksX1_returnByte_0 6 rfl rfl)
theorem dX1_returnByte_7 : decode cX1_returnByte 7 = .ok (.sipush 255, 3) := dk_17 0 255 (dk_at dksX1_returnByte_0 7 rfl rfl)
theorem dX1_returnByte_10 : decode cX1_returnByte 10 = .ok (.iand, 1) := dk_126 (dk_at dksX1_returnByte_0 10 rfl rfl)
theorem dX1_returnByte_11 : decode cX1_returnByte 11 = .ok (.putfield 13, 3) := dk_181 0 13 (dk_at dksX1_returnByte_0 11 rfl rfl)
theorem dX1_returnByte_14 : decode cX1_returnByte 14 = .ok (.aload_n 0, 1) := dk_42 (dk_at dksX1_returnByte_0 14 rfl rfl)
theorem dX1_returnByte_15 : decode cX1_returnByte 15 = .ok (.aload_n 0, 1) := dk_42 (dk_at dksX1_returnByte_0 15 rfl rfl)
theorem dX1_returnByte_16 : decode cX1_returnByte 16 = .ok (.getfield 7, 3) := dk_180 0 7 (dk_at dksX1_returnByte_0 16 rfl rfl)
theorem dX1_returnByte_19 : decode cX1_returnByte 19 = .ok (.aload_n 0, 1) := dk_42 (dk_at dksX1_returnByte_0 19 rfl rfl)
theorem dX1_returnByte_20 : decode cX1_returnByte 20 = .ok (.getfield 13, 3) := dk_180 0 13 (dk_at dksX1_returnByte_0 20 rfl rfl)
theorem dX1_returnByte_23 : decode cX1_returnByte 23 = .ok (.baload, 1) := dk_51 (dk_at dksX1_returnByte_0 23 rfl rfl)
theorem dX1_returnByte_24 : decode cX1_returnByte 24 = .ok (.aload_n 0, 1) := dk_42 (dk_at dksX1_returnByte_1 0 rfl rfl)
theorem dX1_returnByte_25 : decode cX1_returnByte 25 = .ok (.getfield 17, 3) := dk_180 0 17 (dk_at dksX1_returnByte_1 1 rfl rfl)
theorem dX1_returnByte_28 : decode cX1_returnByte 28 = .ok (.iadd, 1) := dk_96 (dk_at dksX1_returnByte_1 4 rfl rfl)
theorem dX1_returnByte_29 : decode cX1_returnByte 29 = .ok (.sipush 255, 3) := dk_17 0 255 (dk_at dksX1_returnByte_1 5 rfl rfl)
theorem dX1_returnByte_32 : decode cX1_returnByte 32 = .ok (.iand, 1) := dk_126 (dk_at dksX1_returnByte_1 8 rfl rfl)
theorem dX1_returnByte_33 : decode cX1_returnByte 33 = .ok (.putfield 17, 3) := dk_181 0 17 (dk_at dksX1_returnByte_1 9 rfl rfl)
theorem dX1_returnByte_36 : decode cX1_returnByte 36 = .ok (.aload_n 0, 1) := dk_42 (dk_at dksX1_returnByte_1 12 rfl rfl)
theorem dX1_returnByte_37 : decode cX1_returnByte 37 = .ok (.getfield 7, 3) := dk_180 0 7 (dk_at dksX1_returnByte_1 13 rfl rfl)
theorem dX1_returnByte_40 : decode cX1_returnByte 40 = .ok (.aload_n 0, 1) := dk_42 (dk_at dksX1_returnByte_1 16 rfl rfl)
theorem dX1_returnByte_41 : decode cX1_returnByte 41 = .ok (.getfield 13, 3) := dk_180 0 13 (dk_at dksX1_returnByte_1 17 rfl rfl)
theorem dX1_returnByte_44 : decode cX1_returnByte 44 = .ok (.baload, 1) := dk_51 (dk_at dksX1_returnByte_1 20 rfl rfl)
theorem dX1_returnByte_45 : decode cX1_returnByte 45 = .ok (.istore_n 2, 1) := dk_61 (dk_at dksX1_returnByte_1 21 rfl rfl)
theorem dX1_returnByte_46 : decode cX1_returnByte 46 = .ok (.aload_n 0, 1) := dk_42 (dk_at dksX1_returnByte_1 22 rfl rfl)
theorem dX1_returnByte_47 : decode cX1_returnByte 47 = .ok (.getfield 7, 3) := dk_180 0 7 (dk_at dksX1_returnByte_2 0 rfl rfl)
theorem dX1_returnByte_50 : decode cX1_returnByte 50 = .ok (.aload_n 0, 1) := dk_42 (dk_at dksX1_returnByte_2 3 rfl rfl)
theorem dX1_returnByte_51 : decode cX1_returnByte 51 = .ok (.getfield 13, 3) := dk_180 0 13 (dk_at dksX1_returnByte_2 4 rfl rfl)
theorem dX1_returnByte_54 : decode cX1_returnByte 54 = .ok (.aload_n 0, 1) := dk_42 (dk_at dksX1_returnByte_2 7 rfl rfl)
theorem dX1_returnByte_55 : decode cX1_returnByte 55 = .ok (.getfield 7, 3) := dk_180 0 7 (dk_at dksX1_returnByte_2 8 rfl rfl)
theorem dX1_returnByte_58 : decode cX1_returnByte 58 = .ok (.aload_n 0, 1) := dk_42 (dk_at dksX1_returnByte_2 11 rfl rfl)
theorem dX1_returnByte_59 : decode cX1_returnByte 59 = .ok (.getfield 17, 3) := dk_180 0 17 (dk_at dksX1_returnByte_2 12 rfl rfl)
theorem dX1_returnByte_62 : decode cX1_returnByte 62 = .ok (.baload, 1) := dk_51 (dk_at dksX1_returnByte_2 15 rfl rfl)
theorem dX1_returnByte_63 : decode cX1_returnByte 63 = .ok (.bastore, 1) := dk_84 (dk_at dksX1_returnByte_2 16 rfl rfl)
theorem dX1_returnByte_64 : decode cX1_returnByte 64 = .ok (.aload_n 0, 1) := dk_42 (dk_at dksX1_returnByte_2 17 rfl rfl)
theorem dX1_returnByte_65 : decode cX1_returnByte 65 = .ok (.getfield 7, 3) := dk_180 0 7 (dk_at dksX1_returnByte_2 18 rfl rfl)
theorem dX1_returnByte_68 : decode cX1_returnByte 68 = .ok (.aload_n 0, 1) := dk_42 (dk_at dksX1_returnByte_2 21 rfl rfl)
theorem dX1_returnByte_69 : decode cX1_returnByte 69 = .ok (.getfield 17, 3) := dk_180 0 17 (dk_at dksX1_returnByte_3 0 rfl rfl)
theorem dX1_returnByte_72 : decode cX1_returnByte 72 = .ok (.iload_n 2, 1) := dk_28 (dk_at dksX1_returnByte_3 3 rfl rfl)
theorem dX1_returnByte_73 : decode cX1_returnByte 73 = .ok (.bastore, 1) := dk_84 (dk_at dksX1_returnByte_3 4 rfl rfl)
theorem dX1_returnByte_74 : decode cX1_returnByte 74 = .ok (.iload_n 1, 1) := dk_27 (dk_at dksX1_returnByte_3 5 rfl rfl)
theorem dX1_returnByte_75 : decode cX1_returnByte 75 = .ok (.aload_n 0, 1) := dk_42 (dk_at dksX1_returnByte_3 6 rfl rfl)
theorem dX1_returnByte_76 : decode cX1_returnByte 76 = .ok (.getfield 7, 3) := dk_180 0 7 (dk_at dksX1_returnByte_3 7 rfl rfl)
theorem dX1_returnByte_79 : decode cX1_returnByte 79 = .ok (.aload_n 0, 1) := dk_42 (dk_at dksX1_returnByte_3 10 rfl rfl)
theorem dX1_returnByte_80 : decode cX1_returnByte 80 = .ok (.getfield 7, 3) := dk_180 0 7 (dk_at dksX1_returnByte_3 11 rfl rfl)
theorem dX1_returnByte_83 : decode cX1_returnByte 83 = .ok (.aload_n 0, 1) := dk_42 (dk_at dksX1_returnByte_3 14 rfl rfl)
theorem dX1_returnByte_84 : decode cX1_returnByte 84 = .ok (.getfield 13, 3) := dk_180 0 13 (dk_at dksX1_returnByte_3 15 rfl rfl)
theorem dX1_returnByte_87 : decode cX1_returnByte 87 = .ok (.baload, 1) := dk_51 (dk_at dksX1_returnByte_3 18 rfl rfl)
theorem dX1_returnByte_88 : decode cX1_returnByte 88 = .ok (.aload_n 0, 1) := dk_42 (dk_at dksX1_returnByte_3 19 rfl rfl)
theorem dX1_returnByte_89 : decode cX1_returnByte 89 = .ok (.getfield 7, 3) := dk_180 0 7 (dk_at dksX1_returnByte_3 20 rfl rfl)
theorem dX1_returnByte_92 : decode cX1_returnByte 92 = .ok (.aload_n 0, 1) := dk_42 (dk_at dksX1_returnByte_3 23 rfl rfl)
theorem dX1_returnByte_93 : decode cX1_returnByte 93 = .ok (.getfield 17, 3) := dk_180 0 17 (dk_at dksX1_returnByte_4 0 rfl rfl)
theorem dX1_returnByte_96 : decode cX1_returnByte 96 = .ok (.baload, 1) := dk_51 (dk_at dksX1_returnByte_4 3 rfl rfl)
theorem dX1_returnByte_97 : decode cX1_returnByte 97 = .ok (.iadd, 1) := dk_96 (dk_at dksX1_returnByte_4 4 rfl rfl)
theorem dX1_returnByte_98 : decode cX1_returnByte 98 = .ok (.sipush 255, 3) := dk_17 0 255 (dk_at dksX1_returnByte_4 5 rfl rfl)
theorem dX1_returnByte_101 : decode cX1_returnByte 101 = .ok (.iand, 1) := dk_126 (dk_at dksX1_returnByte_4 8 rfl rfl)
theorem dX1_returnByte_102 : decode cX1_returnByte 102 = .ok (.baload, 1) := dk_51 (dk_at dksX1_returnByte_4 9 rfl rfl)
theorem dX1_returnByte_103 : decode cX1_returnByte 103 = .ok (.ixor, 1) := dk_130 (dk_at dksX1_returnByte_4 10 rfl rfl)
theorem dX1_returnByte_104 : decode cX1_returnByte 104 = .ok (.i2b, 1) := dk_145 (dk_at dksX1_returnByte_4 11 rfl rfl)
theorem dX1_returnByte_105 : decode cX1_returnByte 105 = .ok (.ireturn, 1) := dk_172 (dk_at dksX1_returnByte_4 12 rfl rfl)
abbrev cX1_reset : ByteArray := prog_5_method_5_code
def yX1_reset : MethodName := ⟨RX1, "reset", "()V"⟩
def dkwX1_reset_0 : List UInt8 := [42, 42, 180, 0, 20, 182, 0, 33, 177]
abbrev dktX1_reset_0 : List UInt8 := dkwX1_reset_0 ++ []
theorem dksX1_reset_0 : cX1_reset.data.toList.drop 0 = dktX1_reset_0 := by decide +kernel
theorem dX1_reset_0 : decode cX1_reset 0 = .ok (.aload_n 0, 1) := dk_42 (dk_at dksX1_reset_0 0 rfl rfl)
theorem dX1_reset_1 : decode cX1_reset 1 = .ok (.aload_n 0, 1) := dk_42 (dk_at dksX1_reset_0 1 rfl rfl)
theorem dX1_reset_2 : decode cX1_reset 2 = .ok (.getfield 20, 3) := dk_180 0 20 (dk_at dksX1_reset_0 2 rfl rfl)
theorem dX1_reset_5 : decode cX1_reset 5 = .ok (.invokevirtual 33, 3) := dk_182 0 33 (dk_at dksX1_reset_0 5 rfl rfl)
theorem dX1_reset_8 : decode cX1_reset 8 = .ok (.return_, 1) := dk_177 (dk_at dksX1_reset_0 8 rfl rfl)
theorem q10 : (Jvm.Cond.initialized "RC4Engine") ∈ lw_all := lw_g (lw_at lw_m1 2 rfl) rfl
theorem q30 : (Jvm.Cond.instantiable "RC4Engine" (5 : Nat)) ∈ lw_all := lw_g (lw_at lw_m1 22 rfl) rfl
theorem q32 : (Jvm.Cond.instanceMethod ({ cls := "RC4Engine", name := "<init>", desc := "()V" } : Jvm.MethodName)) ∈ lw_all := lw_g (lw_at lw_m1 24 rfl) rfl
theorem q33 : (Jvm.Cond.code ({ cls := "RC4Engine", name := "<init>", desc := "()V" } : Jvm.MethodName) prog_5_method_1_code (1 : Nat) (Option.none : Option Jvm.ClassFile.FieldType)) ∈ lw_all := lw_g (lw_at lw_m1 25 rfl) rfl
theorem q34 : (Jvm.Cond.methodLink "RC4Engine" (1 : Nat) ({ cls := "java/lang/Object", name := "<init>", desc := "()V" } : Jvm.MethodName)) ∈ lw_all := lw_g (lw_at lw_m1 26 rfl) rfl
theorem q35 : (Jvm.Cond.fieldLink "RC4Engine" (7 : Nat) "RC4Engine" "engineState" "[B") ∈ lw_all := lw_g (lw_at lw_m1 27 rfl) rfl
theorem q36 : (Jvm.Cond.fieldLink "RC4Engine" (13 : Nat) "RC4Engine" "x" "I") ∈ lw_all := lw_g (lw_at lw_m1 28 rfl) rfl
theorem q37 : (Jvm.Cond.fieldLink "RC4Engine" (17 : Nat) "RC4Engine" "y" "I") ∈ lw_all := lw_g (lw_at lw_m1 29 rfl) rfl
theorem q38 : (Jvm.Cond.fieldLink "RC4Engine" (20 : Nat) "RC4Engine" "workingKey" "[B") ∈ lw_all := lw_g (lw_at lw_m1 30 rfl) rfl
theorem q39 : (Jvm.Cond.fieldLink "RC4Engine" (29 : Nat) "RC4Engine" "forEncryption" "Z") ∈ lw_all := lw_g (lw_at lw_m1 31 rfl) rfl
theorem q40 : (Jvm.Cond.lays "RC4Engine" "RC4Engine" "engineState" "[B") ∈ lw_all := lw_g (lw_at lw_m1 32 rfl) rfl
theorem q41 : (Jvm.Cond.soleField "RC4Engine" "engineState") ∈ lw_all := lw_g (lw_at lw_m1 33 rfl) rfl
theorem q42 : (Jvm.Cond.lays "RC4Engine" "RC4Engine" "x" "I") ∈ lw_all := lw_g (lw_at lw_m1 34 rfl) rfl
theorem q43 : (Jvm.Cond.soleField "RC4Engine" "x") ∈ lw_all := lw_g (lw_at lw_m1 35 rfl) rfl
theorem q44 : (Jvm.Cond.lays "RC4Engine" "RC4Engine" "y" "I") ∈ lw_all := lw_g (lw_at lw_m1 36 rfl) rfl
theorem q45 : (Jvm.Cond.soleField "RC4Engine" "y") ∈ lw_all := lw_g (lw_at lw_m1 37 rfl) rfl
theorem q46 : (Jvm.Cond.lays "RC4Engine" "RC4Engine" "workingKey" "[B") ∈ lw_all := lw_g (lw_at lw_m1 38 rfl) rfl
theorem q47 : (Jvm.Cond.soleField "RC4Engine" "workingKey") ∈ lw_all := lw_g (lw_at lw_m1 39 rfl) rfl
theorem q48 : (Jvm.Cond.lays "RC4Engine" "RC4Engine" "forEncryption" "Z") ∈ lw_all := lw_g (lw_at lw_m1 40 rfl) rfl
theorem q49 : (Jvm.Cond.soleField "RC4Engine" "forEncryption") ∈ lw_all := lw_g (lw_at lw_m1 41 rfl) rfl
theorem q50 : (Jvm.Cond.superclass "RC4Engine" "java/lang/Object") ∈ lw_all := lw_g (lw_at lw_m1 42 rfl) rfl
theorem q125 : (Jvm.Cond.instanceMethod ({ cls := "RC4Engine", name := "init", desc := "(ZLCipherParameters;)V" } : Jvm.MethodName)) ∈ lw_all := lw_g (lw_at lw_m1 117 rfl) rfl
theorem q126 : (Jvm.Cond.selects "RC4Engine" ({ cls := "RC4Engine", name := "init", desc := "(ZLCipherParameters;)V" } : Jvm.MethodName) ({ cls := "RC4Engine", name := "init", desc := "(ZLCipherParameters;)V" } : Jvm.MethodName)) ∈ lw_all := lw_g (lw_at lw_m1 118 rfl) rfl
theorem q127 : (Jvm.Cond.code ({ cls := "RC4Engine", name := "init", desc := "(ZLCipherParameters;)V" } : Jvm.MethodName) prog_5_method_2_code (3 : Nat) (Option.none : Option Jvm.ClassFile.FieldType)) ∈ lw_all := lw_g (lw_at lw_m1 119 rfl) rfl
theorem q128 : (Jvm.Cond.classLink "RC4Engine" (23 : Nat) "KeyParameter") ∈ lw_all := lw_g (lw_at lw_m1 120 rfl) rfl
theorem q129 : (Jvm.Cond.methodLink "RC4Engine" (25 : Nat) ({ cls := "KeyParameter", name := "getKey", desc := "()[B" } : Jvm.MethodName)) ∈ lw_all := lw_g (lw_at lw_m1 121 rfl) rfl
theorem q133 : (Jvm.Cond.methodLink "RC4Engine" (33 : Nat) ({ cls := "RC4Engine", name := "setKey", desc := "([B)V" } : Jvm.MethodName)) ∈ lw_all := lw_g (lw_at lw_m1 125 rfl) rfl
theorem q134 : (Jvm.Cond.privateMethod ({ cls := "RC4Engine", name := "setKey", desc := "([B)V" } : Jvm.MethodName)) ∈ lw_tbl := lw_at lw_m1 126 rfl
theorem q135 : (Jvm.Cond.instanceMethod ({ cls := "RC4Engine", name := "setKey", desc := "([B)V" } : Jvm.MethodName)) ∈ lw_all := lw_g (lw_at lw_m1 127 rfl) rfl
theorem q136 : (Jvm.Cond.code ({ cls := "RC4Engine", name := "setKey", desc := "([B)V" } : Jvm.MethodName) prog_5_method_6_code (6 : Nat) (Option.none : Option Jvm.ClassFile.FieldType)) ∈ lw_all := lw_g (lw_at lw_m1 128 rfl) rfl
theorem q137 : (Jvm.Cond.classLink "RC4Engine" (37 : Nat) "java/lang/IllegalArgumentException") ∈ lw_all := lw_g (lw_at lw_m1 129 rfl) rfl
theorem q178 : (Jvm.Cond.stringRef "RC4Engine" (39 : Nat) "left out") ∈ lw_tbl := lw_at lw_m1 170 rfl
theorem q179 : (Jvm.Cond.methodLink "RC4Engine" (41 : Nat) ({ cls := "java/lang/IllegalArgumentException", name := "<init>", desc := "(Ljava/lang/String;)V" } : Jvm.MethodName)) ∈ lw_all := lw_g (lw_at lw_m1 171 rfl) rfl
theorem q213 : (Jvm.Cond.instanceMethod ({ cls := "RC4Engine", name := "processBytes", desc := "([BII[BI)I" } : Jvm.MethodName)) ∈ lw_all := lw_g (lw_at lw_m1 205 rfl) rfl
theorem q214 : (Jvm.Cond.selects "RC4Engine" ({ cls := "RC4Engine", name := "processBytes", desc := "([BII[BI)I" } : Jvm.MethodName) ({ cls := "RC4Engine", name := "processBytes", desc := "([BII[BI)I" } : Jvm.MethodName)) ∈ lw_all := lw_g (lw_at lw_m1 206 rfl) rfl
theorem q215 : (Jvm.Cond.code ({ cls := "RC4Engine", name := "processBytes", desc := "([BII[BI)I" } : Jvm.MethodName) prog_5_method_4_code (8 : Nat) (Option.some Jvm.ClassFile.FieldType.int)) ∈ lw_all := lw_g (lw_at lw_m1 207 rfl) rfl
theorem q216 : (Jvm.Cond.classLink "RC4Engine" (44 : Nat) "DataLengthException") ∈ lw_all := lw_g (lw_at lw_m1 208 rfl) rfl
theorem q226 : (Jvm.Cond.stringRef "RC4Engine" (46 : Nat) "input buffer too short") ∈ lw_tbl := lw_at lw_m1 218 rfl
theorem q227 : (Jvm.Cond.methodLink "RC4Engine" (48 : Nat) ({ cls := "DataLengthException", name := "<init>", desc := "(Ljava/lang/String;)V" } : Jvm.MethodName)) ∈ lw_all := lw_g (lw_at lw_m1 219 rfl) rfl
theorem q236 : (Jvm.Cond.classLink "RC4Engine" (49 : Nat) "OutputLengthException") ∈ lw_all := lw_g (lw_at lw_m1 228 rfl) rfl
theorem q246 : (Jvm.Cond.stringRef "RC4Engine" (51 : Nat) "output buffer too short") ∈ lw_tbl := lw_at lw_m1 238 rfl
theorem q247 : (Jvm.Cond.methodLink "RC4Engine" (53 : Nat) ({ cls := "OutputLengthException", name := "<init>", desc := "(Ljava/lang/String;)V" } : Jvm.MethodName)) ∈ lw_all := lw_g (lw_at lw_m1 239 rfl) rfl
theorem q258 : (Jvm.Cond.instanceMethod ({ cls := "RC4Engine", name := "returnByte", desc := "(B)B" } : Jvm.MethodName)) ∈ lw_all := lw_g (lw_at lw_m2 10 rfl) rfl
theorem q259 : (Jvm.Cond.selects "RC4Engine" ({ cls := "RC4Engine", name := "returnByte", desc := "(B)B" } : Jvm.MethodName) ({ cls := "RC4Engine", name := "returnByte", desc := "(B)B" } : Jvm.MethodName)) ∈ lw_all := lw_g (lw_at lw_m2 11 rfl) rfl
theorem q260 : (Jvm.Cond.code ({ cls := "RC4Engine", name := "returnByte", desc := "(B)B" } : Jvm.MethodName) prog_5_method_3_code (3 : Nat) (Option.some Jvm.ClassFile.FieldType.byte)) ∈ lw_all := lw_g (lw_at lw_m2 12 rfl) rfl
theorem q266 : (Jvm.Cond.instanceMethod ({ cls := "RC4Engine", name := "reset", desc := "()V" } : Jvm.MethodName)) ∈ lw_all := lw_g (lw_at lw_m2 18 rfl) rfl
theorem q267 : (Jvm.Cond.selects "RC4Engine" ({ cls := "RC4Engine", name := "reset", desc := "()V" } : Jvm.MethodName) ({ cls := "RC4Engine", name := "reset", desc := "()V" } : Jvm.MethodName)) ∈ lw_all := lw_g (lw_at lw_m2 19 rfl) rfl
theorem q268 : (Jvm.Cond.code ({ cls := "RC4Engine", name := "reset", desc := "()V" } : Jvm.MethodName) prog_5_method_5_code (1 : Nat) (Option.none : Option Jvm.ClassFile.FieldType)) ∈ lw_all := lw_g (lw_at lw_m2 20 rfl) rfl
theorem in_X1 : ∀ w ∈ wsX10, w ∈ lw_all := lw_in wsX10 [40, 42, 44, 46, 48] (by decide +kernel) (by decide +kernel)
end
section
/-! RcFourDesk -/
set_option maxRecDepth 100000
def RX0 : String := "RcFourDesk"
def TX0 : u_T := fun k => match k with
  | 0 => ("RcFourDesk", "run", "LRC4Engine;", false)
  | 1 => ("RcFourDesk", "set", "Z", false)
  | 2 => ("RcFourDesk", "given", "I", false)
  | 3 => ("RcFourDesk", "key", "[B", true)
  | 4 => ("RcFourDesk", "nonce", "[B", true)
  | 5 => ("RcFourDesk", "text", "[B", true)
  | 6 => ("RcFourDesk", "size", "I", false)
  | _ => ("RcFourDesk", "out", "[B", false)
def tyX0 : Nat → FieldType := fun k => match k with
  | 0 => .object "RC4Engine"
  | 1 => .boolean
  | 2 => .int
  | 3 => .array .byte
  | 4 => .array .byte
  | 5 => .array .byte
  | 6 => .int
  | _ => .array .byte
abbrev wsX00 : List Cond := u_ws RX0 TX0 8
theorem nmX0 : ∀ a, a < 8 → ∀ b, b < 8 → a ≠ b → (TX0 a).2.1 ≠ (TX0 b).2.1 := by decide +kernel
theorem tyX0_ok : ∀ k, k < 8 → parseFieldDescriptor (TX0 k).2.2.1 = some (tyX0 k) := by decide +kernel
abbrev cX0_init : ByteArray := prog_6_method_1_code
def yX0_init : MethodName := ⟨RX0, "<init>", "()V"⟩
def dkwX0_init_1 : List UInt8 := [16, 16, 188, 8, 181, 0, 20, 42, 17, 1, 0, 188, 8, 181, 0, 23, 42, 3, 188, 8, 181, 0, 26, 177]
abbrev dktX0_init_1 : List UInt8 := dkwX0_init_1 ++ []
def dkwX0_init_0 : List UInt8 := [42, 183, 0, 1, 42, 187, 0, 7, 89, 183, 0, 9, 181, 0, 10, 42, 16, 32, 188, 8, 181, 0, 16, 42]
abbrev dktX0_init_0 : List UInt8 := dkwX0_init_0 ++ dktX0_init_1
theorem dksX0_init_0 : cX0_init.data.toList.drop 0 = dktX0_init_0 := by decide +kernel
theorem dksX0_init_1 : cX0_init.data.toList.drop 24 = dktX0_init_1 := dk_seg dksX0_init_0 24 rfl rfl
theorem dX0_init_0 : decode cX0_init 0 = .ok (.aload_n 0, 1) := dk_42 (dk_at dksX0_init_0 0 rfl rfl)
theorem dX0_init_1 : decode cX0_init 1 = .ok (.invokespecial 1, 3) := dk_183 0 1 (dk_at dksX0_init_0 1 rfl rfl)
theorem dX0_init_4 : decode cX0_init 4 = .ok (.aload_n 0, 1) := dk_42 (dk_at dksX0_init_0 4 rfl rfl)
theorem dX0_init_5 : decode cX0_init 5 = .ok (.new 7, 3) := dk_187 0 7 (dk_at dksX0_init_0 5 rfl rfl)
theorem dX0_init_8 : decode cX0_init 8 = .ok (.dup, 1) := dk_89 (dk_at dksX0_init_0 8 rfl rfl)
theorem dX0_init_9 : decode cX0_init 9 = .ok (.invokespecial 9, 3) := dk_183 0 9 (dk_at dksX0_init_0 9 rfl rfl)
theorem dX0_init_12 : decode cX0_init 12 = .ok (.putfield 10, 3) := dk_181 0 10 (dk_at dksX0_init_0 12 rfl rfl)
theorem dX0_init_15 : decode cX0_init 15 = .ok (.aload_n 0, 1) := dk_42 (dk_at dksX0_init_0 15 rfl rfl)
theorem dX0_init_16 : decode cX0_init 16 = .ok (.bipush 32, 2) := dk_16 32 (dk_at dksX0_init_0 16 rfl rfl)
theorem dX0_init_18 : decode cX0_init 18 = .ok (.newarray .byte, 2) := dk_188_8 (dk_at dksX0_init_0 18 rfl rfl)
theorem dX0_init_20 : decode cX0_init 20 = .ok (.putfield 16, 3) := dk_181 0 16 (dk_at dksX0_init_0 20 rfl rfl)
theorem dX0_init_23 : decode cX0_init 23 = .ok (.aload_n 0, 1) := dk_42 (dk_at dksX0_init_0 23 rfl rfl)
theorem dX0_init_24 : decode cX0_init 24 = .ok (.bipush 16, 2) := dk_16 16 (dk_at dksX0_init_1 0 rfl rfl)
theorem dX0_init_26 : decode cX0_init 26 = .ok (.newarray .byte, 2) := dk_188_8 (dk_at dksX0_init_1 2 rfl rfl)
theorem dX0_init_28 : decode cX0_init 28 = .ok (.putfield 20, 3) := dk_181 0 20 (dk_at dksX0_init_1 4 rfl rfl)
theorem dX0_init_31 : decode cX0_init 31 = .ok (.aload_n 0, 1) := dk_42 (dk_at dksX0_init_1 7 rfl rfl)
theorem dX0_init_32 : decode cX0_init 32 = .ok (.sipush 256, 3) := dk_17 1 0 (dk_at dksX0_init_1 8 rfl rfl)
theorem dX0_init_35 : decode cX0_init 35 = .ok (.newarray .byte, 2) := dk_188_8 (dk_at dksX0_init_1 11 rfl rfl)
theorem dX0_init_37 : decode cX0_init 37 = .ok (.putfield 23, 3) := dk_181 0 23 (dk_at dksX0_init_1 13 rfl rfl)
theorem dX0_init_40 : decode cX0_init 40 = .ok (.aload_n 0, 1) := dk_42 (dk_at dksX0_init_1 16 rfl rfl)
theorem dX0_init_41 : decode cX0_init 41 = .ok (.iconst 0, 1) := dk_3 (dk_at dksX0_init_1 17 rfl rfl)
theorem dX0_init_42 : decode cX0_init 42 = .ok (.newarray .byte, 2) := dk_188_8 (dk_at dksX0_init_1 18 rfl rfl)
theorem dX0_init_44 : decode cX0_init 44 = .ok (.putfield 26, 3) := dk_181 0 26 (dk_at dksX0_init_1 20 rfl rfl)
theorem dX0_init_47 : decode cX0_init 47 = .ok (.return_, 1) := dk_177 (dk_at dksX0_init_1 23 rfl rfl)
abbrev cX0_put : ByteArray := prog_6_method_2_code
def yX0_put : MethodName := ⟨RX0, "put", "(IIII)Z"⟩
def dkwX0_put_3 : List UInt8 := [96, 21, 4, 184, 0, 33, 42, 89, 180, 0, 29, 16, 16, 96, 181, 0, 29, 4, 172]
abbrev dktX0_put_3 : List UInt8 := dkwX0_put_3 ++ []
def dkwX0_put_2 : List UInt8 := [180, 0, 23, 42, 180, 0, 29, 16, 8, 96, 29, 184, 0, 33, 42, 180, 0, 23, 42, 180, 0, 29, 16, 12]
abbrev dktX0_put_2 : List UInt8 := dkwX0_put_2 ++ dktX0_put_3
def dkwX0_put_1 : List UInt8 := [180, 0, 29, 27, 184, 0, 33, 42, 180, 0, 23, 42, 180, 0, 29, 7, 96, 28, 184, 0, 33, 42]
abbrev dktX0_put_1 : List UInt8 := dkwX0_put_1 ++ dktX0_put_2
def dkwX0_put_0 : List UInt8 := [42, 180, 0, 29, 42, 180, 0, 23, 190, 16, 16, 100, 164, 0, 5, 3, 172, 42, 180, 0, 23, 42]
abbrev dktX0_put_0 : List UInt8 := dkwX0_put_0 ++ dktX0_put_1
theorem dksX0_put_0 : cX0_put.data.toList.drop 0 = dktX0_put_0 := by decide +kernel
theorem dksX0_put_1 : cX0_put.data.toList.drop 22 = dktX0_put_1 := dk_seg dksX0_put_0 22 rfl rfl
theorem dksX0_put_2 : cX0_put.data.toList.drop 44 = dktX0_put_2 := dk_seg dksX0_put_1 22 rfl rfl
theorem dksX0_put_3 : cX0_put.data.toList.drop 68 = dktX0_put_3 := dk_seg dksX0_put_2 24 rfl rfl
theorem dX0_put_0 : decode cX0_put 0 = .ok (.aload_n 0, 1) := dk_42 (dk_at dksX0_put_0 0 rfl rfl)
theorem dX0_put_1 : decode cX0_put 1 = .ok (.getfield 29, 3) := dk_180 0 29 (dk_at dksX0_put_0 1 rfl rfl)
theorem dX0_put_4 : decode cX0_put 4 = .ok (.aload_n 0, 1) := dk_42 (dk_at dksX0_put_0 4 rfl rfl)
theorem dX0_put_5 : decode cX0_put 5 = .ok (.getfield 23, 3) := dk_180 0 23 (dk_at dksX0_put_0 5 rfl rfl)
theorem dX0_put_8 : decode cX0_put 8 = .ok (.arraylength, 1) := dk_190 (dk_at dksX0_put_0 8 rfl rfl)
theorem dX0_put_9 : decode cX0_put 9 = .ok (.bipush 16, 2) := dk_16 16 (dk_at dksX0_put_0 9 rfl rfl)
theorem dX0_put_11 : decode cX0_put 11 = .ok (.isub, 1) := dk_100 (dk_at dksX0_put_0 11 rfl rfl)
theorem dX0_put_12 : decode cX0_put 12 = .ok (.if_icmp .le 5, 3) := dk_164 0 5 (dk_at dksX0_put_0 12 rfl rfl)
theorem dX0_put_15 : decode cX0_put 15 = .ok (.iconst 0, 1) := dk_3 (dk_at dksX0_put_0 15 rfl rfl)
theorem dX0_put_16 : decode cX0_put 16 = .ok (.ireturn, 1) := dk_172 (dk_at dksX0_put_0 16 rfl rfl)
theorem dX0_put_17 : decode cX0_put 17 = .ok (.aload_n 0, 1) := dk_42 (dk_at dksX0_put_0 17 rfl rfl)
theorem dX0_put_18 : decode cX0_put 18 = .ok (.getfield 23, 3) := dk_180 0 23 (dk_at dksX0_put_0 18 rfl rfl)
theorem dX0_put_21 : decode cX0_put 21 = .ok (.aload_n 0, 1) := dk_42 (dk_at dksX0_put_0 21 rfl rfl)
theorem dX0_put_22 : decode cX0_put 22 = .ok (.getfield 29, 3) := dk_180 0 29 (dk_at dksX0_put_1 0 rfl rfl)
theorem dX0_put_25 : decode cX0_put 25 = .ok (.iload_n 1, 1) := dk_27 (dk_at dksX0_put_1 3 rfl rfl)
theorem dX0_put_26 : decode cX0_put 26 = .ok (.invokestatic 33, 3) := dk_184 0 33 (dk_at dksX0_put_1 4 rfl rfl)
theorem dX0_put_29 : decode cX0_put 29 = .ok (.aload_n 0, 1) := dk_42 (dk_at dksX0_put_1 7 rfl rfl)
theorem dX0_put_30 : decode cX0_put 30 = .ok (.getfield 23, 3) := dk_180 0 23 (dk_at dksX0_put_1 8 rfl rfl)
theorem dX0_put_33 : decode cX0_put 33 = .ok (.aload_n 0, 1) := dk_42 (dk_at dksX0_put_1 11 rfl rfl)
theorem dX0_put_34 : decode cX0_put 34 = .ok (.getfield 29, 3) := dk_180 0 29 (dk_at dksX0_put_1 12 rfl rfl)
theorem dX0_put_37 : decode cX0_put 37 = .ok (.iconst 4, 1) := dk_7 (dk_at dksX0_put_1 15 rfl rfl)
theorem dX0_put_38 : decode cX0_put 38 = .ok (.iadd, 1) := dk_96 (dk_at dksX0_put_1 16 rfl rfl)
theorem dX0_put_39 : decode cX0_put 39 = .ok (.iload_n 2, 1) := dk_28 (dk_at dksX0_put_1 17 rfl rfl)
theorem dX0_put_40 : decode cX0_put 40 = .ok (.invokestatic 33, 3) := dk_184 0 33 (dk_at dksX0_put_1 18 rfl rfl)
theorem dX0_put_43 : decode cX0_put 43 = .ok (.aload_n 0, 1) := dk_42 (dk_at dksX0_put_1 21 rfl rfl)
theorem dX0_put_44 : decode cX0_put 44 = .ok (.getfield 23, 3) := dk_180 0 23 (dk_at dksX0_put_2 0 rfl rfl)
theorem dX0_put_47 : decode cX0_put 47 = .ok (.aload_n 0, 1) := dk_42 (dk_at dksX0_put_2 3 rfl rfl)
theorem dX0_put_48 : decode cX0_put 48 = .ok (.getfield 29, 3) := dk_180 0 29 (dk_at dksX0_put_2 4 rfl rfl)
theorem dX0_put_51 : decode cX0_put 51 = .ok (.bipush 8, 2) := dk_16 8 (dk_at dksX0_put_2 7 rfl rfl)
theorem dX0_put_53 : decode cX0_put 53 = .ok (.iadd, 1) := dk_96 (dk_at dksX0_put_2 9 rfl rfl)
theorem dX0_put_54 : decode cX0_put 54 = .ok (.iload_n 3, 1) := dk_29 (dk_at dksX0_put_2 10 rfl rfl)
theorem dX0_put_55 : decode cX0_put 55 = .ok (.invokestatic 33, 3) := dk_184 0 33 (dk_at dksX0_put_2 11 rfl rfl)
theorem dX0_put_58 : decode cX0_put 58 = .ok (.aload_n 0, 1) := dk_42 (dk_at dksX0_put_2 14 rfl rfl)
theorem dX0_put_59 : decode cX0_put 59 = .ok (.getfield 23, 3) := dk_180 0 23 (dk_at dksX0_put_2 15 rfl rfl)
theorem dX0_put_62 : decode cX0_put 62 = .ok (.aload_n 0, 1) := dk_42 (dk_at dksX0_put_2 18 rfl rfl)
theorem dX0_put_63 : decode cX0_put 63 = .ok (.getfield 29, 3) := dk_180 0 29 (dk_at dksX0_put_2 19 rfl rfl)
theorem dX0_put_66 : decode cX0_put 66 = .ok (.bipush 12, 2) := dk_16 12 (dk_at dksX0_put_2 22 rfl rfl)
theorem dX0_put_68 : decode cX0_put 68 = .ok (.iadd, 1) := dk_96 (dk_at dksX0_put_3 0 rfl rfl)
theorem dX0_put_69 : decode cX0_put 69 = .ok (.iload 4, 2) := dk_21 4 (dk_at dksX0_put_3 1 rfl rfl)
theorem dX0_put_71 : decode cX0_put 71 = .ok (.invokestatic 33, 3) := dk_184 0 33 (dk_at dksX0_put_3 3 rfl rfl)
theorem dX0_put_74 : decode cX0_put 74 = .ok (.aload_n 0, 1) := dk_42 (dk_at dksX0_put_3 6 rfl rfl)
theorem dX0_put_75 : decode cX0_put 75 = .ok (.dup, 1) := dk_89 (dk_at dksX0_put_3 7 rfl rfl)
theorem dX0_put_76 : decode cX0_put 76 = .ok (.getfield 29, 3) := dk_180 0 29 (dk_at dksX0_put_3 8 rfl rfl)
theorem dX0_put_79 : decode cX0_put 79 = .ok (.bipush 16, 2) := dk_16 16 (dk_at dksX0_put_3 11 rfl rfl)
theorem dX0_put_81 : decode cX0_put 81 = .ok (.iadd, 1) := dk_96 (dk_at dksX0_put_3 13 rfl rfl)
theorem dX0_put_82 : decode cX0_put 82 = .ok (.putfield 29, 3) := dk_181 0 29 (dk_at dksX0_put_3 14 rfl rfl)
theorem dX0_put_85 : decode cX0_put 85 = .ok (.iconst 1, 1) := dk_4 (dk_at dksX0_put_3 17 rfl rfl)
theorem dX0_put_86 : decode cX0_put 86 = .ok (.ireturn, 1) := dk_172 (dk_at dksX0_put_3 18 rfl rfl)
abbrev cX0_word : ByteArray := prog_6_method_3_code
def yX0_word : MethodName := ⟨RX0, "word", "([BII)V"⟩
def dkwX0_word_1 : List UInt8 := [16, 8, 122, 145, 84, 42, 27, 6, 96, 28, 145, 84, 177]
abbrev dktX0_word_1 : List UInt8 := dkwX0_word_1 ++ []
def dkwX0_word_0 : List UInt8 := [42, 27, 28, 16, 24, 122, 145, 84, 42, 27, 4, 96, 28, 16, 16, 122, 145, 84, 42, 27, 5, 96, 28]
abbrev dktX0_word_0 : List UInt8 := dkwX0_word_0 ++ dktX0_word_1
theorem dksX0_word_0 : cX0_word.data.toList.drop 0 = dktX0_word_0 := by decide +kernel
theorem dksX0_word_1 : cX0_word.data.toList.drop 23 = dktX0_word_1 := dk_seg dksX0_word_0 23 rfl rfl
theorem dX0_word_0 : decode cX0_word 0 = .ok (.aload_n 0, 1) := dk_42 (dk_at dksX0_word_0 0 rfl rfl)
theorem dX0_word_1 : decode cX0_word 1 = .ok (.iload_n 1, 1) := dk_27 (dk_at dksX0_word_0 1 rfl rfl)
theorem dX0_word_2 : decode cX0_word 2 = .ok (.iload_n 2, 1) := dk_28 (dk_at dksX0_word_0 2 rfl rfl)
theorem dX0_word_3 : decode cX0_word 3 = .ok (.bipush 24, 2) := dk_16 24 (dk_at dksX0_word_0 3 rfl rfl)
theorem dX0_word_5 : decode cX0_word 5 = .ok (.ishr, 1) := dk_122 (dk_at dksX0_word_0 5 rfl rfl)
theorem dX0_word_6 : decode cX0_word 6 = .ok (.i2b, 1) := dk_145 (dk_at dksX0_word_0 6 rfl rfl)
theorem dX0_word_7 : decode cX0_word 7 = .ok (.bastore, 1) := dk_84 (dk_at dksX0_word_0 7 rfl rfl)
theorem dX0_word_8 : decode cX0_word 8 = .ok (.aload_n 0, 1) := dk_42 (dk_at dksX0_word_0 8 rfl rfl)
theorem dX0_word_9 : decode cX0_word 9 = .ok (.iload_n 1, 1) := dk_27 (dk_at dksX0_word_0 9 rfl rfl)
theorem dX0_word_10 : decode cX0_word 10 = .ok (.iconst 1, 1) := dk_4 (dk_at dksX0_word_0 10 rfl rfl)
theorem dX0_word_11 : decode cX0_word 11 = .ok (.iadd, 1) := dk_96 (dk_at dksX0_word_0 11 rfl rfl)
theorem dX0_word_12 : decode cX0_word 12 = .ok (.iload_n 2, 1) := dk_28 (dk_at dksX0_word_0 12 rfl rfl)
theorem dX0_word_13 : decode cX0_word 13 = .ok (.bipush 16, 2) := dk_16 16 (dk_at dksX0_word_0 13 rfl rfl)
theorem dX0_word_15 : decode cX0_word 15 = .ok (.ishr, 1) := dk_122 (dk_at dksX0_word_0 15 rfl rfl)
theorem dX0_word_16 : decode cX0_word 16 = .ok (.i2b, 1) := dk_145 (dk_at dksX0_word_0 16 rfl rfl)
theorem dX0_word_17 : decode cX0_word 17 = .ok (.bastore, 1) := dk_84 (dk_at dksX0_word_0 17 rfl rfl)
theorem dX0_word_18 : decode cX0_word 18 = .ok (.aload_n 0, 1) := dk_42 (dk_at dksX0_word_0 18 rfl rfl)
theorem dX0_word_19 : decode cX0_word 19 = .ok (.iload_n 1, 1) := dk_27 (dk_at dksX0_word_0 19 rfl rfl)
theorem dX0_word_20 : decode cX0_word 20 = .ok (.iconst 2, 1) := dk_5 (dk_at dksX0_word_0 20 rfl rfl)
theorem dX0_word_21 : decode cX0_word 21 = .ok (.iadd, 1) := dk_96 (dk_at dksX0_word_0 21 rfl rfl)
theorem dX0_word_22 : decode cX0_word 22 = .ok (.iload_n 2, 1) := dk_28 (dk_at dksX0_word_0 22 rfl rfl)
theorem dX0_word_23 : decode cX0_word 23 = .ok (.bipush 8, 2) := dk_16 8 (dk_at dksX0_word_1 0 rfl rfl)
theorem dX0_word_25 : decode cX0_word 25 = .ok (.ishr, 1) := dk_122 (dk_at dksX0_word_1 2 rfl rfl)
theorem dX0_word_26 : decode cX0_word 26 = .ok (.i2b, 1) := dk_145 (dk_at dksX0_word_1 3 rfl rfl)
theorem dX0_word_27 : decode cX0_word 27 = .ok (.bastore, 1) := dk_84 (dk_at dksX0_word_1 4 rfl rfl)
theorem dX0_word_28 : decode cX0_word 28 = .ok (.aload_n 0, 1) := dk_42 (dk_at dksX0_word_1 5 rfl rfl)
theorem dX0_word_29 : decode cX0_word 29 = .ok (.iload_n 1, 1) := dk_27 (dk_at dksX0_word_1 6 rfl rfl)
theorem dX0_word_30 : decode cX0_word 30 = .ok (.iconst 3, 1) := dk_6 (dk_at dksX0_word_1 7 rfl rfl)
theorem dX0_word_31 : decode cX0_word 31 = .ok (.iadd, 1) := dk_96 (dk_at dksX0_word_1 8 rfl rfl)
theorem dX0_word_32 : decode cX0_word 32 = .ok (.iload_n 2, 1) := dk_28 (dk_at dksX0_word_1 9 rfl rfl)
theorem dX0_word_33 : decode cX0_word 33 = .ok (.i2b, 1) := dk_145 (dk_at dksX0_word_1 10 rfl rfl)
theorem dX0_word_34 : decode cX0_word 34 = .ok (.bastore, 1) := dk_84 (dk_at dksX0_word_1 11 rfl rfl)
theorem dX0_word_35 : decode cX0_word 35 = .ok (.return_, 1) := dk_177 (dk_at dksX0_word_1 12 rfl rfl)
abbrev cX0_trim : ByteArray := prog_6_method_4_code
def yX0_trim : MethodName := ⟨RX0, "trim", "(I)V"⟩
def dkwX0_trim_0 : List UInt8 := [42, 42, 27, 182, 0, 37, 181, 0, 29, 177]
abbrev dktX0_trim_0 : List UInt8 := dkwX0_trim_0 ++ []
theorem dksX0_trim_0 : cX0_trim.data.toList.drop 0 = dktX0_trim_0 := by decide +kernel
theorem dX0_trim_0 : decode cX0_trim 0 = .ok (.aload_n 0, 1) := dk_42 (dk_at dksX0_trim_0 0 rfl rfl)
theorem dX0_trim_1 : decode cX0_trim 1 = .ok (.aload_n 0, 1) := dk_42 (dk_at dksX0_trim_0 1 rfl rfl)
theorem dX0_trim_2 : decode cX0_trim 2 = .ok (.iload_n 1, 1) := dk_27 (dk_at dksX0_trim_0 2 rfl rfl)
theorem dX0_trim_3 : decode cX0_trim 3 = .ok (.invokevirtual 37, 3) := dk_182 0 37 (dk_at dksX0_trim_0 3 rfl rfl)
theorem dX0_trim_6 : decode cX0_trim 6 = .ok (.putfield 29, 3) := dk_181 0 29 (dk_at dksX0_trim_0 6 rfl rfl)
theorem dX0_trim_9 : decode cX0_trim 9 = .ok (.return_, 1) := dk_177 (dk_at dksX0_trim_0 9 rfl rfl)
abbrev cX0_from : ByteArray := prog_6_method_5_code
def yX0_from : MethodName := ⟨RX0, "from", "(I)I"⟩
def dkwX0_from_0 : List UInt8 := [27, 18, 41, 126, 42, 180, 0, 29, 4, 96, 112, 172]
abbrev dktX0_from_0 : List UInt8 := dkwX0_from_0 ++ []
theorem dksX0_from_0 : cX0_from.data.toList.drop 0 = dktX0_from_0 := by decide +kernel
theorem dX0_from_0 : decode cX0_from 0 = .ok (.iload_n 1, 1) := dk_27 (dk_at dksX0_from_0 0 rfl rfl)
theorem dX0_from_1 : decode cX0_from 1 = .ok (.ldc 41, 2) := dk_18 41 (dk_at dksX0_from_0 1 rfl rfl)
theorem dX0_from_3 : decode cX0_from 3 = .ok (.iand, 1) := dk_126 (dk_at dksX0_from_0 3 rfl rfl)
theorem dX0_from_4 : decode cX0_from 4 = .ok (.aload_n 0, 1) := dk_42 (dk_at dksX0_from_0 4 rfl rfl)
theorem dX0_from_5 : decode cX0_from 5 = .ok (.getfield 29, 3) := dk_180 0 29 (dk_at dksX0_from_0 5 rfl rfl)
theorem dX0_from_8 : decode cX0_from 8 = .ok (.iconst 1, 1) := dk_4 (dk_at dksX0_from_0 8 rfl rfl)
theorem dX0_from_9 : decode cX0_from 9 = .ok (.iadd, 1) := dk_96 (dk_at dksX0_from_0 9 rfl rfl)
theorem dX0_from_10 : decode cX0_from 10 = .ok (.irem, 1) := dk_112 (dk_at dksX0_from_0 10 rfl rfl)
theorem dX0_from_11 : decode cX0_from 11 = .ok (.ireturn, 1) := dk_172 (dk_at dksX0_from_0 11 rfl rfl)
abbrev cX0_key : ByteArray := prog_6_method_7_code
def yX0_key : MethodName := ⟨RX0, "key", "(IIIII)V"⟩
def dkwX0_key_2 : List UInt8 := [21, 6, 16, 12, 96, 21, 5, 184, 0, 33, 177]
abbrev dktX0_key_2 : List UInt8 := dkwX0_key_2 ++ []
def dkwX0_key_1 : List UInt8 := [96, 29, 184, 0, 33, 42, 180, 0, 16, 21, 6, 16, 8, 96, 21, 4, 184, 0, 33, 42, 180, 0, 16]
abbrev dktX0_key_1 : List UInt8 := dkwX0_key_1 ++ dktX0_key_2
def dkwX0_key_0 : List UInt8 := [27, 4, 126, 7, 120, 54, 6, 42, 180, 0, 16, 21, 6, 28, 184, 0, 33, 42, 180, 0, 16, 21, 6, 7]
abbrev dktX0_key_0 : List UInt8 := dkwX0_key_0 ++ dktX0_key_1
theorem dksX0_key_0 : cX0_key.data.toList.drop 0 = dktX0_key_0 := by decide +kernel
theorem dksX0_key_1 : cX0_key.data.toList.drop 24 = dktX0_key_1 := dk_seg dksX0_key_0 24 rfl rfl
theorem dksX0_key_2 : cX0_key.data.toList.drop 47 = dktX0_key_2 := dk_seg dksX0_key_1 23 rfl rfl
theorem dX0_key_0 : decode cX0_key 0 = .ok (.iload_n 1, 1) := dk_27 (dk_at dksX0_key_0 0 rfl rfl)
theorem dX0_key_1 : decode cX0_key 1 = .ok (.iconst 1, 1) := dk_4 (dk_at dksX0_key_0 1 rfl rfl)
theorem dX0_key_2 : decode cX0_key 2 = .ok (.iand, 1) := dk_126 (dk_at dksX0_key_0 2 rfl rfl)
theorem dX0_key_3 : decode cX0_key 3 = .ok (.iconst 4, 1) := dk_7 (dk_at dksX0_key_0 3 rfl rfl)
theorem dX0_key_4 : decode cX0_key 4 = .ok (.ishl, 1) := dk_120 (dk_at dksX0_key_0 4 rfl rfl)
theorem dX0_key_5 : decode cX0_key 5 = .ok (.istore 6, 2) := dk_54 6 (dk_at dksX0_key_0 5 rfl rfl)
theorem dX0_key_7 : decode cX0_key 7 = .ok (.aload_n 0, 1) := dk_42 (dk_at dksX0_key_0 7 rfl rfl)
theorem dX0_key_8 : decode cX0_key 8 = .ok (.getfield 16, 3) := dk_180 0 16 (dk_at dksX0_key_0 8 rfl rfl)
theorem dX0_key_11 : decode cX0_key 11 = .ok (.iload 6, 2) := dk_21 6 (dk_at dksX0_key_0 11 rfl rfl)
theorem dX0_key_13 : decode cX0_key 13 = .ok (.iload_n 2, 1) := dk_28 (dk_at dksX0_key_0 13 rfl rfl)
theorem dX0_key_14 : decode cX0_key 14 = .ok (.invokestatic 33, 3) := dk_184 0 33 (dk_at dksX0_key_0 14 rfl rfl)
theorem dX0_key_17 : decode cX0_key 17 = .ok (.aload_n 0, 1) := dk_42 (dk_at dksX0_key_0 17 rfl rfl)
theorem dX0_key_18 : decode cX0_key 18 = .ok (.getfield 16, 3) := dk_180 0 16 (dk_at dksX0_key_0 18 rfl rfl)
theorem dX0_key_21 : decode cX0_key 21 = .ok (.iload 6, 2) := dk_21 6 (dk_at dksX0_key_0 21 rfl rfl)
theorem dX0_key_23 : decode cX0_key 23 = .ok (.iconst 4, 1) := dk_7 (dk_at dksX0_key_0 23 rfl rfl)
theorem dX0_key_24 : decode cX0_key 24 = .ok (.iadd, 1) := dk_96 (dk_at dksX0_key_1 0 rfl rfl)
theorem dX0_key_25 : decode cX0_key 25 = .ok (.iload_n 3, 1) := dk_29 (dk_at dksX0_key_1 1 rfl rfl)
theorem dX0_key_26 : decode cX0_key 26 = .ok (.invokestatic 33, 3) := dk_184 0 33 (dk_at dksX0_key_1 2 rfl rfl)
theorem dX0_key_29 : decode cX0_key 29 = .ok (.aload_n 0, 1) := dk_42 (dk_at dksX0_key_1 5 rfl rfl)
theorem dX0_key_30 : decode cX0_key 30 = .ok (.getfield 16, 3) := dk_180 0 16 (dk_at dksX0_key_1 6 rfl rfl)
theorem dX0_key_33 : decode cX0_key 33 = .ok (.iload 6, 2) := dk_21 6 (dk_at dksX0_key_1 9 rfl rfl)
theorem dX0_key_35 : decode cX0_key 35 = .ok (.bipush 8, 2) := dk_16 8 (dk_at dksX0_key_1 11 rfl rfl)
theorem dX0_key_37 : decode cX0_key 37 = .ok (.iadd, 1) := dk_96 (dk_at dksX0_key_1 13 rfl rfl)
theorem dX0_key_38 : decode cX0_key 38 = .ok (.iload 4, 2) := dk_21 4 (dk_at dksX0_key_1 14 rfl rfl)
theorem dX0_key_40 : decode cX0_key 40 = .ok (.invokestatic 33, 3) := dk_184 0 33 (dk_at dksX0_key_1 16 rfl rfl)
theorem dX0_key_43 : decode cX0_key 43 = .ok (.aload_n 0, 1) := dk_42 (dk_at dksX0_key_1 19 rfl rfl)
theorem dX0_key_44 : decode cX0_key 44 = .ok (.getfield 16, 3) := dk_180 0 16 (dk_at dksX0_key_1 20 rfl rfl)
theorem dX0_key_47 : decode cX0_key 47 = .ok (.iload 6, 2) := dk_21 6 (dk_at dksX0_key_2 0 rfl rfl)
theorem dX0_key_49 : decode cX0_key 49 = .ok (.bipush 12, 2) := dk_16 12 (dk_at dksX0_key_2 2 rfl rfl)
theorem dX0_key_51 : decode cX0_key 51 = .ok (.iadd, 1) := dk_96 (dk_at dksX0_key_2 4 rfl rfl)
theorem dX0_key_52 : decode cX0_key 52 = .ok (.iload 5, 2) := dk_21 5 (dk_at dksX0_key_2 5 rfl rfl)
theorem dX0_key_54 : decode cX0_key 54 = .ok (.invokestatic 33, 3) := dk_184 0 33 (dk_at dksX0_key_2 7 rfl rfl)
theorem dX0_key_57 : decode cX0_key 57 = .ok (.return_, 1) := dk_177 (dk_at dksX0_key_2 10 rfl rfl)
abbrev cX0_nonce : ByteArray := prog_6_method_8_code
def yX0_nonce : MethodName := ⟨RX0, "nonce", "(IIII)V"⟩
def dkwX0_nonce_1 : List UInt8 := [29, 184, 0, 33, 42, 180, 0, 20, 16, 12, 21, 4, 184, 0, 33, 177]
abbrev dktX0_nonce_1 : List UInt8 := dkwX0_nonce_1 ++ []
def dkwX0_nonce_0 : List UInt8 := [42, 180, 0, 20, 3, 27, 184, 0, 33, 42, 180, 0, 20, 7, 28, 184, 0, 33, 42, 180, 0, 20, 16, 8]
abbrev dktX0_nonce_0 : List UInt8 := dkwX0_nonce_0 ++ dktX0_nonce_1
theorem dksX0_nonce_0 : cX0_nonce.data.toList.drop 0 = dktX0_nonce_0 := by decide +kernel
theorem dksX0_nonce_1 : cX0_nonce.data.toList.drop 24 = dktX0_nonce_1 := dk_seg dksX0_nonce_0 24 rfl rfl
theorem dX0_nonce_0 : decode cX0_nonce 0 = .ok (.aload_n 0, 1) := dk_42 (dk_at dksX0_nonce_0 0 rfl rfl)
theorem dX0_nonce_1 : decode cX0_nonce 1 = .ok (.getfield 20, 3) := dk_180 0 20 (dk_at dksX0_nonce_0 1 rfl rfl)
theorem dX0_nonce_4 : decode cX0_nonce 4 = .ok (.iconst 0, 1) := dk_3 (dk_at dksX0_nonce_0 4 rfl rfl)
theorem dX0_nonce_5 : decode cX0_nonce 5 = .ok (.iload_n 1, 1) := dk_27 (dk_at dksX0_nonce_0 5 rfl rfl)
theorem dX0_nonce_6 : decode cX0_nonce 6 = .ok (.invokestatic 33, 3) := dk_184 0 33 (dk_at dksX0_nonce_0 6 rfl rfl)
theorem dX0_nonce_9 : decode cX0_nonce 9 = .ok (.aload_n 0, 1) := dk_42 (dk_at dksX0_nonce_0 9 rfl rfl)
theorem dX0_nonce_10 : decode cX0_nonce 10 = .ok (.getfield 20, 3) := dk_180 0 20 (dk_at dksX0_nonce_0 10 rfl rfl)
theorem dX0_nonce_13 : decode cX0_nonce 13 = .ok (.iconst 4, 1) := dk_7 (dk_at dksX0_nonce_0 13 rfl rfl)
theorem dX0_nonce_14 : decode cX0_nonce 14 = .ok (.iload_n 2, 1) := dk_28 (dk_at dksX0_nonce_0 14 rfl rfl)
theorem dX0_nonce_15 : decode cX0_nonce 15 = .ok (.invokestatic 33, 3) := dk_184 0 33 (dk_at dksX0_nonce_0 15 rfl rfl)
theorem dX0_nonce_18 : decode cX0_nonce 18 = .ok (.aload_n 0, 1) := dk_42 (dk_at dksX0_nonce_0 18 rfl rfl)
theorem dX0_nonce_19 : decode cX0_nonce 19 = .ok (.getfield 20, 3) := dk_180 0 20 (dk_at dksX0_nonce_0 19 rfl rfl)
theorem dX0_nonce_22 : decode cX0_nonce 22 = .ok (.bipush 8, 2) := dk_16 8 (dk_at dksX0_nonce_0 22 rfl rfl)
theorem dX0_nonce_24 : decode cX0_nonce 24 = .ok (.iload_n 3, 1) := dk_29 (dk_at dksX0_nonce_1 0 rfl rfl)
theorem dX0_nonce_25 : decode cX0_nonce 25 = .ok (.invokestatic 33, 3) := dk_184 0 33 (dk_at dksX0_nonce_1 1 rfl rfl)
theorem dX0_nonce_28 : decode cX0_nonce 28 = .ok (.aload_n 0, 1) := dk_42 (dk_at dksX0_nonce_1 4 rfl rfl)
theorem dX0_nonce_29 : decode cX0_nonce 29 = .ok (.getfield 20, 3) := dk_180 0 20 (dk_at dksX0_nonce_1 5 rfl rfl)
theorem dX0_nonce_32 : decode cX0_nonce 32 = .ok (.bipush 12, 2) := dk_16 12 (dk_at dksX0_nonce_1 8 rfl rfl)
theorem dX0_nonce_34 : decode cX0_nonce 34 = .ok (.iload 4, 2) := dk_21 4 (dk_at dksX0_nonce_1 10 rfl rfl)
theorem dX0_nonce_36 : decode cX0_nonce 36 = .ok (.invokestatic 33, 3) := dk_184 0 33 (dk_at dksX0_nonce_1 12 rfl rfl)
theorem dX0_nonce_39 : decode cX0_nonce 39 = .ok (.return_, 1) := dk_177 (dk_at dksX0_nonce_1 15 rfl rfl)
abbrev cX0_begin : ByteArray := prog_6_method_9_code
def yX0_begin : MethodName := ⟨RX0, "begin", "(I)V"⟩
def dkwX0_begin_3 : List UInt8 := [181, 0, 55, 177]
abbrev dktX0_begin_3 : List UInt8 := dkwX0_begin_3 ++ []
def dkwX0_begin_2 : List UInt8 := [183, 0, 9, 181, 0, 10, 42, 180, 0, 10, 4, 45, 182, 0, 47, 42, 4, 181, 0, 51, 42, 3]
abbrev dktX0_begin_2 : List UInt8 := dkwX0_begin_2 ++ dktX0_begin_3
def dkwX0_begin_1 : List UInt8 := [51, 84, 132, 3, 1, 167, 255, 238, 187, 0, 42, 89, 44, 183, 0, 44, 78, 42, 187, 0, 7, 89]
abbrev dktX0_begin_1 : List UInt8 := dkwX0_begin_1 ++ dktX0_begin_2
def dkwX0_begin_0 : List UInt8 := [4, 27, 16, 31, 126, 96, 188, 8, 77, 3, 62, 29, 44, 190, 162, 0, 18, 44, 29, 42, 180, 0, 16, 29]
abbrev dktX0_begin_0 : List UInt8 := dkwX0_begin_0 ++ dktX0_begin_1
theorem dksX0_begin_0 : cX0_begin.data.toList.drop 0 = dktX0_begin_0 := by decide +kernel
theorem dksX0_begin_1 : cX0_begin.data.toList.drop 24 = dktX0_begin_1 := dk_seg dksX0_begin_0 24 rfl rfl
theorem dksX0_begin_2 : cX0_begin.data.toList.drop 46 = dktX0_begin_2 := dk_seg dksX0_begin_1 22 rfl rfl
theorem dksX0_begin_3 : cX0_begin.data.toList.drop 68 = dktX0_begin_3 := dk_seg dksX0_begin_2 22 rfl rfl
theorem dX0_begin_0 : decode cX0_begin 0 = .ok (.iconst 1, 1) := dk_4 (dk_at dksX0_begin_0 0 rfl rfl)
theorem dX0_begin_1 : decode cX0_begin 1 = .ok (.iload_n 1, 1) := dk_27 (dk_at dksX0_begin_0 1 rfl rfl)
theorem dX0_begin_2 : decode cX0_begin 2 = .ok (.bipush 31, 2) := dk_16 31 (dk_at dksX0_begin_0 2 rfl rfl)
theorem dX0_begin_4 : decode cX0_begin 4 = .ok (.iand, 1) := dk_126 (dk_at dksX0_begin_0 4 rfl rfl)
theorem dX0_begin_5 : decode cX0_begin 5 = .ok (.iadd, 1) := dk_96 (dk_at dksX0_begin_0 5 rfl rfl)
theorem dX0_begin_6 : decode cX0_begin 6 = .ok (.newarray .byte, 2) := dk_188_8 (dk_at dksX0_begin_0 6 rfl rfl)
theorem dX0_begin_8 : decode cX0_begin 8 = .ok (.astore_n 2, 1) := dk_77 (dk_at dksX0_begin_0 8 rfl rfl)
theorem dX0_begin_9 : decode cX0_begin 9 = .ok (.iconst 0, 1) := dk_3 (dk_at dksX0_begin_0 9 rfl rfl)
theorem dX0_begin_10 : decode cX0_begin 10 = .ok (.istore_n 3, 1) := dk_62 (dk_at dksX0_begin_0 10 rfl rfl)
theorem dX0_begin_11 : decode cX0_begin 11 = .ok (.iload_n 3, 1) := dk_29 (dk_at dksX0_begin_0 11 rfl rfl)
theorem dX0_begin_12 : decode cX0_begin 12 = .ok (.aload_n 2, 1) := dk_44 (dk_at dksX0_begin_0 12 rfl rfl)
theorem dX0_begin_13 : decode cX0_begin 13 = .ok (.arraylength, 1) := dk_190 (dk_at dksX0_begin_0 13 rfl rfl)
theorem dX0_begin_14 : decode cX0_begin 14 = .ok (.if_icmp .ge 18, 3) := dk_162 0 18 (dk_at dksX0_begin_0 14 rfl rfl)
theorem dX0_begin_17 : decode cX0_begin 17 = .ok (.aload_n 2, 1) := dk_44 (dk_at dksX0_begin_0 17 rfl rfl)
theorem dX0_begin_18 : decode cX0_begin 18 = .ok (.iload_n 3, 1) := dk_29 (dk_at dksX0_begin_0 18 rfl rfl)
theorem dX0_begin_19 : decode cX0_begin 19 = .ok (.aload_n 0, 1) := dk_42 (dk_at dksX0_begin_0 19 rfl rfl)
theorem dX0_begin_20 : decode cX0_begin 20 = .ok (.getfield 16, 3) := dk_180 0 16 (dk_at dksX0_begin_0 20 rfl rfl)
theorem dX0_begin_23 : decode cX0_begin 23 = .ok (.iload_n 3, 1) := dk_29 (dk_at dksX0_begin_0 23 rfl rfl)
theorem dX0_begin_24 : decode cX0_begin 24 = .ok (.baload, 1) := dk_51 (dk_at dksX0_begin_1 0 rfl rfl)
theorem dX0_begin_25 : decode cX0_begin 25 = .ok (.bastore, 1) := dk_84 (dk_at dksX0_begin_1 1 rfl rfl)
theorem dX0_begin_26 : decode cX0_begin 26 = .ok (.iinc 3 1, 3) := dk_132 3 1 (dk_at dksX0_begin_1 2 rfl rfl)
theorem dX0_begin_29 : decode cX0_begin 29 = .ok (.goto (-18), 3) := dk_167 255 238 (dk_at dksX0_begin_1 5 rfl rfl)
theorem dX0_begin_32 : decode cX0_begin 32 = .ok (.new 42, 3) := dk_187 0 42 (dk_at dksX0_begin_1 8 rfl rfl)
theorem dX0_begin_35 : decode cX0_begin 35 = .ok (.dup, 1) := dk_89 (dk_at dksX0_begin_1 11 rfl rfl)
theorem dX0_begin_36 : decode cX0_begin 36 = .ok (.aload_n 2, 1) := dk_44 (dk_at dksX0_begin_1 12 rfl rfl)
theorem dX0_begin_37 : decode cX0_begin 37 = .ok (.invokespecial 44, 3) := dk_183 0 44 (dk_at dksX0_begin_1 13 rfl rfl)
theorem dX0_begin_40 : decode cX0_begin 40 = .ok (.astore_n 3, 1) := dk_78 (dk_at dksX0_begin_1 16 rfl rfl)
theorem dX0_begin_41 : decode cX0_begin 41 = .ok (.aload_n 0, 1) := dk_42 (dk_at dksX0_begin_1 17 rfl rfl)
theorem dX0_begin_42 : decode cX0_begin 42 = .ok (.new 7, 3) := dk_187 0 7 (dk_at dksX0_begin_1 18 rfl rfl)
theorem dX0_begin_45 : decode cX0_begin 45 = .ok (.dup, 1) := dk_89 (dk_at dksX0_begin_1 21 rfl rfl)
theorem dX0_begin_46 : decode cX0_begin 46 = .ok (.invokespecial 9, 3) := dk_183 0 9 (dk_at dksX0_begin_2 0 rfl rfl)
theorem dX0_begin_49 : decode cX0_begin 49 = .ok (.putfield 10, 3) := dk_181 0 10 (dk_at dksX0_begin_2 3 rfl rfl)
theorem dX0_begin_52 : decode cX0_begin 52 = .ok (.aload_n 0, 1) := dk_42 (dk_at dksX0_begin_2 6 rfl rfl)
theorem dX0_begin_53 : decode cX0_begin 53 = .ok (.getfield 10, 3) := dk_180 0 10 (dk_at dksX0_begin_2 7 rfl rfl)
theorem dX0_begin_56 : decode cX0_begin 56 = .ok (.iconst 1, 1) := dk_4 (dk_at dksX0_begin_2 10 rfl rfl)
theorem dX0_begin_57 : decode cX0_begin 57 = .ok (.aload_n 3, 1) := dk_45 (dk_at dksX0_begin_2 11 rfl rfl)
theorem dX0_begin_58 : decode cX0_begin 58 = .ok (.invokevirtual 47, 3) := dk_182 0 47 (dk_at dksX0_begin_2 12 rfl rfl)
theorem dX0_begin_61 : decode cX0_begin 61 = .ok (.aload_n 0, 1) := dk_42 (dk_at dksX0_begin_2 15 rfl rfl)
theorem dX0_begin_62 : decode cX0_begin 62 = .ok (.iconst 1, 1) := dk_4 (dk_at dksX0_begin_2 16 rfl rfl)
theorem dX0_begin_63 : decode cX0_begin 63 = .ok (.putfield 51, 3) := dk_181 0 51 (dk_at dksX0_begin_2 17 rfl rfl)
theorem dX0_begin_66 : decode cX0_begin 66 = .ok (.aload_n 0, 1) := dk_42 (dk_at dksX0_begin_2 20 rfl rfl)
theorem dX0_begin_67 : decode cX0_begin 67 = .ok (.iconst 0, 1) := dk_3 (dk_at dksX0_begin_2 21 rfl rfl)
theorem dX0_begin_68 : decode cX0_begin 68 = .ok (.putfield 55, 3) := dk_181 0 55 (dk_at dksX0_begin_3 0 rfl rfl)
theorem dX0_begin_71 : decode cX0_begin 71 = .ok (.return_, 1) := dk_177 (dk_at dksX0_begin_3 3 rfl rfl)
abbrev cX0_run : ByteArray := prog_6_method_10_code
def yX0_run : MethodName := ⟨RX0, "run", "(II)I"⟩
def dkwX0_run_3 : List UInt8 := [182, 0, 62, 87, 42, 25, 5, 181, 0, 26, 21, 4, 172]
abbrev dktX0_run_3 : List UInt8 := dkwX0_run_3 ++ []
def dkwX0_run_2 : List UInt8 := [181, 0, 55, 21, 4, 188, 8, 58, 5, 42, 180, 0, 10, 42, 180, 0, 23, 29, 21, 4, 25, 5, 3]
abbrev dktX0_run_2 : List UInt8 := dkwX0_run_2 ++ dktX0_run_3
def dkwX0_run_1 : List UInt8 := [180, 0, 55, 21, 4, 96, 17, 4, 0, 164, 0, 6, 16, 254, 172, 42, 89, 180, 0, 55, 21, 4, 96]
abbrev dktX0_run_1 : List UInt8 := dkwX0_run_1 ++ dktX0_run_2
def dkwX0_run_0 : List UInt8 := [42, 180, 0, 51, 154, 0, 5, 2, 172, 42, 27, 182, 0, 37, 62, 42, 29, 28, 182, 0, 58, 54, 4, 42]
abbrev dktX0_run_0 : List UInt8 := dkwX0_run_0 ++ dktX0_run_1
theorem dksX0_run_0 : cX0_run.data.toList.drop 0 = dktX0_run_0 := by decide +kernel
theorem dksX0_run_1 : cX0_run.data.toList.drop 24 = dktX0_run_1 := dk_seg dksX0_run_0 24 rfl rfl
theorem dksX0_run_2 : cX0_run.data.toList.drop 47 = dktX0_run_2 := dk_seg dksX0_run_1 23 rfl rfl
theorem dksX0_run_3 : cX0_run.data.toList.drop 70 = dktX0_run_3 := dk_seg dksX0_run_2 23 rfl rfl
theorem dX0_run_0 : decode cX0_run 0 = .ok (.aload_n 0, 1) := dk_42 (dk_at dksX0_run_0 0 rfl rfl)
theorem dX0_run_1 : decode cX0_run 1 = .ok (.getfield 51, 3) := dk_180 0 51 (dk_at dksX0_run_0 1 rfl rfl)
theorem dX0_run_4 : decode cX0_run 4 = .ok (.ifCond .ne 5, 3) := dk_154 0 5 (dk_at dksX0_run_0 4 rfl rfl)
theorem dX0_run_7 : decode cX0_run 7 = .ok (.iconst (-1), 1) := dk_2 (dk_at dksX0_run_0 7 rfl rfl)
theorem dX0_run_8 : decode cX0_run 8 = .ok (.ireturn, 1) := dk_172 (dk_at dksX0_run_0 8 rfl rfl)
theorem dX0_run_9 : decode cX0_run 9 = .ok (.aload_n 0, 1) := dk_42 (dk_at dksX0_run_0 9 rfl rfl)
theorem dX0_run_10 : decode cX0_run 10 = .ok (.iload_n 1, 1) := dk_27 (dk_at dksX0_run_0 10 rfl rfl)
theorem dX0_run_11 : decode cX0_run 11 = .ok (.invokevirtual 37, 3) := dk_182 0 37 (dk_at dksX0_run_0 11 rfl rfl)
theorem dX0_run_14 : decode cX0_run 14 = .ok (.istore_n 3, 1) := dk_62 (dk_at dksX0_run_0 14 rfl rfl)
theorem dX0_run_15 : decode cX0_run 15 = .ok (.aload_n 0, 1) := dk_42 (dk_at dksX0_run_0 15 rfl rfl)
theorem dX0_run_16 : decode cX0_run 16 = .ok (.iload_n 3, 1) := dk_29 (dk_at dksX0_run_0 16 rfl rfl)
theorem dX0_run_17 : decode cX0_run 17 = .ok (.iload_n 2, 1) := dk_28 (dk_at dksX0_run_0 17 rfl rfl)
theorem dX0_run_18 : decode cX0_run 18 = .ok (.invokevirtual 58, 3) := dk_182 0 58 (dk_at dksX0_run_0 18 rfl rfl)
theorem dX0_run_21 : decode cX0_run 21 = .ok (.istore 4, 2) := dk_54 4 (dk_at dksX0_run_0 21 rfl rfl)
theorem dX0_run_23 : decode cX0_run 23 = .ok (.aload_n 0, 1) := dk_42 (dk_at dksX0_run_0 23 rfl rfl)
theorem dX0_run_24 : decode cX0_run 24 = .ok (.getfield 55, 3) := dk_180 0 55 (dk_at dksX0_run_1 0 rfl rfl)
theorem dX0_run_27 : decode cX0_run 27 = .ok (.iload 4, 2) := dk_21 4 (dk_at dksX0_run_1 3 rfl rfl)
theorem dX0_run_29 : decode cX0_run 29 = .ok (.iadd, 1) := dk_96 (dk_at dksX0_run_1 5 rfl rfl)
theorem dX0_run_30 : decode cX0_run 30 = .ok (.sipush 1024, 3) := dk_17 4 0 (dk_at dksX0_run_1 6 rfl rfl)
theorem dX0_run_33 : decode cX0_run 33 = .ok (.if_icmp .le 6, 3) := dk_164 0 6 (dk_at dksX0_run_1 9 rfl rfl)
theorem dX0_run_36 : decode cX0_run 36 = .ok (.bipush (-2), 2) := dk_16 254 (dk_at dksX0_run_1 12 rfl rfl)
theorem dX0_run_38 : decode cX0_run 38 = .ok (.ireturn, 1) := dk_172 (dk_at dksX0_run_1 14 rfl rfl)
theorem dX0_run_39 : decode cX0_run 39 = .ok (.aload_n 0, 1) := dk_42 (dk_at dksX0_run_1 15 rfl rfl)
theorem dX0_run_40 : decode cX0_run 40 = .ok (.dup, 1) := dk_89 (dk_at dksX0_run_1 16 rfl rfl)
theorem dX0_run_41 : decode cX0_run 41 = .ok (.getfield 55, 3) := dk_180 0 55 (dk_at dksX0_run_1 17 rfl rfl)
theorem dX0_run_44 : decode cX0_run 44 = .ok (.iload 4, 2) := dk_21 4 (dk_at dksX0_run_1 20 rfl rfl)
theorem dX0_run_46 : decode cX0_run 46 = .ok (.iadd, 1) := dk_96 (dk_at dksX0_run_1 22 rfl rfl)
theorem dX0_run_47 : decode cX0_run 47 = .ok (.putfield 55, 3) := dk_181 0 55 (dk_at dksX0_run_2 0 rfl rfl)
theorem dX0_run_50 : decode cX0_run 50 = .ok (.iload 4, 2) := dk_21 4 (dk_at dksX0_run_2 3 rfl rfl)
theorem dX0_run_52 : decode cX0_run 52 = .ok (.newarray .byte, 2) := dk_188_8 (dk_at dksX0_run_2 5 rfl rfl)
theorem dX0_run_54 : decode cX0_run 54 = .ok (.astore 5, 2) := dk_58 5 (dk_at dksX0_run_2 7 rfl rfl)
theorem dX0_run_56 : decode cX0_run 56 = .ok (.aload_n 0, 1) := dk_42 (dk_at dksX0_run_2 9 rfl rfl)
theorem dX0_run_57 : decode cX0_run 57 = .ok (.getfield 10, 3) := dk_180 0 10 (dk_at dksX0_run_2 10 rfl rfl)
theorem dX0_run_60 : decode cX0_run 60 = .ok (.aload_n 0, 1) := dk_42 (dk_at dksX0_run_2 13 rfl rfl)
theorem dX0_run_61 : decode cX0_run 61 = .ok (.getfield 23, 3) := dk_180 0 23 (dk_at dksX0_run_2 14 rfl rfl)
theorem dX0_run_64 : decode cX0_run 64 = .ok (.iload_n 3, 1) := dk_29 (dk_at dksX0_run_2 17 rfl rfl)
theorem dX0_run_65 : decode cX0_run 65 = .ok (.iload 4, 2) := dk_21 4 (dk_at dksX0_run_2 18 rfl rfl)
theorem dX0_run_67 : decode cX0_run 67 = .ok (.aload 5, 2) := dk_25 5 (dk_at dksX0_run_2 20 rfl rfl)
theorem dX0_run_69 : decode cX0_run 69 = .ok (.iconst 0, 1) := dk_3 (dk_at dksX0_run_2 22 rfl rfl)
theorem dX0_run_70 : decode cX0_run 70 = .ok (.invokevirtual 62, 3) := dk_182 0 62 (dk_at dksX0_run_3 0 rfl rfl)
theorem dX0_run_73 : decode cX0_run 73 = .ok (.pop, 1) := dk_87 (dk_at dksX0_run_3 3 rfl rfl)
theorem dX0_run_74 : decode cX0_run 74 = .ok (.aload_n 0, 1) := dk_42 (dk_at dksX0_run_3 4 rfl rfl)
theorem dX0_run_75 : decode cX0_run 75 = .ok (.aload 5, 2) := dk_25 5 (dk_at dksX0_run_3 5 rfl rfl)
theorem dX0_run_77 : decode cX0_run 77 = .ok (.putfield 26, 3) := dk_181 0 26 (dk_at dksX0_run_3 7 rfl rfl)
theorem dX0_run_80 : decode cX0_run 80 = .ok (.iload 4, 2) := dk_21 4 (dk_at dksX0_run_3 10 rfl rfl)
theorem dX0_run_82 : decode cX0_run 82 = .ok (.ireturn, 1) := dk_172 (dk_at dksX0_run_3 12 rfl rfl)
abbrev cX0_count : ByteArray := prog_6_method_6_code
def yX0_count : MethodName := ⟨RX0, "count", "(II)I"⟩
def dkwX0_count_0 : List UInt8 := [28, 18, 41, 126, 42, 180, 0, 29, 27, 100, 4, 96, 112, 172]
abbrev dktX0_count_0 : List UInt8 := dkwX0_count_0 ++ []
theorem dksX0_count_0 : cX0_count.data.toList.drop 0 = dktX0_count_0 := by decide +kernel
theorem dX0_count_0 : decode cX0_count 0 = .ok (.iload_n 2, 1) := dk_28 (dk_at dksX0_count_0 0 rfl rfl)
theorem dX0_count_1 : decode cX0_count 1 = .ok (.ldc 41, 2) := dk_18 41 (dk_at dksX0_count_0 1 rfl rfl)
theorem dX0_count_3 : decode cX0_count 3 = .ok (.iand, 1) := dk_126 (dk_at dksX0_count_0 3 rfl rfl)
theorem dX0_count_4 : decode cX0_count 4 = .ok (.aload_n 0, 1) := dk_42 (dk_at dksX0_count_0 4 rfl rfl)
theorem dX0_count_5 : decode cX0_count 5 = .ok (.getfield 29, 3) := dk_180 0 29 (dk_at dksX0_count_0 5 rfl rfl)
theorem dX0_count_8 : decode cX0_count 8 = .ok (.iload_n 1, 1) := dk_27 (dk_at dksX0_count_0 8 rfl rfl)
theorem dX0_count_9 : decode cX0_count 9 = .ok (.isub, 1) := dk_100 (dk_at dksX0_count_0 9 rfl rfl)
theorem dX0_count_10 : decode cX0_count 10 = .ok (.iconst 1, 1) := dk_4 (dk_at dksX0_count_0 10 rfl rfl)
theorem dX0_count_11 : decode cX0_count 11 = .ok (.iadd, 1) := dk_96 (dk_at dksX0_count_0 11 rfl rfl)
theorem dX0_count_12 : decode cX0_count 12 = .ok (.irem, 1) := dk_112 (dk_at dksX0_count_0 12 rfl rfl)
theorem dX0_count_13 : decode cX0_count 13 = .ok (.ireturn, 1) := dk_172 (dk_at dksX0_count_0 13 rfl rfl)
abbrev cX0_one : ByteArray := prog_6_method_11_code
def yX0_one : MethodName := ⟨RX0, "one", "(I)I"⟩
def dkwX0_one_1 : List UInt8 := [180, 0, 55, 4, 96, 181, 0, 55, 42, 180, 0, 10, 27, 145, 182, 0, 66, 17, 0, 255, 126, 172]
abbrev dktX0_one_1 : List UInt8 := dkwX0_one_1 ++ []
def dkwX0_one_0 : List UInt8 := [42, 180, 0, 51, 154, 0, 5, 2, 172, 42, 180, 0, 55, 17, 4, 0, 161, 0, 6, 16, 254, 172, 42, 89]
abbrev dktX0_one_0 : List UInt8 := dkwX0_one_0 ++ dktX0_one_1
theorem dksX0_one_0 : cX0_one.data.toList.drop 0 = dktX0_one_0 := by decide +kernel
theorem dksX0_one_1 : cX0_one.data.toList.drop 24 = dktX0_one_1 := dk_seg dksX0_one_0 24 rfl rfl
theorem dX0_one_0 : decode cX0_one 0 = .ok (.aload_n 0, 1) := dk_42 (dk_at dksX0_one_0 0 rfl rfl)
theorem dX0_one_1 : decode cX0_one 1 = .ok (.getfield 51, 3) := dk_180 0 51 (dk_at dksX0_one_0 1 rfl rfl)
theorem dX0_one_4 : decode cX0_one 4 = .ok (.ifCond .ne 5, 3) := dk_154 0 5 (dk_at dksX0_one_0 4 rfl rfl)
theorem dX0_one_7 : decode cX0_one 7 = .ok (.iconst (-1), 1) := dk_2 (dk_at dksX0_one_0 7 rfl rfl)
theorem dX0_one_8 : decode cX0_one 8 = .ok (.ireturn, 1) := dk_172 (dk_at dksX0_one_0 8 rfl rfl)
theorem dX0_one_9 : decode cX0_one 9 = .ok (.aload_n 0, 1) := dk_42 (dk_at dksX0_one_0 9 rfl rfl)
theorem dX0_one_10 : decode cX0_one 10 = .ok (.getfield 55, 3) := dk_180 0 55 (dk_at dksX0_one_0 10 rfl rfl)
theorem dX0_one_13 : decode cX0_one 13 = .ok (.sipush 1024, 3) := dk_17 4 0 (dk_at dksX0_one_0 13 rfl rfl)
theorem dX0_one_16 : decode cX0_one 16 = .ok (.if_icmp .lt 6, 3) := dk_161 0 6 (dk_at dksX0_one_0 16 rfl rfl)
theorem dX0_one_19 : decode cX0_one 19 = .ok (.bipush (-2), 2) := dk_16 254 (dk_at dksX0_one_0 19 rfl rfl)
theorem dX0_one_21 : decode cX0_one 21 = .ok (.ireturn, 1) := dk_172 (dk_at dksX0_one_0 21 rfl rfl)
theorem dX0_one_22 : decode cX0_one 22 = .ok (.aload_n 0, 1) := dk_42 (dk_at dksX0_one_0 22 rfl rfl)
theorem dX0_one_23 : decode cX0_one 23 = .ok (.dup, 1) := dk_89 (dk_at dksX0_one_0 23 rfl rfl)
theorem dX0_one_24 : decode cX0_one 24 = .ok (.getfield 55, 3) := dk_180 0 55 (dk_at dksX0_one_1 0 rfl rfl)
theorem dX0_one_27 : decode cX0_one 27 = .ok (.iconst 1, 1) := dk_4 (dk_at dksX0_one_1 3 rfl rfl)
theorem dX0_one_28 : decode cX0_one 28 = .ok (.iadd, 1) := dk_96 (dk_at dksX0_one_1 4 rfl rfl)
theorem dX0_one_29 : decode cX0_one 29 = .ok (.putfield 55, 3) := dk_181 0 55 (dk_at dksX0_one_1 5 rfl rfl)
theorem dX0_one_32 : decode cX0_one 32 = .ok (.aload_n 0, 1) := dk_42 (dk_at dksX0_one_1 8 rfl rfl)
theorem dX0_one_33 : decode cX0_one 33 = .ok (.getfield 10, 3) := dk_180 0 10 (dk_at dksX0_one_1 9 rfl rfl)
theorem dX0_one_36 : decode cX0_one 36 = .ok (.iload_n 1, 1) := dk_27 (dk_at dksX0_one_1 12 rfl rfl)
theorem dX0_one_37 : decode cX0_one 37 = .ok (.i2b, 1) := dk_145 (dk_at dksX0_one_1 13 rfl rfl)
theorem dX0_one_38 : decode cX0_one 38 = .ok (.invokevirtual 66, 3) := dk_182 0 66 (dk_at dksX0_one_1 14 rfl rfl)
theorem dX0_one_41 : decode cX0_one 41 = .ok (.sipush 255, 3) := dk_17 0 255 (dk_at dksX0_one_1 17 rfl rfl)
theorem dX0_one_44 : decode cX0_one 44 = .ok (.iand, 1) := dk_126 (dk_at dksX0_one_1 20 rfl rfl)
theorem dX0_one_45 : decode cX0_one 45 = .ok (.ireturn, 1) := dk_172 (dk_at dksX0_one_1 21 rfl rfl)
abbrev cX0_again : ByteArray := prog_6_method_12_code
def yX0_again : MethodName := ⟨RX0, "again", "()V"⟩
def dkwX0_again_0 : List UInt8 := [42, 180, 0, 51, 153, 0, 15, 42, 180, 0, 10, 182, 0, 70, 42, 3, 181, 0, 55, 177]
abbrev dktX0_again_0 : List UInt8 := dkwX0_again_0 ++ []
theorem dksX0_again_0 : cX0_again.data.toList.drop 0 = dktX0_again_0 := by decide +kernel
theorem dX0_again_0 : decode cX0_again 0 = .ok (.aload_n 0, 1) := dk_42 (dk_at dksX0_again_0 0 rfl rfl)
theorem dX0_again_1 : decode cX0_again 1 = .ok (.getfield 51, 3) := dk_180 0 51 (dk_at dksX0_again_0 1 rfl rfl)
theorem dX0_again_4 : decode cX0_again 4 = .ok (.ifCond .eq 15, 3) := dk_153 0 15 (dk_at dksX0_again_0 4 rfl rfl)
theorem dX0_again_7 : decode cX0_again 7 = .ok (.aload_n 0, 1) := dk_42 (dk_at dksX0_again_0 7 rfl rfl)
theorem dX0_again_8 : decode cX0_again 8 = .ok (.getfield 10, 3) := dk_180 0 10 (dk_at dksX0_again_0 8 rfl rfl)
theorem dX0_again_11 : decode cX0_again 11 = .ok (.invokevirtual 70, 3) := dk_182 0 70 (dk_at dksX0_again_0 11 rfl rfl)
theorem dX0_again_14 : decode cX0_again 14 = .ok (.aload_n 0, 1) := dk_42 (dk_at dksX0_again_0 14 rfl rfl)
theorem dX0_again_15 : decode cX0_again 15 = .ok (.iconst 0, 1) := dk_3 (dk_at dksX0_again_0 15 rfl rfl)
theorem dX0_again_16 : decode cX0_again 16 = .ok (.putfield 55, 3) := dk_181 0 55 (dk_at dksX0_again_0 16 rfl rfl)
theorem dX0_again_19 : decode cX0_again 19 = .ok (.return_, 1) := dk_177 (dk_at dksX0_again_0 19 rfl rfl)
abbrev cX0_out : ByteArray := prog_6_method_13_code
def yX0_out : MethodName := ⟨RX0, "out", "(I)I"⟩
def dkwX0_out_1 : List UInt8 := [190, 112, 51, 17, 0, 255, 126, 172]
abbrev dktX0_out_1 : List UInt8 := dkwX0_out_1 ++ []
def dkwX0_out_0 : List UInt8 := [42, 180, 0, 26, 190, 154, 0, 7, 2, 167, 0, 22, 42, 180, 0, 26, 27, 18, 41, 126, 42, 180, 0, 26]
abbrev dktX0_out_0 : List UInt8 := dkwX0_out_0 ++ dktX0_out_1
theorem dksX0_out_0 : cX0_out.data.toList.drop 0 = dktX0_out_0 := by decide +kernel
theorem dksX0_out_1 : cX0_out.data.toList.drop 24 = dktX0_out_1 := dk_seg dksX0_out_0 24 rfl rfl
theorem dX0_out_0 : decode cX0_out 0 = .ok (.aload_n 0, 1) := dk_42 (dk_at dksX0_out_0 0 rfl rfl)
theorem dX0_out_1 : decode cX0_out 1 = .ok (.getfield 26, 3) := dk_180 0 26 (dk_at dksX0_out_0 1 rfl rfl)
theorem dX0_out_4 : decode cX0_out 4 = .ok (.arraylength, 1) := dk_190 (dk_at dksX0_out_0 4 rfl rfl)
theorem dX0_out_5 : decode cX0_out 5 = .ok (.ifCond .ne 7, 3) := dk_154 0 7 (dk_at dksX0_out_0 5 rfl rfl)
theorem dX0_out_8 : decode cX0_out 8 = .ok (.iconst (-1), 1) := dk_2 (dk_at dksX0_out_0 8 rfl rfl)
theorem dX0_out_9 : decode cX0_out 9 = .ok (.goto 22, 3) := dk_167 0 22 (dk_at dksX0_out_0 9 rfl rfl)
theorem dX0_out_12 : decode cX0_out 12 = .ok (.aload_n 0, 1) := dk_42 (dk_at dksX0_out_0 12 rfl rfl)
theorem dX0_out_13 : decode cX0_out 13 = .ok (.getfield 26, 3) := dk_180 0 26 (dk_at dksX0_out_0 13 rfl rfl)
theorem dX0_out_16 : decode cX0_out 16 = .ok (.iload_n 1, 1) := dk_27 (dk_at dksX0_out_0 16 rfl rfl)
theorem dX0_out_17 : decode cX0_out 17 = .ok (.ldc 41, 2) := dk_18 41 (dk_at dksX0_out_0 17 rfl rfl)
theorem dX0_out_19 : decode cX0_out 19 = .ok (.iand, 1) := dk_126 (dk_at dksX0_out_0 19 rfl rfl)
theorem dX0_out_20 : decode cX0_out 20 = .ok (.aload_n 0, 1) := dk_42 (dk_at dksX0_out_0 20 rfl rfl)
theorem dX0_out_21 : decode cX0_out 21 = .ok (.getfield 26, 3) := dk_180 0 26 (dk_at dksX0_out_0 21 rfl rfl)
theorem dX0_out_24 : decode cX0_out 24 = .ok (.arraylength, 1) := dk_190 (dk_at dksX0_out_1 0 rfl rfl)
theorem dX0_out_25 : decode cX0_out 25 = .ok (.irem, 1) := dk_112 (dk_at dksX0_out_1 1 rfl rfl)
theorem dX0_out_26 : decode cX0_out 26 = .ok (.baload, 1) := dk_51 (dk_at dksX0_out_1 2 rfl rfl)
theorem dX0_out_27 : decode cX0_out 27 = .ok (.sipush 255, 3) := dk_17 0 255 (dk_at dksX0_out_1 3 rfl rfl)
theorem dX0_out_30 : decode cX0_out 30 = .ok (.iand, 1) := dk_126 (dk_at dksX0_out_1 6 rfl rfl)
theorem dX0_out_31 : decode cX0_out 31 = .ok (.ireturn, 1) := dk_172 (dk_at dksX0_out_1 7 rfl rfl)
theorem q9 : (Jvm.Cond.initialized "RcFourDesk") ∈ lw_all := lw_g (lw_at lw_m1 1 rfl) rfl
theorem q22 : (Jvm.Cond.instantiable "RcFourDesk" (8 : Nat)) ∈ lw_all := lw_g (lw_at lw_m1 14 rfl) rfl
theorem q24 : (Jvm.Cond.instanceMethod ({ cls := "RcFourDesk", name := "<init>", desc := "()V" } : Jvm.MethodName)) ∈ lw_all := lw_g (lw_at lw_m1 16 rfl) rfl
theorem q25 : (Jvm.Cond.code ({ cls := "RcFourDesk", name := "<init>", desc := "()V" } : Jvm.MethodName) prog_6_method_1_code (1 : Nat) (Option.none : Option Jvm.ClassFile.FieldType)) ∈ lw_all := lw_g (lw_at lw_m1 17 rfl) rfl
theorem q26 : (Jvm.Cond.methodLink "RcFourDesk" (1 : Nat) ({ cls := "java/lang/Object", name := "<init>", desc := "()V" } : Jvm.MethodName)) ∈ lw_all := lw_g (lw_at lw_m1 18 rfl) rfl
theorem q29 : (Jvm.Cond.classLink "RcFourDesk" (7 : Nat) "RC4Engine") ∈ lw_all := lw_g (lw_at lw_m1 21 rfl) rfl
theorem q31 : (Jvm.Cond.methodLink "RcFourDesk" (9 : Nat) ({ cls := "RC4Engine", name := "<init>", desc := "()V" } : Jvm.MethodName)) ∈ lw_all := lw_g (lw_at lw_m1 23 rfl) rfl
theorem q51 : (Jvm.Cond.fieldLink "RcFourDesk" (10 : Nat) "RcFourDesk" "run" "LRC4Engine;") ∈ lw_all := lw_g (lw_at lw_m1 43 rfl) rfl
theorem q52 : (Jvm.Cond.fieldLink "RcFourDesk" (51 : Nat) "RcFourDesk" "set" "Z") ∈ lw_all := lw_g (lw_at lw_m1 44 rfl) rfl
theorem q53 : (Jvm.Cond.fieldLink "RcFourDesk" (55 : Nat) "RcFourDesk" "given" "I") ∈ lw_all := lw_g (lw_at lw_m1 45 rfl) rfl
theorem q54 : (Jvm.Cond.fieldLink "RcFourDesk" (16 : Nat) "RcFourDesk" "key" "[B") ∈ lw_all := lw_g (lw_at lw_m1 46 rfl) rfl
theorem q55 : (Jvm.Cond.fieldLink "RcFourDesk" (20 : Nat) "RcFourDesk" "nonce" "[B") ∈ lw_all := lw_g (lw_at lw_m1 47 rfl) rfl
theorem q56 : (Jvm.Cond.fieldLink "RcFourDesk" (23 : Nat) "RcFourDesk" "text" "[B") ∈ lw_all := lw_g (lw_at lw_m1 48 rfl) rfl
theorem q57 : (Jvm.Cond.fieldLink "RcFourDesk" (29 : Nat) "RcFourDesk" "size" "I") ∈ lw_all := lw_g (lw_at lw_m1 49 rfl) rfl
theorem q58 : (Jvm.Cond.fieldLink "RcFourDesk" (26 : Nat) "RcFourDesk" "out" "[B") ∈ lw_all := lw_g (lw_at lw_m1 50 rfl) rfl
theorem q59 : (Jvm.Cond.lays "RcFourDesk" "RcFourDesk" "run" "LRC4Engine;") ∈ lw_all := lw_g (lw_at lw_m1 51 rfl) rfl
theorem q60 : (Jvm.Cond.soleField "RcFourDesk" "run") ∈ lw_all := lw_g (lw_at lw_m1 52 rfl) rfl
theorem q61 : (Jvm.Cond.lays "RcFourDesk" "RcFourDesk" "set" "Z") ∈ lw_all := lw_g (lw_at lw_m1 53 rfl) rfl
theorem q62 : (Jvm.Cond.soleField "RcFourDesk" "set") ∈ lw_all := lw_g (lw_at lw_m1 54 rfl) rfl
theorem q63 : (Jvm.Cond.lays "RcFourDesk" "RcFourDesk" "given" "I") ∈ lw_all := lw_g (lw_at lw_m1 55 rfl) rfl
theorem q64 : (Jvm.Cond.soleField "RcFourDesk" "given") ∈ lw_all := lw_g (lw_at lw_m1 56 rfl) rfl
theorem q65 : (Jvm.Cond.laysFinal "RcFourDesk" "RcFourDesk" "key" "[B") ∈ lw_all := lw_g (lw_at lw_m1 57 rfl) rfl
theorem q66 : (Jvm.Cond.soleField "RcFourDesk" "key") ∈ lw_all := lw_g (lw_at lw_m1 58 rfl) rfl
theorem q67 : (Jvm.Cond.laysFinal "RcFourDesk" "RcFourDesk" "nonce" "[B") ∈ lw_all := lw_g (lw_at lw_m1 59 rfl) rfl
theorem q68 : (Jvm.Cond.soleField "RcFourDesk" "nonce") ∈ lw_all := lw_g (lw_at lw_m1 60 rfl) rfl
theorem q69 : (Jvm.Cond.laysFinal "RcFourDesk" "RcFourDesk" "text" "[B") ∈ lw_all := lw_g (lw_at lw_m1 61 rfl) rfl
theorem q70 : (Jvm.Cond.soleField "RcFourDesk" "text") ∈ lw_all := lw_g (lw_at lw_m1 62 rfl) rfl
theorem q71 : (Jvm.Cond.lays "RcFourDesk" "RcFourDesk" "size" "I") ∈ lw_all := lw_g (lw_at lw_m1 63 rfl) rfl
theorem q72 : (Jvm.Cond.soleField "RcFourDesk" "size") ∈ lw_all := lw_g (lw_at lw_m1 64 rfl) rfl
theorem q73 : (Jvm.Cond.lays "RcFourDesk" "RcFourDesk" "out" "[B") ∈ lw_all := lw_g (lw_at lw_m1 65 rfl) rfl
theorem q74 : (Jvm.Cond.soleField "RcFourDesk" "out") ∈ lw_all := lw_g (lw_at lw_m1 66 rfl) rfl
theorem q75 : (Jvm.Cond.superclass "RcFourDesk" "java/lang/Object") ∈ lw_all := lw_g (lw_at lw_m1 67 rfl) rfl
theorem q78 : (Jvm.Cond.instanceMethod ({ cls := "RcFourDesk", name := "put", desc := "(IIII)Z" } : Jvm.MethodName)) ∈ lw_all := lw_g (lw_at lw_m1 70 rfl) rfl
theorem q79 : (Jvm.Cond.selects "RcFourDesk" ({ cls := "RcFourDesk", name := "put", desc := "(IIII)Z" } : Jvm.MethodName) ({ cls := "RcFourDesk", name := "put", desc := "(IIII)Z" } : Jvm.MethodName)) ∈ lw_all := lw_g (lw_at lw_m1 71 rfl) rfl
theorem q80 : (Jvm.Cond.code ({ cls := "RcFourDesk", name := "put", desc := "(IIII)Z" } : Jvm.MethodName) prog_6_method_2_code (5 : Nat) (Option.some Jvm.ClassFile.FieldType.boolean)) ∈ lw_all := lw_g (lw_at lw_m1 72 rfl) rfl
theorem q81 : (Jvm.Cond.methodLink "RcFourDesk" (33 : Nat) ({ cls := "RcFourDesk", name := "word", desc := "([BII)V" } : Jvm.MethodName)) ∈ lw_all := lw_g (lw_at lw_m1 73 rfl) rfl
theorem q82 : (Jvm.Cond.static ({ cls := "RcFourDesk", name := "word", desc := "([BII)V" } : Jvm.MethodName)) ∈ lw_all := lw_g (lw_at lw_m1 74 rfl) rfl
theorem q83 : (Jvm.Cond.code ({ cls := "RcFourDesk", name := "word", desc := "([BII)V" } : Jvm.MethodName) prog_6_method_3_code (3 : Nat) (Option.none : Option Jvm.ClassFile.FieldType)) ∈ lw_all := lw_g (lw_at lw_m1 75 rfl) rfl
theorem q85 : (Jvm.Cond.instanceMethod ({ cls := "RcFourDesk", name := "trim", desc := "(I)V" } : Jvm.MethodName)) ∈ lw_all := lw_g (lw_at lw_m1 77 rfl) rfl
theorem q86 : (Jvm.Cond.selects "RcFourDesk" ({ cls := "RcFourDesk", name := "trim", desc := "(I)V" } : Jvm.MethodName) ({ cls := "RcFourDesk", name := "trim", desc := "(I)V" } : Jvm.MethodName)) ∈ lw_all := lw_g (lw_at lw_m1 78 rfl) rfl
theorem q87 : (Jvm.Cond.code ({ cls := "RcFourDesk", name := "trim", desc := "(I)V" } : Jvm.MethodName) prog_6_method_4_code (2 : Nat) (Option.none : Option Jvm.ClassFile.FieldType)) ∈ lw_all := lw_g (lw_at lw_m1 79 rfl) rfl
theorem q88 : (Jvm.Cond.methodLink "RcFourDesk" (37 : Nat) ({ cls := "RcFourDesk", name := "from", desc := "(I)I" } : Jvm.MethodName)) ∈ lw_all := lw_g (lw_at lw_m1 80 rfl) rfl
theorem q89 : (Jvm.Cond.privateMethod ({ cls := "RcFourDesk", name := "from", desc := "(I)I" } : Jvm.MethodName)) ∈ lw_tbl := lw_at lw_m1 81 rfl
theorem q90 : (Jvm.Cond.instanceMethod ({ cls := "RcFourDesk", name := "from", desc := "(I)I" } : Jvm.MethodName)) ∈ lw_all := lw_g (lw_at lw_m1 82 rfl) rfl
theorem q91 : (Jvm.Cond.code ({ cls := "RcFourDesk", name := "from", desc := "(I)I" } : Jvm.MethodName) prog_6_method_5_code (2 : Nat) (Option.some Jvm.ClassFile.FieldType.int)) ∈ lw_all := lw_g (lw_at lw_m1 83 rfl) rfl
theorem q92 : (Jvm.Cond.constant "RcFourDesk" (41 : Nat) (2147483647 : Int32)) ∈ lw_all := lw_g (lw_at lw_m1 84 rfl) rfl
theorem q94 : (Jvm.Cond.instanceMethod ({ cls := "RcFourDesk", name := "key", desc := "(IIIII)V" } : Jvm.MethodName)) ∈ lw_all := lw_g (lw_at lw_m1 86 rfl) rfl
theorem q95 : (Jvm.Cond.selects "RcFourDesk" ({ cls := "RcFourDesk", name := "key", desc := "(IIIII)V" } : Jvm.MethodName) ({ cls := "RcFourDesk", name := "key", desc := "(IIIII)V" } : Jvm.MethodName)) ∈ lw_all := lw_g (lw_at lw_m1 87 rfl) rfl
theorem q96 : (Jvm.Cond.code ({ cls := "RcFourDesk", name := "key", desc := "(IIIII)V" } : Jvm.MethodName) prog_6_method_7_code (7 : Nat) (Option.none : Option Jvm.ClassFile.FieldType)) ∈ lw_all := lw_g (lw_at lw_m1 88 rfl) rfl
theorem q98 : (Jvm.Cond.instanceMethod ({ cls := "RcFourDesk", name := "nonce", desc := "(IIII)V" } : Jvm.MethodName)) ∈ lw_all := lw_g (lw_at lw_m1 90 rfl) rfl
theorem q99 : (Jvm.Cond.selects "RcFourDesk" ({ cls := "RcFourDesk", name := "nonce", desc := "(IIII)V" } : Jvm.MethodName) ({ cls := "RcFourDesk", name := "nonce", desc := "(IIII)V" } : Jvm.MethodName)) ∈ lw_all := lw_g (lw_at lw_m1 91 rfl) rfl
theorem q100 : (Jvm.Cond.code ({ cls := "RcFourDesk", name := "nonce", desc := "(IIII)V" } : Jvm.MethodName) prog_6_method_8_code (5 : Nat) (Option.none : Option Jvm.ClassFile.FieldType)) ∈ lw_all := lw_g (lw_at lw_m1 92 rfl) rfl
theorem q102 : (Jvm.Cond.instanceMethod ({ cls := "RcFourDesk", name := "begin", desc := "(I)V" } : Jvm.MethodName)) ∈ lw_all := lw_g (lw_at lw_m1 94 rfl) rfl
theorem q103 : (Jvm.Cond.selects "RcFourDesk" ({ cls := "RcFourDesk", name := "begin", desc := "(I)V" } : Jvm.MethodName) ({ cls := "RcFourDesk", name := "begin", desc := "(I)V" } : Jvm.MethodName)) ∈ lw_all := lw_g (lw_at lw_m1 95 rfl) rfl
theorem q104 : (Jvm.Cond.code ({ cls := "RcFourDesk", name := "begin", desc := "(I)V" } : Jvm.MethodName) prog_6_method_9_code (4 : Nat) (Option.none : Option Jvm.ClassFile.FieldType)) ∈ lw_all := lw_g (lw_at lw_m1 96 rfl) rfl
theorem q105 : (Jvm.Cond.classLink "RcFourDesk" (42 : Nat) "KeyParameter") ∈ lw_all := lw_g (lw_at lw_m1 97 rfl) rfl
theorem q107 : (Jvm.Cond.methodLink "RcFourDesk" (44 : Nat) ({ cls := "KeyParameter", name := "<init>", desc := "([B)V" } : Jvm.MethodName)) ∈ lw_all := lw_g (lw_at lw_m1 99 rfl) rfl
theorem q124 : (Jvm.Cond.methodLink "RcFourDesk" (47 : Nat) ({ cls := "RC4Engine", name := "init", desc := "(ZLCipherParameters;)V" } : Jvm.MethodName)) ∈ lw_all := lw_g (lw_at lw_m1 116 rfl) rfl
theorem q205 : (Jvm.Cond.instanceMethod ({ cls := "RcFourDesk", name := "run", desc := "(II)I" } : Jvm.MethodName)) ∈ lw_all := lw_g (lw_at lw_m1 197 rfl) rfl
theorem q206 : (Jvm.Cond.selects "RcFourDesk" ({ cls := "RcFourDesk", name := "run", desc := "(II)I" } : Jvm.MethodName) ({ cls := "RcFourDesk", name := "run", desc := "(II)I" } : Jvm.MethodName)) ∈ lw_all := lw_g (lw_at lw_m1 198 rfl) rfl
theorem q207 : (Jvm.Cond.code ({ cls := "RcFourDesk", name := "run", desc := "(II)I" } : Jvm.MethodName) prog_6_method_10_code (6 : Nat) (Option.some Jvm.ClassFile.FieldType.int)) ∈ lw_all := lw_g (lw_at lw_m1 199 rfl) rfl
theorem q208 : (Jvm.Cond.methodLink "RcFourDesk" (58 : Nat) ({ cls := "RcFourDesk", name := "count", desc := "(II)I" } : Jvm.MethodName)) ∈ lw_all := lw_g (lw_at lw_m1 200 rfl) rfl
theorem q209 : (Jvm.Cond.privateMethod ({ cls := "RcFourDesk", name := "count", desc := "(II)I" } : Jvm.MethodName)) ∈ lw_tbl := lw_at lw_m1 201 rfl
theorem q210 : (Jvm.Cond.instanceMethod ({ cls := "RcFourDesk", name := "count", desc := "(II)I" } : Jvm.MethodName)) ∈ lw_all := lw_g (lw_at lw_m1 202 rfl) rfl
theorem q211 : (Jvm.Cond.code ({ cls := "RcFourDesk", name := "count", desc := "(II)I" } : Jvm.MethodName) prog_6_method_6_code (3 : Nat) (Option.some Jvm.ClassFile.FieldType.int)) ∈ lw_all := lw_g (lw_at lw_m1 203 rfl) rfl
theorem q212 : (Jvm.Cond.methodLink "RcFourDesk" (62 : Nat) ({ cls := "RC4Engine", name := "processBytes", desc := "([BII[BI)I" } : Jvm.MethodName)) ∈ lw_all := lw_g (lw_at lw_m1 204 rfl) rfl
theorem q254 : (Jvm.Cond.instanceMethod ({ cls := "RcFourDesk", name := "one", desc := "(I)I" } : Jvm.MethodName)) ∈ lw_all := lw_g (lw_at lw_m2 6 rfl) rfl
theorem q255 : (Jvm.Cond.selects "RcFourDesk" ({ cls := "RcFourDesk", name := "one", desc := "(I)I" } : Jvm.MethodName) ({ cls := "RcFourDesk", name := "one", desc := "(I)I" } : Jvm.MethodName)) ∈ lw_all := lw_g (lw_at lw_m2 7 rfl) rfl
theorem q256 : (Jvm.Cond.code ({ cls := "RcFourDesk", name := "one", desc := "(I)I" } : Jvm.MethodName) prog_6_method_11_code (2 : Nat) (Option.some Jvm.ClassFile.FieldType.int)) ∈ lw_all := lw_g (lw_at lw_m2 8 rfl) rfl
theorem q257 : (Jvm.Cond.methodLink "RcFourDesk" (66 : Nat) ({ cls := "RC4Engine", name := "returnByte", desc := "(B)B" } : Jvm.MethodName)) ∈ lw_all := lw_g (lw_at lw_m2 9 rfl) rfl
theorem q262 : (Jvm.Cond.instanceMethod ({ cls := "RcFourDesk", name := "again", desc := "()V" } : Jvm.MethodName)) ∈ lw_all := lw_g (lw_at lw_m2 14 rfl) rfl
theorem q263 : (Jvm.Cond.selects "RcFourDesk" ({ cls := "RcFourDesk", name := "again", desc := "()V" } : Jvm.MethodName) ({ cls := "RcFourDesk", name := "again", desc := "()V" } : Jvm.MethodName)) ∈ lw_all := lw_g (lw_at lw_m2 15 rfl) rfl
theorem q264 : (Jvm.Cond.code ({ cls := "RcFourDesk", name := "again", desc := "()V" } : Jvm.MethodName) prog_6_method_12_code (1 : Nat) (Option.none : Option Jvm.ClassFile.FieldType)) ∈ lw_all := lw_g (lw_at lw_m2 16 rfl) rfl
theorem q265 : (Jvm.Cond.methodLink "RcFourDesk" (70 : Nat) ({ cls := "RC4Engine", name := "reset", desc := "()V" } : Jvm.MethodName)) ∈ lw_all := lw_g (lw_at lw_m2 17 rfl) rfl
theorem q270 : (Jvm.Cond.instanceMethod ({ cls := "RcFourDesk", name := "out", desc := "(I)I" } : Jvm.MethodName)) ∈ lw_all := lw_g (lw_at lw_m2 22 rfl) rfl
theorem q271 : (Jvm.Cond.selects "RcFourDesk" ({ cls := "RcFourDesk", name := "out", desc := "(I)I" } : Jvm.MethodName) ({ cls := "RcFourDesk", name := "out", desc := "(I)I" } : Jvm.MethodName)) ∈ lw_all := lw_g (lw_at lw_m2 23 rfl) rfl
theorem q272 : (Jvm.Cond.code ({ cls := "RcFourDesk", name := "out", desc := "(I)I" } : Jvm.MethodName) prog_6_method_13_code (2 : Nat) (Option.some Jvm.ClassFile.FieldType.int)) ∈ lw_all := lw_g (lw_at lw_m2 24 rfl) rfl
theorem in_X0 : ∀ w ∈ wsX00, w ∈ lw_all := lw_in wsX00 [59, 61, 63, 65, 67, 69, 71, 73] (by decide +kernel) (by decide +kernel)
end
section
/-! RcFourDeskModel -/
set_option maxRecDepth 100000
def RX2 : String := "RcFourDeskModel"
def TX2 : u_T := fun k => match k with
  | 0 => ("RcFourDeskModel", "key", "[I", true)
  | 1 => ("RcFourDeskModel", "text", "[I", true)
  | 2 => ("RcFourDeskModel", "size", "I", false)
  | 3 => ("RcFourDeskModel", "out", "[I", false)
  | 4 => ("RcFourDeskModel", "used", "[I", false)
  | 5 => ("RcFourDeskModel", "given", "I", false)
  | 6 => ("RcFourDeskModel", "state", "[I", true)
  | 7 => ("RcFourDeskModel", "i", "I", false)
  | _ => ("RcFourDeskModel", "j", "I", false)
def tyX2 : Nat → FieldType := fun k => match k with
  | 0 => .array .int
  | 1 => .array .int
  | 2 => .int
  | 3 => .array .int
  | 4 => .array .int
  | 5 => .int
  | 6 => .array .int
  | 7 => .int
  | _ => .int
abbrev wsX20 : List Cond := u_ws RX2 TX2 9
theorem nmX2 : ∀ a, a < 9 → ∀ b, b < 9 → a ≠ b → (TX2 a).2.1 ≠ (TX2 b).2.1 := by decide +kernel
theorem tyX2_ok : ∀ k, k < 9 → parseFieldDescriptor (TX2 k).2.2.1 = some (tyX2 k) := by decide +kernel
abbrev cX2_init : ByteArray := prog_8_method_1_code
def yX2_init : MethodName := ⟨RX2, "<init>", "()V"⟩
def dkwX2_init_1 : List UInt8 := [188, 10, 181, 0, 16, 42, 3, 188, 10, 181, 0, 19, 42, 17, 1, 0, 188, 10, 181, 0, 22, 177]
abbrev dktX2_init_1 : List UInt8 := dkwX2_init_1 ++ []
def dkwX2_init_0 : List UInt8 := [42, 183, 0, 1, 42, 16, 32, 188, 10, 181, 0, 7, 42, 17, 1, 0, 188, 10, 181, 0, 13, 42, 3]
abbrev dktX2_init_0 : List UInt8 := dkwX2_init_0 ++ dktX2_init_1
theorem dksX2_init_0 : cX2_init.data.toList.drop 0 = dktX2_init_0 := by decide +kernel
theorem dksX2_init_1 : cX2_init.data.toList.drop 23 = dktX2_init_1 := dk_seg dksX2_init_0 23 rfl rfl
theorem dX2_init_0 : decode cX2_init 0 = .ok (.aload_n 0, 1) := dk_42 (dk_at dksX2_init_0 0 rfl rfl)
theorem dX2_init_1 : decode cX2_init 1 = .ok (.invokespecial 1, 3) := dk_183 0 1 (dk_at dksX2_init_0 1 rfl rfl)
theorem dX2_init_4 : decode cX2_init 4 = .ok (.aload_n 0, 1) := dk_42 (dk_at dksX2_init_0 4 rfl rfl)
theorem dX2_init_5 : decode cX2_init 5 = .ok (.bipush 32, 2) := dk_16 32 (dk_at dksX2_init_0 5 rfl rfl)
theorem dX2_init_7 : decode cX2_init 7 = .ok (.newarray .int, 2) := dk_188_10 (dk_at dksX2_init_0 7 rfl rfl)
theorem dX2_init_9 : decode cX2_init 9 = .ok (.putfield 7, 3) := dk_181 0 7 (dk_at dksX2_init_0 9 rfl rfl)
theorem dX2_init_12 : decode cX2_init 12 = .ok (.aload_n 0, 1) := dk_42 (dk_at dksX2_init_0 12 rfl rfl)
theorem dX2_init_13 : decode cX2_init 13 = .ok (.sipush 256, 3) := dk_17 1 0 (dk_at dksX2_init_0 13 rfl rfl)
theorem dX2_init_16 : decode cX2_init 16 = .ok (.newarray .int, 2) := dk_188_10 (dk_at dksX2_init_0 16 rfl rfl)
theorem dX2_init_18 : decode cX2_init 18 = .ok (.putfield 13, 3) := dk_181 0 13 (dk_at dksX2_init_0 18 rfl rfl)
theorem dX2_init_21 : decode cX2_init 21 = .ok (.aload_n 0, 1) := dk_42 (dk_at dksX2_init_0 21 rfl rfl)
theorem dX2_init_22 : decode cX2_init 22 = .ok (.iconst 0, 1) := dk_3 (dk_at dksX2_init_0 22 rfl rfl)
theorem dX2_init_23 : decode cX2_init 23 = .ok (.newarray .int, 2) := dk_188_10 (dk_at dksX2_init_1 0 rfl rfl)
theorem dX2_init_25 : decode cX2_init 25 = .ok (.putfield 16, 3) := dk_181 0 16 (dk_at dksX2_init_1 2 rfl rfl)
theorem dX2_init_28 : decode cX2_init 28 = .ok (.aload_n 0, 1) := dk_42 (dk_at dksX2_init_1 5 rfl rfl)
theorem dX2_init_29 : decode cX2_init 29 = .ok (.iconst 0, 1) := dk_3 (dk_at dksX2_init_1 6 rfl rfl)
theorem dX2_init_30 : decode cX2_init 30 = .ok (.newarray .int, 2) := dk_188_10 (dk_at dksX2_init_1 7 rfl rfl)
theorem dX2_init_32 : decode cX2_init 32 = .ok (.putfield 19, 3) := dk_181 0 19 (dk_at dksX2_init_1 9 rfl rfl)
theorem dX2_init_35 : decode cX2_init 35 = .ok (.aload_n 0, 1) := dk_42 (dk_at dksX2_init_1 12 rfl rfl)
theorem dX2_init_36 : decode cX2_init 36 = .ok (.sipush 256, 3) := dk_17 1 0 (dk_at dksX2_init_1 13 rfl rfl)
theorem dX2_init_39 : decode cX2_init 39 = .ok (.newarray .int, 2) := dk_188_10 (dk_at dksX2_init_1 16 rfl rfl)
theorem dX2_init_41 : decode cX2_init 41 = .ok (.putfield 22, 3) := dk_181 0 22 (dk_at dksX2_init_1 18 rfl rfl)
theorem dX2_init_44 : decode cX2_init 44 = .ok (.return_, 1) := dk_177 (dk_at dksX2_init_1 21 rfl rfl)
abbrev cX2_put : ByteArray := prog_8_method_6_code
def yX2_put : MethodName := ⟨RX2, "put", "(IIII)Z"⟩
def dkwX2_put_3 : List UInt8 := [96, 21, 4, 184, 0, 42, 42, 89, 180, 0, 39, 16, 16, 96, 181, 0, 39, 4, 172]
abbrev dktX2_put_3 : List UInt8 := dkwX2_put_3 ++ []
def dkwX2_put_2 : List UInt8 := [180, 0, 13, 42, 180, 0, 39, 16, 8, 96, 29, 184, 0, 42, 42, 180, 0, 13, 42, 180, 0, 39, 16, 12]
abbrev dktX2_put_2 : List UInt8 := dkwX2_put_2 ++ dktX2_put_3
def dkwX2_put_1 : List UInt8 := [180, 0, 39, 27, 184, 0, 42, 42, 180, 0, 13, 42, 180, 0, 39, 7, 96, 28, 184, 0, 42, 42]
abbrev dktX2_put_1 : List UInt8 := dkwX2_put_1 ++ dktX2_put_2
def dkwX2_put_0 : List UInt8 := [42, 180, 0, 39, 42, 180, 0, 13, 190, 16, 16, 100, 164, 0, 5, 3, 172, 42, 180, 0, 13, 42]
abbrev dktX2_put_0 : List UInt8 := dkwX2_put_0 ++ dktX2_put_1
theorem dksX2_put_0 : cX2_put.data.toList.drop 0 = dktX2_put_0 := by decide +kernel
theorem dksX2_put_1 : cX2_put.data.toList.drop 22 = dktX2_put_1 := dk_seg dksX2_put_0 22 rfl rfl
theorem dksX2_put_2 : cX2_put.data.toList.drop 44 = dktX2_put_2 := dk_seg dksX2_put_1 22 rfl rfl
theorem dksX2_put_3 : cX2_put.data.toList.drop 68 = dktX2_put_3 := dk_seg dksX2_put_2 24 rfl rfl
theorem dX2_put_0 : decode cX2_put 0 = .ok (.aload_n 0, 1) := dk_42 (dk_at dksX2_put_0 0 rfl rfl)
theorem dX2_put_1 : decode cX2_put 1 = .ok (.getfield 39, 3) := dk_180 0 39 (dk_at dksX2_put_0 1 rfl rfl)
theorem dX2_put_4 : decode cX2_put 4 = .ok (.aload_n 0, 1) := dk_42 (dk_at dksX2_put_0 4 rfl rfl)
theorem dX2_put_5 : decode cX2_put 5 = .ok (.getfield 13, 3) := dk_180 0 13 (dk_at dksX2_put_0 5 rfl rfl)
theorem dX2_put_8 : decode cX2_put 8 = .ok (.arraylength, 1) := dk_190 (dk_at dksX2_put_0 8 rfl rfl)
theorem dX2_put_9 : decode cX2_put 9 = .ok (.bipush 16, 2) := dk_16 16 (dk_at dksX2_put_0 9 rfl rfl)
theorem dX2_put_11 : decode cX2_put 11 = .ok (.isub, 1) := dk_100 (dk_at dksX2_put_0 11 rfl rfl)
theorem dX2_put_12 : decode cX2_put 12 = .ok (.if_icmp .le 5, 3) := dk_164 0 5 (dk_at dksX2_put_0 12 rfl rfl)
theorem dX2_put_15 : decode cX2_put 15 = .ok (.iconst 0, 1) := dk_3 (dk_at dksX2_put_0 15 rfl rfl)
theorem dX2_put_16 : decode cX2_put 16 = .ok (.ireturn, 1) := dk_172 (dk_at dksX2_put_0 16 rfl rfl)
theorem dX2_put_17 : decode cX2_put 17 = .ok (.aload_n 0, 1) := dk_42 (dk_at dksX2_put_0 17 rfl rfl)
theorem dX2_put_18 : decode cX2_put 18 = .ok (.getfield 13, 3) := dk_180 0 13 (dk_at dksX2_put_0 18 rfl rfl)
theorem dX2_put_21 : decode cX2_put 21 = .ok (.aload_n 0, 1) := dk_42 (dk_at dksX2_put_0 21 rfl rfl)
theorem dX2_put_22 : decode cX2_put 22 = .ok (.getfield 39, 3) := dk_180 0 39 (dk_at dksX2_put_1 0 rfl rfl)
theorem dX2_put_25 : decode cX2_put 25 = .ok (.iload_n 1, 1) := dk_27 (dk_at dksX2_put_1 3 rfl rfl)
theorem dX2_put_26 : decode cX2_put 26 = .ok (.invokestatic 42, 3) := dk_184 0 42 (dk_at dksX2_put_1 4 rfl rfl)
theorem dX2_put_29 : decode cX2_put 29 = .ok (.aload_n 0, 1) := dk_42 (dk_at dksX2_put_1 7 rfl rfl)
theorem dX2_put_30 : decode cX2_put 30 = .ok (.getfield 13, 3) := dk_180 0 13 (dk_at dksX2_put_1 8 rfl rfl)
theorem dX2_put_33 : decode cX2_put 33 = .ok (.aload_n 0, 1) := dk_42 (dk_at dksX2_put_1 11 rfl rfl)
theorem dX2_put_34 : decode cX2_put 34 = .ok (.getfield 39, 3) := dk_180 0 39 (dk_at dksX2_put_1 12 rfl rfl)
theorem dX2_put_37 : decode cX2_put 37 = .ok (.iconst 4, 1) := dk_7 (dk_at dksX2_put_1 15 rfl rfl)
theorem dX2_put_38 : decode cX2_put 38 = .ok (.iadd, 1) := dk_96 (dk_at dksX2_put_1 16 rfl rfl)
theorem dX2_put_39 : decode cX2_put 39 = .ok (.iload_n 2, 1) := dk_28 (dk_at dksX2_put_1 17 rfl rfl)
theorem dX2_put_40 : decode cX2_put 40 = .ok (.invokestatic 42, 3) := dk_184 0 42 (dk_at dksX2_put_1 18 rfl rfl)
theorem dX2_put_43 : decode cX2_put 43 = .ok (.aload_n 0, 1) := dk_42 (dk_at dksX2_put_1 21 rfl rfl)
theorem dX2_put_44 : decode cX2_put 44 = .ok (.getfield 13, 3) := dk_180 0 13 (dk_at dksX2_put_2 0 rfl rfl)
theorem dX2_put_47 : decode cX2_put 47 = .ok (.aload_n 0, 1) := dk_42 (dk_at dksX2_put_2 3 rfl rfl)
theorem dX2_put_48 : decode cX2_put 48 = .ok (.getfield 39, 3) := dk_180 0 39 (dk_at dksX2_put_2 4 rfl rfl)
theorem dX2_put_51 : decode cX2_put 51 = .ok (.bipush 8, 2) := dk_16 8 (dk_at dksX2_put_2 7 rfl rfl)
theorem dX2_put_53 : decode cX2_put 53 = .ok (.iadd, 1) := dk_96 (dk_at dksX2_put_2 9 rfl rfl)
theorem dX2_put_54 : decode cX2_put 54 = .ok (.iload_n 3, 1) := dk_29 (dk_at dksX2_put_2 10 rfl rfl)
theorem dX2_put_55 : decode cX2_put 55 = .ok (.invokestatic 42, 3) := dk_184 0 42 (dk_at dksX2_put_2 11 rfl rfl)
theorem dX2_put_58 : decode cX2_put 58 = .ok (.aload_n 0, 1) := dk_42 (dk_at dksX2_put_2 14 rfl rfl)
theorem dX2_put_59 : decode cX2_put 59 = .ok (.getfield 13, 3) := dk_180 0 13 (dk_at dksX2_put_2 15 rfl rfl)
theorem dX2_put_62 : decode cX2_put 62 = .ok (.aload_n 0, 1) := dk_42 (dk_at dksX2_put_2 18 rfl rfl)
theorem dX2_put_63 : decode cX2_put 63 = .ok (.getfield 39, 3) := dk_180 0 39 (dk_at dksX2_put_2 19 rfl rfl)
theorem dX2_put_66 : decode cX2_put 66 = .ok (.bipush 12, 2) := dk_16 12 (dk_at dksX2_put_2 22 rfl rfl)
theorem dX2_put_68 : decode cX2_put 68 = .ok (.iadd, 1) := dk_96 (dk_at dksX2_put_3 0 rfl rfl)
theorem dX2_put_69 : decode cX2_put 69 = .ok (.iload 4, 2) := dk_21 4 (dk_at dksX2_put_3 1 rfl rfl)
theorem dX2_put_71 : decode cX2_put 71 = .ok (.invokestatic 42, 3) := dk_184 0 42 (dk_at dksX2_put_3 3 rfl rfl)
theorem dX2_put_74 : decode cX2_put 74 = .ok (.aload_n 0, 1) := dk_42 (dk_at dksX2_put_3 6 rfl rfl)
theorem dX2_put_75 : decode cX2_put 75 = .ok (.dup, 1) := dk_89 (dk_at dksX2_put_3 7 rfl rfl)
theorem dX2_put_76 : decode cX2_put 76 = .ok (.getfield 39, 3) := dk_180 0 39 (dk_at dksX2_put_3 8 rfl rfl)
theorem dX2_put_79 : decode cX2_put 79 = .ok (.bipush 16, 2) := dk_16 16 (dk_at dksX2_put_3 11 rfl rfl)
theorem dX2_put_81 : decode cX2_put 81 = .ok (.iadd, 1) := dk_96 (dk_at dksX2_put_3 13 rfl rfl)
theorem dX2_put_82 : decode cX2_put 82 = .ok (.putfield 39, 3) := dk_181 0 39 (dk_at dksX2_put_3 14 rfl rfl)
theorem dX2_put_85 : decode cX2_put 85 = .ok (.iconst 1, 1) := dk_4 (dk_at dksX2_put_3 17 rfl rfl)
theorem dX2_put_86 : decode cX2_put 86 = .ok (.ireturn, 1) := dk_172 (dk_at dksX2_put_3 18 rfl rfl)
abbrev cX2_word : ByteArray := prog_8_method_5_code
def yX2_word : MethodName := ⟨RX2, "word", "([III)V"⟩
def dkwX2_word_1 : List UInt8 := [79, 132, 3, 1, 167, 255, 230, 177]
abbrev dktX2_word_1 : List UInt8 := dkwX2_word_1 ++ []
def dkwX2_word_0 : List UInt8 := [3, 62, 29, 7, 162, 0, 27, 42, 27, 29, 96, 28, 16, 24, 16, 8, 29, 104, 100, 122, 17, 0, 255, 126]
abbrev dktX2_word_0 : List UInt8 := dkwX2_word_0 ++ dktX2_word_1
theorem dksX2_word_0 : cX2_word.data.toList.drop 0 = dktX2_word_0 := by decide +kernel
theorem dksX2_word_1 : cX2_word.data.toList.drop 24 = dktX2_word_1 := dk_seg dksX2_word_0 24 rfl rfl
theorem dX2_word_0 : decode cX2_word 0 = .ok (.iconst 0, 1) := dk_3 (dk_at dksX2_word_0 0 rfl rfl)
theorem dX2_word_1 : decode cX2_word 1 = .ok (.istore_n 3, 1) := dk_62 (dk_at dksX2_word_0 1 rfl rfl)
theorem dX2_word_2 : decode cX2_word 2 = .ok (.iload_n 3, 1) := dk_29 (dk_at dksX2_word_0 2 rfl rfl)
theorem dX2_word_3 : decode cX2_word 3 = .ok (.iconst 4, 1) := dk_7 (dk_at dksX2_word_0 3 rfl rfl)
theorem dX2_word_4 : decode cX2_word 4 = .ok (.if_icmp .ge 27, 3) := dk_162 0 27 (dk_at dksX2_word_0 4 rfl rfl)
theorem dX2_word_7 : decode cX2_word 7 = .ok (.aload_n 0, 1) := dk_42 (dk_at dksX2_word_0 7 rfl rfl)
theorem dX2_word_8 : decode cX2_word 8 = .ok (.iload_n 1, 1) := dk_27 (dk_at dksX2_word_0 8 rfl rfl)
theorem dX2_word_9 : decode cX2_word 9 = .ok (.iload_n 3, 1) := dk_29 (dk_at dksX2_word_0 9 rfl rfl)
theorem dX2_word_10 : decode cX2_word 10 = .ok (.iadd, 1) := dk_96 (dk_at dksX2_word_0 10 rfl rfl)
theorem dX2_word_11 : decode cX2_word 11 = .ok (.iload_n 2, 1) := dk_28 (dk_at dksX2_word_0 11 rfl rfl)
theorem dX2_word_12 : decode cX2_word 12 = .ok (.bipush 24, 2) := dk_16 24 (dk_at dksX2_word_0 12 rfl rfl)
theorem dX2_word_14 : decode cX2_word 14 = .ok (.bipush 8, 2) := dk_16 8 (dk_at dksX2_word_0 14 rfl rfl)
theorem dX2_word_16 : decode cX2_word 16 = .ok (.iload_n 3, 1) := dk_29 (dk_at dksX2_word_0 16 rfl rfl)
theorem dX2_word_17 : decode cX2_word 17 = .ok (.imul, 1) := dk_104 (dk_at dksX2_word_0 17 rfl rfl)
theorem dX2_word_18 : decode cX2_word 18 = .ok (.isub, 1) := dk_100 (dk_at dksX2_word_0 18 rfl rfl)
theorem dX2_word_19 : decode cX2_word 19 = .ok (.ishr, 1) := dk_122 (dk_at dksX2_word_0 19 rfl rfl)
theorem dX2_word_20 : decode cX2_word 20 = .ok (.sipush 255, 3) := dk_17 0 255 (dk_at dksX2_word_0 20 rfl rfl)
theorem dX2_word_23 : decode cX2_word 23 = .ok (.iand, 1) := dk_126 (dk_at dksX2_word_0 23 rfl rfl)
theorem dX2_word_24 : decode cX2_word 24 = .ok (.iastore, 1) := dk_79 (dk_at dksX2_word_1 0 rfl rfl)
theorem dX2_word_25 : decode cX2_word 25 = .ok (.iinc 3 1, 3) := dk_132 3 1 (dk_at dksX2_word_1 1 rfl rfl)
theorem dX2_word_28 : decode cX2_word 28 = .ok (.goto (-26), 3) := dk_167 255 230 (dk_at dksX2_word_1 4 rfl rfl)
theorem dX2_word_31 : decode cX2_word 31 = .ok (.return_, 1) := dk_177 (dk_at dksX2_word_1 7 rfl rfl)
abbrev cX2_trim : ByteArray := prog_8_method_8_code
def yX2_trim : MethodName := ⟨RX2, "trim", "(I)V"⟩
def dkwX2_trim_0 : List UInt8 := [42, 42, 27, 182, 0, 47, 181, 0, 39, 177]
abbrev dktX2_trim_0 : List UInt8 := dkwX2_trim_0 ++ []
theorem dksX2_trim_0 : cX2_trim.data.toList.drop 0 = dktX2_trim_0 := by decide +kernel
theorem dX2_trim_0 : decode cX2_trim 0 = .ok (.aload_n 0, 1) := dk_42 (dk_at dksX2_trim_0 0 rfl rfl)
theorem dX2_trim_1 : decode cX2_trim 1 = .ok (.aload_n 0, 1) := dk_42 (dk_at dksX2_trim_0 1 rfl rfl)
theorem dX2_trim_2 : decode cX2_trim 2 = .ok (.iload_n 1, 1) := dk_27 (dk_at dksX2_trim_0 2 rfl rfl)
theorem dX2_trim_3 : decode cX2_trim 3 = .ok (.invokevirtual 47, 3) := dk_182 0 47 (dk_at dksX2_trim_0 3 rfl rfl)
theorem dX2_trim_6 : decode cX2_trim 6 = .ok (.putfield 39, 3) := dk_181 0 39 (dk_at dksX2_trim_0 6 rfl rfl)
theorem dX2_trim_9 : decode cX2_trim 9 = .ok (.return_, 1) := dk_177 (dk_at dksX2_trim_0 9 rfl rfl)
abbrev cX2_from : ByteArray := prog_8_method_7_code
def yX2_from : MethodName := ⟨RX2, "from", "(I)I"⟩
def dkwX2_from_0 : List UInt8 := [27, 18, 46, 126, 42, 180, 0, 39, 4, 96, 112, 172]
abbrev dktX2_from_0 : List UInt8 := dkwX2_from_0 ++ []
theorem dksX2_from_0 : cX2_from.data.toList.drop 0 = dktX2_from_0 := by decide +kernel
theorem dX2_from_0 : decode cX2_from 0 = .ok (.iload_n 1, 1) := dk_27 (dk_at dksX2_from_0 0 rfl rfl)
theorem dX2_from_1 : decode cX2_from 1 = .ok (.ldc 46, 2) := dk_18 46 (dk_at dksX2_from_0 1 rfl rfl)
theorem dX2_from_3 : decode cX2_from 3 = .ok (.iand, 1) := dk_126 (dk_at dksX2_from_0 3 rfl rfl)
theorem dX2_from_4 : decode cX2_from 4 = .ok (.aload_n 0, 1) := dk_42 (dk_at dksX2_from_0 4 rfl rfl)
theorem dX2_from_5 : decode cX2_from 5 = .ok (.getfield 39, 3) := dk_180 0 39 (dk_at dksX2_from_0 5 rfl rfl)
theorem dX2_from_8 : decode cX2_from 8 = .ok (.iconst 1, 1) := dk_4 (dk_at dksX2_from_0 8 rfl rfl)
theorem dX2_from_9 : decode cX2_from 9 = .ok (.iadd, 1) := dk_96 (dk_at dksX2_from_0 9 rfl rfl)
theorem dX2_from_10 : decode cX2_from 10 = .ok (.irem, 1) := dk_112 (dk_at dksX2_from_0 10 rfl rfl)
theorem dX2_from_11 : decode cX2_from 11 = .ok (.ireturn, 1) := dk_172 (dk_at dksX2_from_0 11 rfl rfl)
abbrev cX2_key : ByteArray := prog_8_method_9_code
def yX2_key : MethodName := ⟨RX2, "key", "(IIIII)V"⟩
def dkwX2_key_2 : List UInt8 := [21, 6, 16, 12, 96, 21, 5, 184, 0, 42, 177]
abbrev dktX2_key_2 : List UInt8 := dkwX2_key_2 ++ []
def dkwX2_key_1 : List UInt8 := [96, 29, 184, 0, 42, 42, 180, 0, 7, 21, 6, 16, 8, 96, 21, 4, 184, 0, 42, 42, 180, 0, 7]
abbrev dktX2_key_1 : List UInt8 := dkwX2_key_1 ++ dktX2_key_2
def dkwX2_key_0 : List UInt8 := [27, 4, 126, 7, 120, 54, 6, 42, 180, 0, 7, 21, 6, 28, 184, 0, 42, 42, 180, 0, 7, 21, 6, 7]
abbrev dktX2_key_0 : List UInt8 := dkwX2_key_0 ++ dktX2_key_1
theorem dksX2_key_0 : cX2_key.data.toList.drop 0 = dktX2_key_0 := by decide +kernel
theorem dksX2_key_1 : cX2_key.data.toList.drop 24 = dktX2_key_1 := dk_seg dksX2_key_0 24 rfl rfl
theorem dksX2_key_2 : cX2_key.data.toList.drop 47 = dktX2_key_2 := dk_seg dksX2_key_1 23 rfl rfl
theorem dX2_key_0 : decode cX2_key 0 = .ok (.iload_n 1, 1) := dk_27 (dk_at dksX2_key_0 0 rfl rfl)
theorem dX2_key_1 : decode cX2_key 1 = .ok (.iconst 1, 1) := dk_4 (dk_at dksX2_key_0 1 rfl rfl)
theorem dX2_key_2 : decode cX2_key 2 = .ok (.iand, 1) := dk_126 (dk_at dksX2_key_0 2 rfl rfl)
theorem dX2_key_3 : decode cX2_key 3 = .ok (.iconst 4, 1) := dk_7 (dk_at dksX2_key_0 3 rfl rfl)
theorem dX2_key_4 : decode cX2_key 4 = .ok (.ishl, 1) := dk_120 (dk_at dksX2_key_0 4 rfl rfl)
theorem dX2_key_5 : decode cX2_key 5 = .ok (.istore 6, 2) := dk_54 6 (dk_at dksX2_key_0 5 rfl rfl)
theorem dX2_key_7 : decode cX2_key 7 = .ok (.aload_n 0, 1) := dk_42 (dk_at dksX2_key_0 7 rfl rfl)
theorem dX2_key_8 : decode cX2_key 8 = .ok (.getfield 7, 3) := dk_180 0 7 (dk_at dksX2_key_0 8 rfl rfl)
theorem dX2_key_11 : decode cX2_key 11 = .ok (.iload 6, 2) := dk_21 6 (dk_at dksX2_key_0 11 rfl rfl)
theorem dX2_key_13 : decode cX2_key 13 = .ok (.iload_n 2, 1) := dk_28 (dk_at dksX2_key_0 13 rfl rfl)
theorem dX2_key_14 : decode cX2_key 14 = .ok (.invokestatic 42, 3) := dk_184 0 42 (dk_at dksX2_key_0 14 rfl rfl)
theorem dX2_key_17 : decode cX2_key 17 = .ok (.aload_n 0, 1) := dk_42 (dk_at dksX2_key_0 17 rfl rfl)
theorem dX2_key_18 : decode cX2_key 18 = .ok (.getfield 7, 3) := dk_180 0 7 (dk_at dksX2_key_0 18 rfl rfl)
theorem dX2_key_21 : decode cX2_key 21 = .ok (.iload 6, 2) := dk_21 6 (dk_at dksX2_key_0 21 rfl rfl)
theorem dX2_key_23 : decode cX2_key 23 = .ok (.iconst 4, 1) := dk_7 (dk_at dksX2_key_0 23 rfl rfl)
theorem dX2_key_24 : decode cX2_key 24 = .ok (.iadd, 1) := dk_96 (dk_at dksX2_key_1 0 rfl rfl)
theorem dX2_key_25 : decode cX2_key 25 = .ok (.iload_n 3, 1) := dk_29 (dk_at dksX2_key_1 1 rfl rfl)
theorem dX2_key_26 : decode cX2_key 26 = .ok (.invokestatic 42, 3) := dk_184 0 42 (dk_at dksX2_key_1 2 rfl rfl)
theorem dX2_key_29 : decode cX2_key 29 = .ok (.aload_n 0, 1) := dk_42 (dk_at dksX2_key_1 5 rfl rfl)
theorem dX2_key_30 : decode cX2_key 30 = .ok (.getfield 7, 3) := dk_180 0 7 (dk_at dksX2_key_1 6 rfl rfl)
theorem dX2_key_33 : decode cX2_key 33 = .ok (.iload 6, 2) := dk_21 6 (dk_at dksX2_key_1 9 rfl rfl)
theorem dX2_key_35 : decode cX2_key 35 = .ok (.bipush 8, 2) := dk_16 8 (dk_at dksX2_key_1 11 rfl rfl)
theorem dX2_key_37 : decode cX2_key 37 = .ok (.iadd, 1) := dk_96 (dk_at dksX2_key_1 13 rfl rfl)
theorem dX2_key_38 : decode cX2_key 38 = .ok (.iload 4, 2) := dk_21 4 (dk_at dksX2_key_1 14 rfl rfl)
theorem dX2_key_40 : decode cX2_key 40 = .ok (.invokestatic 42, 3) := dk_184 0 42 (dk_at dksX2_key_1 16 rfl rfl)
theorem dX2_key_43 : decode cX2_key 43 = .ok (.aload_n 0, 1) := dk_42 (dk_at dksX2_key_1 19 rfl rfl)
theorem dX2_key_44 : decode cX2_key 44 = .ok (.getfield 7, 3) := dk_180 0 7 (dk_at dksX2_key_1 20 rfl rfl)
theorem dX2_key_47 : decode cX2_key 47 = .ok (.iload 6, 2) := dk_21 6 (dk_at dksX2_key_2 0 rfl rfl)
theorem dX2_key_49 : decode cX2_key 49 = .ok (.bipush 12, 2) := dk_16 12 (dk_at dksX2_key_2 2 rfl rfl)
theorem dX2_key_51 : decode cX2_key 51 = .ok (.iadd, 1) := dk_96 (dk_at dksX2_key_2 4 rfl rfl)
theorem dX2_key_52 : decode cX2_key 52 = .ok (.iload 5, 2) := dk_21 5 (dk_at dksX2_key_2 5 rfl rfl)
theorem dX2_key_54 : decode cX2_key 54 = .ok (.invokestatic 42, 3) := dk_184 0 42 (dk_at dksX2_key_2 7 rfl rfl)
theorem dX2_key_57 : decode cX2_key 57 = .ok (.return_, 1) := dk_177 (dk_at dksX2_key_2 10 rfl rfl)
abbrev cX2_nonce : ByteArray := prog_8_method_10_code
def yX2_nonce : MethodName := ⟨RX2, "nonce", "(IIII)V"⟩
theorem dX2_nonce_0 : decode cX2_nonce 0 = .ok (.return_, 1) := by decide +kernel
abbrev cX2_begin : ByteArray := prog_8_method_11_code
def yX2_begin : MethodName := ⟨RX2, "begin", "(I)V"⟩
def dkwX2_begin_1 : List UInt8 := [180, 0, 19, 28, 42, 180, 0, 7, 28, 46, 79, 132, 2, 1, 167, 255, 232, 42, 182, 0, 51, 177]
abbrev dktX2_begin_1 : List UInt8 := dkwX2_begin_1 ++ []
def dkwX2_begin_0 : List UInt8 := [42, 4, 27, 16, 31, 126, 96, 188, 10, 181, 0, 19, 3, 61, 28, 42, 180, 0, 19, 190, 162, 0, 21, 42]
abbrev dktX2_begin_0 : List UInt8 := dkwX2_begin_0 ++ dktX2_begin_1
theorem dksX2_begin_0 : cX2_begin.data.toList.drop 0 = dktX2_begin_0 := by decide +kernel
theorem dksX2_begin_1 : cX2_begin.data.toList.drop 24 = dktX2_begin_1 := dk_seg dksX2_begin_0 24 rfl rfl
theorem dX2_begin_0 : decode cX2_begin 0 = .ok (.aload_n 0, 1) := dk_42 (dk_at dksX2_begin_0 0 rfl rfl)
theorem dX2_begin_1 : decode cX2_begin 1 = .ok (.iconst 1, 1) := dk_4 (dk_at dksX2_begin_0 1 rfl rfl)
theorem dX2_begin_2 : decode cX2_begin 2 = .ok (.iload_n 1, 1) := dk_27 (dk_at dksX2_begin_0 2 rfl rfl)
theorem dX2_begin_3 : decode cX2_begin 3 = .ok (.bipush 31, 2) := dk_16 31 (dk_at dksX2_begin_0 3 rfl rfl)
theorem dX2_begin_5 : decode cX2_begin 5 = .ok (.iand, 1) := dk_126 (dk_at dksX2_begin_0 5 rfl rfl)
theorem dX2_begin_6 : decode cX2_begin 6 = .ok (.iadd, 1) := dk_96 (dk_at dksX2_begin_0 6 rfl rfl)
theorem dX2_begin_7 : decode cX2_begin 7 = .ok (.newarray .int, 2) := dk_188_10 (dk_at dksX2_begin_0 7 rfl rfl)
theorem dX2_begin_9 : decode cX2_begin 9 = .ok (.putfield 19, 3) := dk_181 0 19 (dk_at dksX2_begin_0 9 rfl rfl)
theorem dX2_begin_12 : decode cX2_begin 12 = .ok (.iconst 0, 1) := dk_3 (dk_at dksX2_begin_0 12 rfl rfl)
theorem dX2_begin_13 : decode cX2_begin 13 = .ok (.istore_n 2, 1) := dk_61 (dk_at dksX2_begin_0 13 rfl rfl)
theorem dX2_begin_14 : decode cX2_begin 14 = .ok (.iload_n 2, 1) := dk_28 (dk_at dksX2_begin_0 14 rfl rfl)
theorem dX2_begin_15 : decode cX2_begin 15 = .ok (.aload_n 0, 1) := dk_42 (dk_at dksX2_begin_0 15 rfl rfl)
theorem dX2_begin_16 : decode cX2_begin 16 = .ok (.getfield 19, 3) := dk_180 0 19 (dk_at dksX2_begin_0 16 rfl rfl)
theorem dX2_begin_19 : decode cX2_begin 19 = .ok (.arraylength, 1) := dk_190 (dk_at dksX2_begin_0 19 rfl rfl)
theorem dX2_begin_20 : decode cX2_begin 20 = .ok (.if_icmp .ge 21, 3) := dk_162 0 21 (dk_at dksX2_begin_0 20 rfl rfl)
theorem dX2_begin_23 : decode cX2_begin 23 = .ok (.aload_n 0, 1) := dk_42 (dk_at dksX2_begin_0 23 rfl rfl)
theorem dX2_begin_24 : decode cX2_begin 24 = .ok (.getfield 19, 3) := dk_180 0 19 (dk_at dksX2_begin_1 0 rfl rfl)
theorem dX2_begin_27 : decode cX2_begin 27 = .ok (.iload_n 2, 1) := dk_28 (dk_at dksX2_begin_1 3 rfl rfl)
theorem dX2_begin_28 : decode cX2_begin 28 = .ok (.aload_n 0, 1) := dk_42 (dk_at dksX2_begin_1 4 rfl rfl)
theorem dX2_begin_29 : decode cX2_begin 29 = .ok (.getfield 7, 3) := dk_180 0 7 (dk_at dksX2_begin_1 5 rfl rfl)
theorem dX2_begin_32 : decode cX2_begin 32 = .ok (.iload_n 2, 1) := dk_28 (dk_at dksX2_begin_1 8 rfl rfl)
theorem dX2_begin_33 : decode cX2_begin 33 = .ok (.iaload, 1) := dk_46 (dk_at dksX2_begin_1 9 rfl rfl)
theorem dX2_begin_34 : decode cX2_begin 34 = .ok (.iastore, 1) := dk_79 (dk_at dksX2_begin_1 10 rfl rfl)
theorem dX2_begin_35 : decode cX2_begin 35 = .ok (.iinc 2 1, 3) := dk_132 2 1 (dk_at dksX2_begin_1 11 rfl rfl)
theorem dX2_begin_38 : decode cX2_begin 38 = .ok (.goto (-24), 3) := dk_167 255 232 (dk_at dksX2_begin_1 14 rfl rfl)
theorem dX2_begin_41 : decode cX2_begin 41 = .ok (.aload_n 0, 1) := dk_42 (dk_at dksX2_begin_1 17 rfl rfl)
theorem dX2_begin_42 : decode cX2_begin 42 = .ok (.invokevirtual 51, 3) := dk_182 0 51 (dk_at dksX2_begin_1 18 rfl rfl)
theorem dX2_begin_45 : decode cX2_begin 45 = .ok (.return_, 1) := dk_177 (dk_at dksX2_begin_1 21 rfl rfl)
abbrev cX2_lays : ByteArray := prog_8_method_3_code
def yX2_lays : MethodName := ⟨RX2, "lays", "()V"⟩
def dkwX2_lays_3 : List UInt8 := [42, 3, 181, 0, 29, 42, 3, 181, 0, 33, 42, 3, 181, 0, 36, 177]
abbrev dktX2_lays_3 : List UInt8 := dkwX2_lays_3 ++ []
def dkwX2_lays_2 : List UInt8 := [180, 0, 19, 190, 112, 46, 96, 17, 1, 0, 112, 60, 42, 28, 27, 182, 0, 25, 132, 2, 1, 167, 255, 214]
abbrev dktX2_lays_2 : List UInt8 := dkwX2_lays_2 ++ dktX2_lays_3
def dkwX2_lays_1 : List UInt8 := [3, 61, 28, 17, 1, 0, 162, 0, 41, 27, 42, 180, 0, 22, 28, 46, 96, 42, 180, 0, 19, 28, 42]
abbrev dktX2_lays_1 : List UInt8 := dkwX2_lays_1 ++ dktX2_lays_2
def dkwX2_lays_0 : List UInt8 := [3, 60, 27, 17, 1, 0, 162, 0, 16, 42, 180, 0, 22, 27, 27, 79, 132, 1, 1, 167, 255, 239, 3, 60]
abbrev dktX2_lays_0 : List UInt8 := dkwX2_lays_0 ++ dktX2_lays_1
theorem dksX2_lays_0 : cX2_lays.data.toList.drop 0 = dktX2_lays_0 := by decide +kernel
theorem dksX2_lays_1 : cX2_lays.data.toList.drop 24 = dktX2_lays_1 := dk_seg dksX2_lays_0 24 rfl rfl
theorem dksX2_lays_2 : cX2_lays.data.toList.drop 47 = dktX2_lays_2 := dk_seg dksX2_lays_1 23 rfl rfl
theorem dksX2_lays_3 : cX2_lays.data.toList.drop 71 = dktX2_lays_3 := dk_seg dksX2_lays_2 24 rfl rfl
theorem dX2_lays_0 : decode cX2_lays 0 = .ok (.iconst 0, 1) := dk_3 (dk_at dksX2_lays_0 0 rfl rfl)
theorem dX2_lays_1 : decode cX2_lays 1 = .ok (.istore_n 1, 1) := dk_60 (dk_at dksX2_lays_0 1 rfl rfl)
theorem dX2_lays_2 : decode cX2_lays 2 = .ok (.iload_n 1, 1) := dk_27 (dk_at dksX2_lays_0 2 rfl rfl)
theorem dX2_lays_3 : decode cX2_lays 3 = .ok (.sipush 256, 3) := dk_17 1 0 (dk_at dksX2_lays_0 3 rfl rfl)
theorem dX2_lays_6 : decode cX2_lays 6 = .ok (.if_icmp .ge 16, 3) := dk_162 0 16 (dk_at dksX2_lays_0 6 rfl rfl)
theorem dX2_lays_9 : decode cX2_lays 9 = .ok (.aload_n 0, 1) := dk_42 (dk_at dksX2_lays_0 9 rfl rfl)
theorem dX2_lays_10 : decode cX2_lays 10 = .ok (.getfield 22, 3) := dk_180 0 22 (dk_at dksX2_lays_0 10 rfl rfl)
theorem dX2_lays_13 : decode cX2_lays 13 = .ok (.iload_n 1, 1) := dk_27 (dk_at dksX2_lays_0 13 rfl rfl)
theorem dX2_lays_14 : decode cX2_lays 14 = .ok (.iload_n 1, 1) := dk_27 (dk_at dksX2_lays_0 14 rfl rfl)
theorem dX2_lays_15 : decode cX2_lays 15 = .ok (.iastore, 1) := dk_79 (dk_at dksX2_lays_0 15 rfl rfl)
theorem dX2_lays_16 : decode cX2_lays 16 = .ok (.iinc 1 1, 3) := dk_132 1 1 (dk_at dksX2_lays_0 16 rfl rfl)
theorem dX2_lays_19 : decode cX2_lays 19 = .ok (.goto (-17), 3) := dk_167 255 239 (dk_at dksX2_lays_0 19 rfl rfl)
theorem dX2_lays_22 : decode cX2_lays 22 = .ok (.iconst 0, 1) := dk_3 (dk_at dksX2_lays_0 22 rfl rfl)
theorem dX2_lays_23 : decode cX2_lays 23 = .ok (.istore_n 1, 1) := dk_60 (dk_at dksX2_lays_0 23 rfl rfl)
theorem dX2_lays_24 : decode cX2_lays 24 = .ok (.iconst 0, 1) := dk_3 (dk_at dksX2_lays_1 0 rfl rfl)
theorem dX2_lays_25 : decode cX2_lays 25 = .ok (.istore_n 2, 1) := dk_61 (dk_at dksX2_lays_1 1 rfl rfl)
theorem dX2_lays_26 : decode cX2_lays 26 = .ok (.iload_n 2, 1) := dk_28 (dk_at dksX2_lays_1 2 rfl rfl)
theorem dX2_lays_27 : decode cX2_lays 27 = .ok (.sipush 256, 3) := dk_17 1 0 (dk_at dksX2_lays_1 3 rfl rfl)
theorem dX2_lays_30 : decode cX2_lays 30 = .ok (.if_icmp .ge 41, 3) := dk_162 0 41 (dk_at dksX2_lays_1 6 rfl rfl)
theorem dX2_lays_33 : decode cX2_lays 33 = .ok (.iload_n 1, 1) := dk_27 (dk_at dksX2_lays_1 9 rfl rfl)
theorem dX2_lays_34 : decode cX2_lays 34 = .ok (.aload_n 0, 1) := dk_42 (dk_at dksX2_lays_1 10 rfl rfl)
theorem dX2_lays_35 : decode cX2_lays 35 = .ok (.getfield 22, 3) := dk_180 0 22 (dk_at dksX2_lays_1 11 rfl rfl)
theorem dX2_lays_38 : decode cX2_lays 38 = .ok (.iload_n 2, 1) := dk_28 (dk_at dksX2_lays_1 14 rfl rfl)
theorem dX2_lays_39 : decode cX2_lays 39 = .ok (.iaload, 1) := dk_46 (dk_at dksX2_lays_1 15 rfl rfl)
theorem dX2_lays_40 : decode cX2_lays 40 = .ok (.iadd, 1) := dk_96 (dk_at dksX2_lays_1 16 rfl rfl)
theorem dX2_lays_41 : decode cX2_lays 41 = .ok (.aload_n 0, 1) := dk_42 (dk_at dksX2_lays_1 17 rfl rfl)
theorem dX2_lays_42 : decode cX2_lays 42 = .ok (.getfield 19, 3) := dk_180 0 19 (dk_at dksX2_lays_1 18 rfl rfl)
theorem dX2_lays_45 : decode cX2_lays 45 = .ok (.iload_n 2, 1) := dk_28 (dk_at dksX2_lays_1 21 rfl rfl)
theorem dX2_lays_46 : decode cX2_lays 46 = .ok (.aload_n 0, 1) := dk_42 (dk_at dksX2_lays_1 22 rfl rfl)
theorem dX2_lays_47 : decode cX2_lays 47 = .ok (.getfield 19, 3) := dk_180 0 19 (dk_at dksX2_lays_2 0 rfl rfl)
theorem dX2_lays_50 : decode cX2_lays 50 = .ok (.arraylength, 1) := dk_190 (dk_at dksX2_lays_2 3 rfl rfl)
theorem dX2_lays_51 : decode cX2_lays 51 = .ok (.irem, 1) := dk_112 (dk_at dksX2_lays_2 4 rfl rfl)
theorem dX2_lays_52 : decode cX2_lays 52 = .ok (.iaload, 1) := dk_46 (dk_at dksX2_lays_2 5 rfl rfl)
theorem dX2_lays_53 : decode cX2_lays 53 = .ok (.iadd, 1) := dk_96 (dk_at dksX2_lays_2 6 rfl rfl)
theorem dX2_lays_54 : decode cX2_lays 54 = .ok (.sipush 256, 3) := dk_17 1 0 (dk_at dksX2_lays_2 7 rfl rfl)
theorem dX2_lays_57 : decode cX2_lays 57 = .ok (.irem, 1) := dk_112 (dk_at dksX2_lays_2 10 rfl rfl)
theorem dX2_lays_58 : decode cX2_lays 58 = .ok (.istore_n 1, 1) := dk_60 (dk_at dksX2_lays_2 11 rfl rfl)
theorem dX2_lays_59 : decode cX2_lays 59 = .ok (.aload_n 0, 1) := dk_42 (dk_at dksX2_lays_2 12 rfl rfl)
theorem dX2_lays_60 : decode cX2_lays 60 = .ok (.iload_n 2, 1) := dk_28 (dk_at dksX2_lays_2 13 rfl rfl)
theorem dX2_lays_61 : decode cX2_lays 61 = .ok (.iload_n 1, 1) := dk_27 (dk_at dksX2_lays_2 14 rfl rfl)
theorem dX2_lays_62 : decode cX2_lays 62 = .ok (.invokevirtual 25, 3) := dk_182 0 25 (dk_at dksX2_lays_2 15 rfl rfl)
theorem dX2_lays_65 : decode cX2_lays 65 = .ok (.iinc 2 1, 3) := dk_132 2 1 (dk_at dksX2_lays_2 18 rfl rfl)
theorem dX2_lays_68 : decode cX2_lays 68 = .ok (.goto (-42), 3) := dk_167 255 214 (dk_at dksX2_lays_2 21 rfl rfl)
theorem dX2_lays_71 : decode cX2_lays 71 = .ok (.aload_n 0, 1) := dk_42 (dk_at dksX2_lays_3 0 rfl rfl)
theorem dX2_lays_72 : decode cX2_lays 72 = .ok (.iconst 0, 1) := dk_3 (dk_at dksX2_lays_3 1 rfl rfl)
theorem dX2_lays_73 : decode cX2_lays 73 = .ok (.putfield 29, 3) := dk_181 0 29 (dk_at dksX2_lays_3 2 rfl rfl)
theorem dX2_lays_76 : decode cX2_lays 76 = .ok (.aload_n 0, 1) := dk_42 (dk_at dksX2_lays_3 5 rfl rfl)
theorem dX2_lays_77 : decode cX2_lays 77 = .ok (.iconst 0, 1) := dk_3 (dk_at dksX2_lays_3 6 rfl rfl)
theorem dX2_lays_78 : decode cX2_lays 78 = .ok (.putfield 33, 3) := dk_181 0 33 (dk_at dksX2_lays_3 7 rfl rfl)
theorem dX2_lays_81 : decode cX2_lays 81 = .ok (.aload_n 0, 1) := dk_42 (dk_at dksX2_lays_3 10 rfl rfl)
theorem dX2_lays_82 : decode cX2_lays 82 = .ok (.iconst 0, 1) := dk_3 (dk_at dksX2_lays_3 11 rfl rfl)
theorem dX2_lays_83 : decode cX2_lays 83 = .ok (.putfield 36, 3) := dk_181 0 36 (dk_at dksX2_lays_3 12 rfl rfl)
theorem dX2_lays_86 : decode cX2_lays 86 = .ok (.return_, 1) := dk_177 (dk_at dksX2_lays_3 15 rfl rfl)
abbrev cX2_swaps : ByteArray := prog_8_method_2_code
def yX2_swaps : MethodName := ⟨RX2, "swaps", "(II)V"⟩
def dkwX2_swaps_1 : List UInt8 := [29, 79, 177]
abbrev dktX2_swaps_1 : List UInt8 := dkwX2_swaps_1 ++ []
def dkwX2_swaps_0 : List UInt8 := [42, 180, 0, 22, 27, 46, 62, 42, 180, 0, 22, 27, 42, 180, 0, 22, 28, 46, 79, 42, 180, 0, 22, 28]
abbrev dktX2_swaps_0 : List UInt8 := dkwX2_swaps_0 ++ dktX2_swaps_1
theorem dksX2_swaps_0 : cX2_swaps.data.toList.drop 0 = dktX2_swaps_0 := by decide +kernel
theorem dksX2_swaps_1 : cX2_swaps.data.toList.drop 24 = dktX2_swaps_1 := dk_seg dksX2_swaps_0 24 rfl rfl
theorem dX2_swaps_0 : decode cX2_swaps 0 = .ok (.aload_n 0, 1) := dk_42 (dk_at dksX2_swaps_0 0 rfl rfl)
theorem dX2_swaps_1 : decode cX2_swaps 1 = .ok (.getfield 22, 3) := dk_180 0 22 (dk_at dksX2_swaps_0 1 rfl rfl)
theorem dX2_swaps_4 : decode cX2_swaps 4 = .ok (.iload_n 1, 1) := dk_27 (dk_at dksX2_swaps_0 4 rfl rfl)
theorem dX2_swaps_5 : decode cX2_swaps 5 = .ok (.iaload, 1) := dk_46 (dk_at dksX2_swaps_0 5 rfl rfl)
theorem dX2_swaps_6 : decode cX2_swaps 6 = .ok (.istore_n 3, 1) := dk_62 (dk_at dksX2_swaps_0 6 rfl rfl)
theorem dX2_swaps_7 : decode cX2_swaps 7 = .ok (.aload_n 0, 1) := dk_42 (dk_at dksX2_swaps_0 7 rfl rfl)
theorem dX2_swaps_8 : decode cX2_swaps 8 = .ok (.getfield 22, 3) := dk_180 0 22 (dk_at dksX2_swaps_0 8 rfl rfl)
theorem dX2_swaps_11 : decode cX2_swaps 11 = .ok (.iload_n 1, 1) := dk_27 (dk_at dksX2_swaps_0 11 rfl rfl)
theorem dX2_swaps_12 : decode cX2_swaps 12 = .ok (.aload_n 0, 1) := dk_42 (dk_at dksX2_swaps_0 12 rfl rfl)
theorem dX2_swaps_13 : decode cX2_swaps 13 = .ok (.getfield 22, 3) := dk_180 0 22 (dk_at dksX2_swaps_0 13 rfl rfl)
theorem dX2_swaps_16 : decode cX2_swaps 16 = .ok (.iload_n 2, 1) := dk_28 (dk_at dksX2_swaps_0 16 rfl rfl)
theorem dX2_swaps_17 : decode cX2_swaps 17 = .ok (.iaload, 1) := dk_46 (dk_at dksX2_swaps_0 17 rfl rfl)
theorem dX2_swaps_18 : decode cX2_swaps 18 = .ok (.iastore, 1) := dk_79 (dk_at dksX2_swaps_0 18 rfl rfl)
theorem dX2_swaps_19 : decode cX2_swaps 19 = .ok (.aload_n 0, 1) := dk_42 (dk_at dksX2_swaps_0 19 rfl rfl)
theorem dX2_swaps_20 : decode cX2_swaps 20 = .ok (.getfield 22, 3) := dk_180 0 22 (dk_at dksX2_swaps_0 20 rfl rfl)
theorem dX2_swaps_23 : decode cX2_swaps 23 = .ok (.iload_n 2, 1) := dk_28 (dk_at dksX2_swaps_0 23 rfl rfl)
theorem dX2_swaps_24 : decode cX2_swaps 24 = .ok (.iload_n 3, 1) := dk_29 (dk_at dksX2_swaps_1 0 rfl rfl)
theorem dX2_swaps_25 : decode cX2_swaps 25 = .ok (.iastore, 1) := dk_79 (dk_at dksX2_swaps_1 1 rfl rfl)
theorem dX2_swaps_26 : decode cX2_swaps 26 = .ok (.return_, 1) := dk_177 (dk_at dksX2_swaps_1 2 rfl rfl)
abbrev cX2_run : ByteArray := prog_8_method_12_code
def yX2_run : MethodName := ⟨RX2, "run", "(II)I"⟩
def dkwX2_run_3 : List UInt8 := [180, 0, 13, 29, 21, 5, 96, 46, 42, 182, 0, 54, 130, 79, 132, 5, 1, 167, 255, 225, 21, 4, 172]
abbrev dktX2_run_3 : List UInt8 := dkwX2_run_3 ++ []
def dkwX2_run_2 : List UInt8 := [21, 4, 188, 10, 181, 0, 16, 3, 54, 5, 21, 5, 21, 4, 162, 0, 30, 42, 180, 0, 16, 21, 5, 42]
abbrev dktX2_run_2 : List UInt8 := dkwX2_run_2 ++ dktX2_run_3
def dkwX2_run_1 : List UInt8 := [29, 100, 4, 96, 112, 54, 4, 42, 180, 0, 36, 21, 4, 96, 17, 4, 0, 164, 0, 6, 16, 254, 172, 42]
abbrev dktX2_run_1 : List UInt8 := dkwX2_run_1 ++ dktX2_run_2
def dkwX2_run_0 : List UInt8 := [42, 180, 0, 19, 190, 154, 0, 5, 2, 172, 42, 27, 182, 0, 47, 62, 28, 18, 46, 126, 42, 180, 0, 39]
abbrev dktX2_run_0 : List UInt8 := dkwX2_run_0 ++ dktX2_run_1
theorem dksX2_run_0 : cX2_run.data.toList.drop 0 = dktX2_run_0 := by decide +kernel
theorem dksX2_run_1 : cX2_run.data.toList.drop 24 = dktX2_run_1 := dk_seg dksX2_run_0 24 rfl rfl
theorem dksX2_run_2 : cX2_run.data.toList.drop 48 = dktX2_run_2 := dk_seg dksX2_run_1 24 rfl rfl
theorem dksX2_run_3 : cX2_run.data.toList.drop 72 = dktX2_run_3 := dk_seg dksX2_run_2 24 rfl rfl
theorem dX2_run_0 : decode cX2_run 0 = .ok (.aload_n 0, 1) := dk_42 (dk_at dksX2_run_0 0 rfl rfl)
theorem dX2_run_1 : decode cX2_run 1 = .ok (.getfield 19, 3) := dk_180 0 19 (dk_at dksX2_run_0 1 rfl rfl)
theorem dX2_run_4 : decode cX2_run 4 = .ok (.arraylength, 1) := dk_190 (dk_at dksX2_run_0 4 rfl rfl)
theorem dX2_run_5 : decode cX2_run 5 = .ok (.ifCond .ne 5, 3) := dk_154 0 5 (dk_at dksX2_run_0 5 rfl rfl)
theorem dX2_run_8 : decode cX2_run 8 = .ok (.iconst (-1), 1) := dk_2 (dk_at dksX2_run_0 8 rfl rfl)
theorem dX2_run_9 : decode cX2_run 9 = .ok (.ireturn, 1) := dk_172 (dk_at dksX2_run_0 9 rfl rfl)
theorem dX2_run_10 : decode cX2_run 10 = .ok (.aload_n 0, 1) := dk_42 (dk_at dksX2_run_0 10 rfl rfl)
theorem dX2_run_11 : decode cX2_run 11 = .ok (.iload_n 1, 1) := dk_27 (dk_at dksX2_run_0 11 rfl rfl)
theorem dX2_run_12 : decode cX2_run 12 = .ok (.invokevirtual 47, 3) := dk_182 0 47 (dk_at dksX2_run_0 12 rfl rfl)
theorem dX2_run_15 : decode cX2_run 15 = .ok (.istore_n 3, 1) := dk_62 (dk_at dksX2_run_0 15 rfl rfl)
theorem dX2_run_16 : decode cX2_run 16 = .ok (.iload_n 2, 1) := dk_28 (dk_at dksX2_run_0 16 rfl rfl)
theorem dX2_run_17 : decode cX2_run 17 = .ok (.ldc 46, 2) := dk_18 46 (dk_at dksX2_run_0 17 rfl rfl)
theorem dX2_run_19 : decode cX2_run 19 = .ok (.iand, 1) := dk_126 (dk_at dksX2_run_0 19 rfl rfl)
theorem dX2_run_20 : decode cX2_run 20 = .ok (.aload_n 0, 1) := dk_42 (dk_at dksX2_run_0 20 rfl rfl)
theorem dX2_run_21 : decode cX2_run 21 = .ok (.getfield 39, 3) := dk_180 0 39 (dk_at dksX2_run_0 21 rfl rfl)
theorem dX2_run_24 : decode cX2_run 24 = .ok (.iload_n 3, 1) := dk_29 (dk_at dksX2_run_1 0 rfl rfl)
theorem dX2_run_25 : decode cX2_run 25 = .ok (.isub, 1) := dk_100 (dk_at dksX2_run_1 1 rfl rfl)
theorem dX2_run_26 : decode cX2_run 26 = .ok (.iconst 1, 1) := dk_4 (dk_at dksX2_run_1 2 rfl rfl)
theorem dX2_run_27 : decode cX2_run 27 = .ok (.iadd, 1) := dk_96 (dk_at dksX2_run_1 3 rfl rfl)
theorem dX2_run_28 : decode cX2_run 28 = .ok (.irem, 1) := dk_112 (dk_at dksX2_run_1 4 rfl rfl)
theorem dX2_run_29 : decode cX2_run 29 = .ok (.istore 4, 2) := dk_54 4 (dk_at dksX2_run_1 5 rfl rfl)
theorem dX2_run_31 : decode cX2_run 31 = .ok (.aload_n 0, 1) := dk_42 (dk_at dksX2_run_1 7 rfl rfl)
theorem dX2_run_32 : decode cX2_run 32 = .ok (.getfield 36, 3) := dk_180 0 36 (dk_at dksX2_run_1 8 rfl rfl)
theorem dX2_run_35 : decode cX2_run 35 = .ok (.iload 4, 2) := dk_21 4 (dk_at dksX2_run_1 11 rfl rfl)
theorem dX2_run_37 : decode cX2_run 37 = .ok (.iadd, 1) := dk_96 (dk_at dksX2_run_1 13 rfl rfl)
theorem dX2_run_38 : decode cX2_run 38 = .ok (.sipush 1024, 3) := dk_17 4 0 (dk_at dksX2_run_1 14 rfl rfl)
theorem dX2_run_41 : decode cX2_run 41 = .ok (.if_icmp .le 6, 3) := dk_164 0 6 (dk_at dksX2_run_1 17 rfl rfl)
theorem dX2_run_44 : decode cX2_run 44 = .ok (.bipush (-2), 2) := dk_16 254 (dk_at dksX2_run_1 20 rfl rfl)
theorem dX2_run_46 : decode cX2_run 46 = .ok (.ireturn, 1) := dk_172 (dk_at dksX2_run_1 22 rfl rfl)
theorem dX2_run_47 : decode cX2_run 47 = .ok (.aload_n 0, 1) := dk_42 (dk_at dksX2_run_1 23 rfl rfl)
theorem dX2_run_48 : decode cX2_run 48 = .ok (.iload 4, 2) := dk_21 4 (dk_at dksX2_run_2 0 rfl rfl)
theorem dX2_run_50 : decode cX2_run 50 = .ok (.newarray .int, 2) := dk_188_10 (dk_at dksX2_run_2 2 rfl rfl)
theorem dX2_run_52 : decode cX2_run 52 = .ok (.putfield 16, 3) := dk_181 0 16 (dk_at dksX2_run_2 4 rfl rfl)
theorem dX2_run_55 : decode cX2_run 55 = .ok (.iconst 0, 1) := dk_3 (dk_at dksX2_run_2 7 rfl rfl)
theorem dX2_run_56 : decode cX2_run 56 = .ok (.istore 5, 2) := dk_54 5 (dk_at dksX2_run_2 8 rfl rfl)
theorem dX2_run_58 : decode cX2_run 58 = .ok (.iload 5, 2) := dk_21 5 (dk_at dksX2_run_2 10 rfl rfl)
theorem dX2_run_60 : decode cX2_run 60 = .ok (.iload 4, 2) := dk_21 4 (dk_at dksX2_run_2 12 rfl rfl)
theorem dX2_run_62 : decode cX2_run 62 = .ok (.if_icmp .ge 30, 3) := dk_162 0 30 (dk_at dksX2_run_2 14 rfl rfl)
theorem dX2_run_65 : decode cX2_run 65 = .ok (.aload_n 0, 1) := dk_42 (dk_at dksX2_run_2 17 rfl rfl)
theorem dX2_run_66 : decode cX2_run 66 = .ok (.getfield 16, 3) := dk_180 0 16 (dk_at dksX2_run_2 18 rfl rfl)
theorem dX2_run_69 : decode cX2_run 69 = .ok (.iload 5, 2) := dk_21 5 (dk_at dksX2_run_2 21 rfl rfl)
theorem dX2_run_71 : decode cX2_run 71 = .ok (.aload_n 0, 1) := dk_42 (dk_at dksX2_run_2 23 rfl rfl)
theorem dX2_run_72 : decode cX2_run 72 = .ok (.getfield 13, 3) := dk_180 0 13 (dk_at dksX2_run_3 0 rfl rfl)
theorem dX2_run_75 : decode cX2_run 75 = .ok (.iload_n 3, 1) := dk_29 (dk_at dksX2_run_3 3 rfl rfl)
theorem dX2_run_76 : decode cX2_run 76 = .ok (.iload 5, 2) := dk_21 5 (dk_at dksX2_run_3 4 rfl rfl)
theorem dX2_run_78 : decode cX2_run 78 = .ok (.iadd, 1) := dk_96 (dk_at dksX2_run_3 6 rfl rfl)
theorem dX2_run_79 : decode cX2_run 79 = .ok (.iaload, 1) := dk_46 (dk_at dksX2_run_3 7 rfl rfl)
theorem dX2_run_80 : decode cX2_run 80 = .ok (.aload_n 0, 1) := dk_42 (dk_at dksX2_run_3 8 rfl rfl)
theorem dX2_run_81 : decode cX2_run 81 = .ok (.invokevirtual 54, 3) := dk_182 0 54 (dk_at dksX2_run_3 9 rfl rfl)
theorem dX2_run_84 : decode cX2_run 84 = .ok (.ixor, 1) := dk_130 (dk_at dksX2_run_3 12 rfl rfl)
theorem dX2_run_85 : decode cX2_run 85 = .ok (.iastore, 1) := dk_79 (dk_at dksX2_run_3 13 rfl rfl)
theorem dX2_run_86 : decode cX2_run 86 = .ok (.iinc 5 1, 3) := dk_132 5 1 (dk_at dksX2_run_3 14 rfl rfl)
theorem dX2_run_89 : decode cX2_run 89 = .ok (.goto (-31), 3) := dk_167 255 225 (dk_at dksX2_run_3 17 rfl rfl)
theorem dX2_run_92 : decode cX2_run 92 = .ok (.iload 4, 2) := dk_21 4 (dk_at dksX2_run_3 20 rfl rfl)
theorem dX2_run_94 : decode cX2_run 94 = .ok (.ireturn, 1) := dk_172 (dk_at dksX2_run_3 22 rfl rfl)
abbrev cX2_next : ByteArray := prog_8_method_4_code
def yX2_next : MethodName := ⟨RX2, "next", "()I"⟩
def dkwX2_next_3 : List UInt8 := [180, 0, 22, 42, 180, 0, 33, 46, 96, 17, 1, 0, 112, 46, 172]
abbrev dktX2_next_3 : List UInt8 := dkwX2_next_3 ++ []
def dkwX2_next_2 : List UInt8 := [42, 89, 180, 0, 36, 4, 96, 181, 0, 36, 42, 180, 0, 22, 42, 180, 0, 22, 42, 180, 0, 29, 46, 42]
abbrev dktX2_next_2 : List UInt8 := dkwX2_next_2 ++ dktX2_next_3
def dkwX2_next_1 : List UInt8 := [180, 0, 29, 46, 96, 17, 1, 0, 112, 181, 0, 33, 42, 42, 180, 0, 29, 42, 180, 0, 33, 182, 0, 25]
abbrev dktX2_next_1 : List UInt8 := dkwX2_next_1 ++ dktX2_next_2
def dkwX2_next_0 : List UInt8 := [42, 42, 180, 0, 29, 4, 96, 17, 1, 0, 112, 181, 0, 29, 42, 42, 180, 0, 33, 42, 180, 0, 22, 42]
abbrev dktX2_next_0 : List UInt8 := dkwX2_next_0 ++ dktX2_next_1
theorem dksX2_next_0 : cX2_next.data.toList.drop 0 = dktX2_next_0 := by decide +kernel
theorem dksX2_next_1 : cX2_next.data.toList.drop 24 = dktX2_next_1 := dk_seg dksX2_next_0 24 rfl rfl
theorem dksX2_next_2 : cX2_next.data.toList.drop 48 = dktX2_next_2 := dk_seg dksX2_next_1 24 rfl rfl
theorem dksX2_next_3 : cX2_next.data.toList.drop 72 = dktX2_next_3 := dk_seg dksX2_next_2 24 rfl rfl
theorem dX2_next_0 : decode cX2_next 0 = .ok (.aload_n 0, 1) := dk_42 (dk_at dksX2_next_0 0 rfl rfl)
theorem dX2_next_1 : decode cX2_next 1 = .ok (.aload_n 0, 1) := dk_42 (dk_at dksX2_next_0 1 rfl rfl)
theorem dX2_next_2 : decode cX2_next 2 = .ok (.getfield 29, 3) := dk_180 0 29 (dk_at dksX2_next_0 2 rfl rfl)
theorem dX2_next_5 : decode cX2_next 5 = .ok (.iconst 1, 1) := dk_4 (dk_at dksX2_next_0 5 rfl rfl)
theorem dX2_next_6 : decode cX2_next 6 = .ok (.iadd, 1) := dk_96 (dk_at dksX2_next_0 6 rfl rfl)
theorem dX2_next_7 : decode cX2_next 7 = .ok (.sipush 256, 3) := dk_17 1 0 (dk_at dksX2_next_0 7 rfl rfl)
theorem dX2_next_10 : decode cX2_next 10 = .ok (.irem, 1) := dk_112 (dk_at dksX2_next_0 10 rfl rfl)
theorem dX2_next_11 : decode cX2_next 11 = .ok (.putfield 29, 3) := dk_181 0 29 (dk_at dksX2_next_0 11 rfl rfl)
theorem dX2_next_14 : decode cX2_next 14 = .ok (.aload_n 0, 1) := dk_42 (dk_at dksX2_next_0 14 rfl rfl)
theorem dX2_next_15 : decode cX2_next 15 = .ok (.aload_n 0, 1) := dk_42 (dk_at dksX2_next_0 15 rfl rfl)
theorem dX2_next_16 : decode cX2_next 16 = .ok (.getfield 33, 3) := dk_180 0 33 (dk_at dksX2_next_0 16 rfl rfl)
theorem dX2_next_19 : decode cX2_next 19 = .ok (.aload_n 0, 1) := dk_42 (dk_at dksX2_next_0 19 rfl rfl)
theorem dX2_next_20 : decode cX2_next 20 = .ok (.getfield 22, 3) := dk_180 0 22 (dk_at dksX2_next_0 20 rfl rfl)
theorem dX2_next_23 : decode cX2_next 23 = .ok (.aload_n 0, 1) := dk_42 (dk_at dksX2_next_0 23 rfl rfl)
theorem dX2_next_24 : decode cX2_next 24 = .ok (.getfield 29, 3) := dk_180 0 29 (dk_at dksX2_next_1 0 rfl rfl)
theorem dX2_next_27 : decode cX2_next 27 = .ok (.iaload, 1) := dk_46 (dk_at dksX2_next_1 3 rfl rfl)
theorem dX2_next_28 : decode cX2_next 28 = .ok (.iadd, 1) := dk_96 (dk_at dksX2_next_1 4 rfl rfl)
theorem dX2_next_29 : decode cX2_next 29 = .ok (.sipush 256, 3) := dk_17 1 0 (dk_at dksX2_next_1 5 rfl rfl)
theorem dX2_next_32 : decode cX2_next 32 = .ok (.irem, 1) := dk_112 (dk_at dksX2_next_1 8 rfl rfl)
theorem dX2_next_33 : decode cX2_next 33 = .ok (.putfield 33, 3) := dk_181 0 33 (dk_at dksX2_next_1 9 rfl rfl)
theorem dX2_next_36 : decode cX2_next 36 = .ok (.aload_n 0, 1) := dk_42 (dk_at dksX2_next_1 12 rfl rfl)
theorem dX2_next_37 : decode cX2_next 37 = .ok (.aload_n 0, 1) := dk_42 (dk_at dksX2_next_1 13 rfl rfl)
theorem dX2_next_38 : decode cX2_next 38 = .ok (.getfield 29, 3) := dk_180 0 29 (dk_at dksX2_next_1 14 rfl rfl)
theorem dX2_next_41 : decode cX2_next 41 = .ok (.aload_n 0, 1) := dk_42 (dk_at dksX2_next_1 17 rfl rfl)
theorem dX2_next_42 : decode cX2_next 42 = .ok (.getfield 33, 3) := dk_180 0 33 (dk_at dksX2_next_1 18 rfl rfl)
theorem dX2_next_45 : decode cX2_next 45 = .ok (.invokevirtual 25, 3) := dk_182 0 25 (dk_at dksX2_next_1 21 rfl rfl)
theorem dX2_next_48 : decode cX2_next 48 = .ok (.aload_n 0, 1) := dk_42 (dk_at dksX2_next_2 0 rfl rfl)
theorem dX2_next_49 : decode cX2_next 49 = .ok (.dup, 1) := dk_89 (dk_at dksX2_next_2 1 rfl rfl)
theorem dX2_next_50 : decode cX2_next 50 = .ok (.getfield 36, 3) := dk_180 0 36 (dk_at dksX2_next_2 2 rfl rfl)
theorem dX2_next_53 : decode cX2_next 53 = .ok (.iconst 1, 1) := dk_4 (dk_at dksX2_next_2 5 rfl rfl)
theorem dX2_next_54 : decode cX2_next 54 = .ok (.iadd, 1) := dk_96 (dk_at dksX2_next_2 6 rfl rfl)
theorem dX2_next_55 : decode cX2_next 55 = .ok (.putfield 36, 3) := dk_181 0 36 (dk_at dksX2_next_2 7 rfl rfl)
theorem dX2_next_58 : decode cX2_next 58 = .ok (.aload_n 0, 1) := dk_42 (dk_at dksX2_next_2 10 rfl rfl)
theorem dX2_next_59 : decode cX2_next 59 = .ok (.getfield 22, 3) := dk_180 0 22 (dk_at dksX2_next_2 11 rfl rfl)
theorem dX2_next_62 : decode cX2_next 62 = .ok (.aload_n 0, 1) := dk_42 (dk_at dksX2_next_2 14 rfl rfl)
theorem dX2_next_63 : decode cX2_next 63 = .ok (.getfield 22, 3) := dk_180 0 22 (dk_at dksX2_next_2 15 rfl rfl)
theorem dX2_next_66 : decode cX2_next 66 = .ok (.aload_n 0, 1) := dk_42 (dk_at dksX2_next_2 18 rfl rfl)
theorem dX2_next_67 : decode cX2_next 67 = .ok (.getfield 29, 3) := dk_180 0 29 (dk_at dksX2_next_2 19 rfl rfl)
theorem dX2_next_70 : decode cX2_next 70 = .ok (.iaload, 1) := dk_46 (dk_at dksX2_next_2 22 rfl rfl)
theorem dX2_next_71 : decode cX2_next 71 = .ok (.aload_n 0, 1) := dk_42 (dk_at dksX2_next_2 23 rfl rfl)
theorem dX2_next_72 : decode cX2_next 72 = .ok (.getfield 22, 3) := dk_180 0 22 (dk_at dksX2_next_3 0 rfl rfl)
theorem dX2_next_75 : decode cX2_next 75 = .ok (.aload_n 0, 1) := dk_42 (dk_at dksX2_next_3 3 rfl rfl)
theorem dX2_next_76 : decode cX2_next 76 = .ok (.getfield 33, 3) := dk_180 0 33 (dk_at dksX2_next_3 4 rfl rfl)
theorem dX2_next_79 : decode cX2_next 79 = .ok (.iaload, 1) := dk_46 (dk_at dksX2_next_3 7 rfl rfl)
theorem dX2_next_80 : decode cX2_next 80 = .ok (.iadd, 1) := dk_96 (dk_at dksX2_next_3 8 rfl rfl)
theorem dX2_next_81 : decode cX2_next 81 = .ok (.sipush 256, 3) := dk_17 1 0 (dk_at dksX2_next_3 9 rfl rfl)
theorem dX2_next_84 : decode cX2_next 84 = .ok (.irem, 1) := dk_112 (dk_at dksX2_next_3 12 rfl rfl)
theorem dX2_next_85 : decode cX2_next 85 = .ok (.iaload, 1) := dk_46 (dk_at dksX2_next_3 13 rfl rfl)
theorem dX2_next_86 : decode cX2_next 86 = .ok (.ireturn, 1) := dk_172 (dk_at dksX2_next_3 14 rfl rfl)
abbrev cX2_one : ByteArray := prog_8_method_13_code
def yX2_one : MethodName := ⟨RX2, "one", "(I)I"⟩
def dkwX2_one_1 : List UInt8 := [167, 0, 13, 27, 17, 0, 255, 126, 42, 182, 0, 54, 130, 172]
abbrev dktX2_one_1 : List UInt8 := dkwX2_one_1 ++ []
def dkwX2_one_0 : List UInt8 := [42, 180, 0, 19, 190, 154, 0, 5, 2, 172, 42, 180, 0, 36, 17, 4, 0, 161, 0, 8, 16, 254]
abbrev dktX2_one_0 : List UInt8 := dkwX2_one_0 ++ dktX2_one_1
theorem dksX2_one_0 : cX2_one.data.toList.drop 0 = dktX2_one_0 := by decide +kernel
theorem dksX2_one_1 : cX2_one.data.toList.drop 22 = dktX2_one_1 := dk_seg dksX2_one_0 22 rfl rfl
theorem dX2_one_0 : decode cX2_one 0 = .ok (.aload_n 0, 1) := dk_42 (dk_at dksX2_one_0 0 rfl rfl)
theorem dX2_one_1 : decode cX2_one 1 = .ok (.getfield 19, 3) := dk_180 0 19 (dk_at dksX2_one_0 1 rfl rfl)
theorem dX2_one_4 : decode cX2_one 4 = .ok (.arraylength, 1) := dk_190 (dk_at dksX2_one_0 4 rfl rfl)
theorem dX2_one_5 : decode cX2_one 5 = .ok (.ifCond .ne 5, 3) := dk_154 0 5 (dk_at dksX2_one_0 5 rfl rfl)
theorem dX2_one_8 : decode cX2_one 8 = .ok (.iconst (-1), 1) := dk_2 (dk_at dksX2_one_0 8 rfl rfl)
theorem dX2_one_9 : decode cX2_one 9 = .ok (.ireturn, 1) := dk_172 (dk_at dksX2_one_0 9 rfl rfl)
theorem dX2_one_10 : decode cX2_one 10 = .ok (.aload_n 0, 1) := dk_42 (dk_at dksX2_one_0 10 rfl rfl)
theorem dX2_one_11 : decode cX2_one 11 = .ok (.getfield 36, 3) := dk_180 0 36 (dk_at dksX2_one_0 11 rfl rfl)
theorem dX2_one_14 : decode cX2_one 14 = .ok (.sipush 1024, 3) := dk_17 4 0 (dk_at dksX2_one_0 14 rfl rfl)
theorem dX2_one_17 : decode cX2_one 17 = .ok (.if_icmp .lt 8, 3) := dk_161 0 8 (dk_at dksX2_one_0 17 rfl rfl)
theorem dX2_one_20 : decode cX2_one 20 = .ok (.bipush (-2), 2) := dk_16 254 (dk_at dksX2_one_0 20 rfl rfl)
theorem dX2_one_22 : decode cX2_one 22 = .ok (.goto 13, 3) := dk_167 0 13 (dk_at dksX2_one_1 0 rfl rfl)
theorem dX2_one_25 : decode cX2_one 25 = .ok (.iload_n 1, 1) := dk_27 (dk_at dksX2_one_1 3 rfl rfl)
theorem dX2_one_26 : decode cX2_one 26 = .ok (.sipush 255, 3) := dk_17 0 255 (dk_at dksX2_one_1 4 rfl rfl)
theorem dX2_one_29 : decode cX2_one 29 = .ok (.iand, 1) := dk_126 (dk_at dksX2_one_1 7 rfl rfl)
theorem dX2_one_30 : decode cX2_one 30 = .ok (.aload_n 0, 1) := dk_42 (dk_at dksX2_one_1 8 rfl rfl)
theorem dX2_one_31 : decode cX2_one 31 = .ok (.invokevirtual 54, 3) := dk_182 0 54 (dk_at dksX2_one_1 9 rfl rfl)
theorem dX2_one_34 : decode cX2_one 34 = .ok (.ixor, 1) := dk_130 (dk_at dksX2_one_1 12 rfl rfl)
theorem dX2_one_35 : decode cX2_one 35 = .ok (.ireturn, 1) := dk_172 (dk_at dksX2_one_1 13 rfl rfl)
abbrev cX2_again : ByteArray := prog_8_method_14_code
def yX2_again : MethodName := ⟨RX2, "again", "()V"⟩
def dkwX2_again_0 : List UInt8 := [42, 180, 0, 19, 190, 158, 0, 7, 42, 182, 0, 51, 177]
abbrev dktX2_again_0 : List UInt8 := dkwX2_again_0 ++ []
theorem dksX2_again_0 : cX2_again.data.toList.drop 0 = dktX2_again_0 := by decide +kernel
theorem dX2_again_0 : decode cX2_again 0 = .ok (.aload_n 0, 1) := dk_42 (dk_at dksX2_again_0 0 rfl rfl)
theorem dX2_again_1 : decode cX2_again 1 = .ok (.getfield 19, 3) := dk_180 0 19 (dk_at dksX2_again_0 1 rfl rfl)
theorem dX2_again_4 : decode cX2_again 4 = .ok (.arraylength, 1) := dk_190 (dk_at dksX2_again_0 4 rfl rfl)
theorem dX2_again_5 : decode cX2_again 5 = .ok (.ifCond .le 7, 3) := dk_158 0 7 (dk_at dksX2_again_0 5 rfl rfl)
theorem dX2_again_8 : decode cX2_again 8 = .ok (.aload_n 0, 1) := dk_42 (dk_at dksX2_again_0 8 rfl rfl)
theorem dX2_again_9 : decode cX2_again 9 = .ok (.invokevirtual 51, 3) := dk_182 0 51 (dk_at dksX2_again_0 9 rfl rfl)
theorem dX2_again_12 : decode cX2_again 12 = .ok (.return_, 1) := dk_177 (dk_at dksX2_again_0 12 rfl rfl)
abbrev cX2_out : ByteArray := prog_8_method_15_code
def yX2_out : MethodName := ⟨RX2, "out", "(I)I"⟩
def dkwX2_out_1 : List UInt8 := [190, 112, 46, 172]
abbrev dktX2_out_1 : List UInt8 := dkwX2_out_1 ++ []
def dkwX2_out_0 : List UInt8 := [42, 180, 0, 16, 190, 154, 0, 7, 2, 167, 0, 18, 42, 180, 0, 16, 27, 18, 46, 126, 42, 180, 0, 16]
abbrev dktX2_out_0 : List UInt8 := dkwX2_out_0 ++ dktX2_out_1
theorem dksX2_out_0 : cX2_out.data.toList.drop 0 = dktX2_out_0 := by decide +kernel
theorem dksX2_out_1 : cX2_out.data.toList.drop 24 = dktX2_out_1 := dk_seg dksX2_out_0 24 rfl rfl
theorem dX2_out_0 : decode cX2_out 0 = .ok (.aload_n 0, 1) := dk_42 (dk_at dksX2_out_0 0 rfl rfl)
theorem dX2_out_1 : decode cX2_out 1 = .ok (.getfield 16, 3) := dk_180 0 16 (dk_at dksX2_out_0 1 rfl rfl)
theorem dX2_out_4 : decode cX2_out 4 = .ok (.arraylength, 1) := dk_190 (dk_at dksX2_out_0 4 rfl rfl)
theorem dX2_out_5 : decode cX2_out 5 = .ok (.ifCond .ne 7, 3) := dk_154 0 7 (dk_at dksX2_out_0 5 rfl rfl)
theorem dX2_out_8 : decode cX2_out 8 = .ok (.iconst (-1), 1) := dk_2 (dk_at dksX2_out_0 8 rfl rfl)
theorem dX2_out_9 : decode cX2_out 9 = .ok (.goto 18, 3) := dk_167 0 18 (dk_at dksX2_out_0 9 rfl rfl)
theorem dX2_out_12 : decode cX2_out 12 = .ok (.aload_n 0, 1) := dk_42 (dk_at dksX2_out_0 12 rfl rfl)
theorem dX2_out_13 : decode cX2_out 13 = .ok (.getfield 16, 3) := dk_180 0 16 (dk_at dksX2_out_0 13 rfl rfl)
theorem dX2_out_16 : decode cX2_out 16 = .ok (.iload_n 1, 1) := dk_27 (dk_at dksX2_out_0 16 rfl rfl)
theorem dX2_out_17 : decode cX2_out 17 = .ok (.ldc 46, 2) := dk_18 46 (dk_at dksX2_out_0 17 rfl rfl)
theorem dX2_out_19 : decode cX2_out 19 = .ok (.iand, 1) := dk_126 (dk_at dksX2_out_0 19 rfl rfl)
theorem dX2_out_20 : decode cX2_out 20 = .ok (.aload_n 0, 1) := dk_42 (dk_at dksX2_out_0 20 rfl rfl)
theorem dX2_out_21 : decode cX2_out 21 = .ok (.getfield 16, 3) := dk_180 0 16 (dk_at dksX2_out_0 21 rfl rfl)
theorem dX2_out_24 : decode cX2_out 24 = .ok (.arraylength, 1) := dk_190 (dk_at dksX2_out_1 0 rfl rfl)
theorem dX2_out_25 : decode cX2_out 25 = .ok (.irem, 1) := dk_112 (dk_at dksX2_out_1 1 rfl rfl)
theorem dX2_out_26 : decode cX2_out 26 = .ok (.iaload, 1) := dk_46 (dk_at dksX2_out_1 2 rfl rfl)
theorem dX2_out_27 : decode cX2_out 27 = .ok (.ireturn, 1) := dk_172 (dk_at dksX2_out_1 3 rfl rfl)
theorem q11 : (Jvm.Cond.initialized "RcFourDeskModel") ∈ lw_all := lw_g (lw_at lw_m1 3 rfl) rfl
theorem q274 : (Jvm.Cond.instantiable "RcFourDeskModel" (9 : Nat)) ∈ lw_all := lw_g (lw_at lw_m2 26 rfl) rfl
theorem q276 : (Jvm.Cond.instanceMethod ({ cls := "RcFourDeskModel", name := "<init>", desc := "()V" } : Jvm.MethodName)) ∈ lw_all := lw_g (lw_at lw_m2 28 rfl) rfl
theorem q277 : (Jvm.Cond.code ({ cls := "RcFourDeskModel", name := "<init>", desc := "()V" } : Jvm.MethodName) prog_8_method_1_code (1 : Nat) (Option.none : Option Jvm.ClassFile.FieldType)) ∈ lw_all := lw_g (lw_at lw_m2 29 rfl) rfl
theorem q278 : (Jvm.Cond.methodLink "RcFourDeskModel" (1 : Nat) ({ cls := "java/lang/Object", name := "<init>", desc := "()V" } : Jvm.MethodName)) ∈ lw_all := lw_g (lw_at lw_m2 30 rfl) rfl
theorem q279 : (Jvm.Cond.fieldLink "RcFourDeskModel" (7 : Nat) "RcFourDeskModel" "key" "[I") ∈ lw_all := lw_g (lw_at lw_m2 31 rfl) rfl
theorem q280 : (Jvm.Cond.fieldLink "RcFourDeskModel" (13 : Nat) "RcFourDeskModel" "text" "[I") ∈ lw_all := lw_g (lw_at lw_m2 32 rfl) rfl
theorem q281 : (Jvm.Cond.fieldLink "RcFourDeskModel" (39 : Nat) "RcFourDeskModel" "size" "I") ∈ lw_all := lw_g (lw_at lw_m2 33 rfl) rfl
theorem q282 : (Jvm.Cond.fieldLink "RcFourDeskModel" (16 : Nat) "RcFourDeskModel" "out" "[I") ∈ lw_all := lw_g (lw_at lw_m2 34 rfl) rfl
theorem q283 : (Jvm.Cond.fieldLink "RcFourDeskModel" (19 : Nat) "RcFourDeskModel" "used" "[I") ∈ lw_all := lw_g (lw_at lw_m2 35 rfl) rfl
theorem q284 : (Jvm.Cond.fieldLink "RcFourDeskModel" (36 : Nat) "RcFourDeskModel" "given" "I") ∈ lw_all := lw_g (lw_at lw_m2 36 rfl) rfl
theorem q285 : (Jvm.Cond.fieldLink "RcFourDeskModel" (22 : Nat) "RcFourDeskModel" "state" "[I") ∈ lw_all := lw_g (lw_at lw_m2 37 rfl) rfl
theorem q286 : (Jvm.Cond.fieldLink "RcFourDeskModel" (29 : Nat) "RcFourDeskModel" "i" "I") ∈ lw_all := lw_g (lw_at lw_m2 38 rfl) rfl
theorem q287 : (Jvm.Cond.fieldLink "RcFourDeskModel" (33 : Nat) "RcFourDeskModel" "j" "I") ∈ lw_all := lw_g (lw_at lw_m2 39 rfl) rfl
theorem q288 : (Jvm.Cond.laysFinal "RcFourDeskModel" "RcFourDeskModel" "key" "[I") ∈ lw_all := lw_g (lw_at lw_m2 40 rfl) rfl
theorem q289 : (Jvm.Cond.soleField "RcFourDeskModel" "key") ∈ lw_all := lw_g (lw_at lw_m2 41 rfl) rfl
theorem q290 : (Jvm.Cond.laysFinal "RcFourDeskModel" "RcFourDeskModel" "text" "[I") ∈ lw_all := lw_g (lw_at lw_m2 42 rfl) rfl
theorem q291 : (Jvm.Cond.soleField "RcFourDeskModel" "text") ∈ lw_all := lw_g (lw_at lw_m2 43 rfl) rfl
theorem q292 : (Jvm.Cond.lays "RcFourDeskModel" "RcFourDeskModel" "size" "I") ∈ lw_all := lw_g (lw_at lw_m2 44 rfl) rfl
theorem q293 : (Jvm.Cond.soleField "RcFourDeskModel" "size") ∈ lw_all := lw_g (lw_at lw_m2 45 rfl) rfl
theorem q294 : (Jvm.Cond.lays "RcFourDeskModel" "RcFourDeskModel" "out" "[I") ∈ lw_all := lw_g (lw_at lw_m2 46 rfl) rfl
theorem q295 : (Jvm.Cond.soleField "RcFourDeskModel" "out") ∈ lw_all := lw_g (lw_at lw_m2 47 rfl) rfl
theorem q296 : (Jvm.Cond.lays "RcFourDeskModel" "RcFourDeskModel" "used" "[I") ∈ lw_all := lw_g (lw_at lw_m2 48 rfl) rfl
theorem q297 : (Jvm.Cond.soleField "RcFourDeskModel" "used") ∈ lw_all := lw_g (lw_at lw_m2 49 rfl) rfl
theorem q298 : (Jvm.Cond.lays "RcFourDeskModel" "RcFourDeskModel" "given" "I") ∈ lw_all := lw_g (lw_at lw_m2 50 rfl) rfl
theorem q299 : (Jvm.Cond.soleField "RcFourDeskModel" "given") ∈ lw_all := lw_g (lw_at lw_m2 51 rfl) rfl
theorem q300 : (Jvm.Cond.laysFinal "RcFourDeskModel" "RcFourDeskModel" "state" "[I") ∈ lw_all := lw_g (lw_at lw_m2 52 rfl) rfl
theorem q301 : (Jvm.Cond.soleField "RcFourDeskModel" "state") ∈ lw_all := lw_g (lw_at lw_m2 53 rfl) rfl
theorem q302 : (Jvm.Cond.lays "RcFourDeskModel" "RcFourDeskModel" "i" "I") ∈ lw_all := lw_g (lw_at lw_m2 54 rfl) rfl
theorem q303 : (Jvm.Cond.soleField "RcFourDeskModel" "i") ∈ lw_all := lw_g (lw_at lw_m2 55 rfl) rfl
theorem q304 : (Jvm.Cond.lays "RcFourDeskModel" "RcFourDeskModel" "j" "I") ∈ lw_all := lw_g (lw_at lw_m2 56 rfl) rfl
theorem q305 : (Jvm.Cond.soleField "RcFourDeskModel" "j") ∈ lw_all := lw_g (lw_at lw_m2 57 rfl) rfl
theorem q306 : (Jvm.Cond.superclass "RcFourDeskModel" "java/lang/Object") ∈ lw_all := lw_g (lw_at lw_m2 58 rfl) rfl
theorem q309 : (Jvm.Cond.instanceMethod ({ cls := "RcFourDeskModel", name := "put", desc := "(IIII)Z" } : Jvm.MethodName)) ∈ lw_all := lw_g (lw_at lw_m2 61 rfl) rfl
theorem q310 : (Jvm.Cond.selects "RcFourDeskModel" ({ cls := "RcFourDeskModel", name := "put", desc := "(IIII)Z" } : Jvm.MethodName) ({ cls := "RcFourDeskModel", name := "put", desc := "(IIII)Z" } : Jvm.MethodName)) ∈ lw_all := lw_g (lw_at lw_m2 62 rfl) rfl
theorem q311 : (Jvm.Cond.code ({ cls := "RcFourDeskModel", name := "put", desc := "(IIII)Z" } : Jvm.MethodName) prog_8_method_6_code (5 : Nat) (Option.some Jvm.ClassFile.FieldType.boolean)) ∈ lw_all := lw_g (lw_at lw_m2 63 rfl) rfl
theorem q312 : (Jvm.Cond.methodLink "RcFourDeskModel" (42 : Nat) ({ cls := "RcFourDeskModel", name := "word", desc := "([III)V" } : Jvm.MethodName)) ∈ lw_all := lw_g (lw_at lw_m2 64 rfl) rfl
theorem q313 : (Jvm.Cond.static ({ cls := "RcFourDeskModel", name := "word", desc := "([III)V" } : Jvm.MethodName)) ∈ lw_all := lw_g (lw_at lw_m2 65 rfl) rfl
theorem q314 : (Jvm.Cond.code ({ cls := "RcFourDeskModel", name := "word", desc := "([III)V" } : Jvm.MethodName) prog_8_method_5_code (4 : Nat) (Option.none : Option Jvm.ClassFile.FieldType)) ∈ lw_all := lw_g (lw_at lw_m2 66 rfl) rfl
theorem q316 : (Jvm.Cond.instanceMethod ({ cls := "RcFourDeskModel", name := "trim", desc := "(I)V" } : Jvm.MethodName)) ∈ lw_all := lw_g (lw_at lw_m2 68 rfl) rfl
theorem q317 : (Jvm.Cond.selects "RcFourDeskModel" ({ cls := "RcFourDeskModel", name := "trim", desc := "(I)V" } : Jvm.MethodName) ({ cls := "RcFourDeskModel", name := "trim", desc := "(I)V" } : Jvm.MethodName)) ∈ lw_all := lw_g (lw_at lw_m2 69 rfl) rfl
theorem q318 : (Jvm.Cond.code ({ cls := "RcFourDeskModel", name := "trim", desc := "(I)V" } : Jvm.MethodName) prog_8_method_8_code (2 : Nat) (Option.none : Option Jvm.ClassFile.FieldType)) ∈ lw_all := lw_g (lw_at lw_m2 70 rfl) rfl
theorem q319 : (Jvm.Cond.methodLink "RcFourDeskModel" (47 : Nat) ({ cls := "RcFourDeskModel", name := "from", desc := "(I)I" } : Jvm.MethodName)) ∈ lw_all := lw_g (lw_at lw_m2 71 rfl) rfl
theorem q320 : (Jvm.Cond.privateMethod ({ cls := "RcFourDeskModel", name := "from", desc := "(I)I" } : Jvm.MethodName)) ∈ lw_tbl := lw_at lw_m2 72 rfl
theorem q321 : (Jvm.Cond.instanceMethod ({ cls := "RcFourDeskModel", name := "from", desc := "(I)I" } : Jvm.MethodName)) ∈ lw_all := lw_g (lw_at lw_m2 73 rfl) rfl
theorem q322 : (Jvm.Cond.code ({ cls := "RcFourDeskModel", name := "from", desc := "(I)I" } : Jvm.MethodName) prog_8_method_7_code (2 : Nat) (Option.some Jvm.ClassFile.FieldType.int)) ∈ lw_all := lw_g (lw_at lw_m2 74 rfl) rfl
theorem q323 : (Jvm.Cond.constant "RcFourDeskModel" (46 : Nat) (2147483647 : Int32)) ∈ lw_all := lw_g (lw_at lw_m2 75 rfl) rfl
theorem q325 : (Jvm.Cond.instanceMethod ({ cls := "RcFourDeskModel", name := "key", desc := "(IIIII)V" } : Jvm.MethodName)) ∈ lw_all := lw_g (lw_at lw_m2 77 rfl) rfl
theorem q326 : (Jvm.Cond.selects "RcFourDeskModel" ({ cls := "RcFourDeskModel", name := "key", desc := "(IIIII)V" } : Jvm.MethodName) ({ cls := "RcFourDeskModel", name := "key", desc := "(IIIII)V" } : Jvm.MethodName)) ∈ lw_all := lw_g (lw_at lw_m2 78 rfl) rfl
theorem q327 : (Jvm.Cond.code ({ cls := "RcFourDeskModel", name := "key", desc := "(IIIII)V" } : Jvm.MethodName) prog_8_method_9_code (7 : Nat) (Option.none : Option Jvm.ClassFile.FieldType)) ∈ lw_all := lw_g (lw_at lw_m2 79 rfl) rfl
theorem q329 : (Jvm.Cond.instanceMethod ({ cls := "RcFourDeskModel", name := "nonce", desc := "(IIII)V" } : Jvm.MethodName)) ∈ lw_all := lw_g (lw_at lw_m2 81 rfl) rfl
theorem q330 : (Jvm.Cond.selects "RcFourDeskModel" ({ cls := "RcFourDeskModel", name := "nonce", desc := "(IIII)V" } : Jvm.MethodName) ({ cls := "RcFourDeskModel", name := "nonce", desc := "(IIII)V" } : Jvm.MethodName)) ∈ lw_all := lw_g (lw_at lw_m2 82 rfl) rfl
theorem q331 : (Jvm.Cond.code ({ cls := "RcFourDeskModel", name := "nonce", desc := "(IIII)V" } : Jvm.MethodName) prog_8_method_10_code (5 : Nat) (Option.none : Option Jvm.ClassFile.FieldType)) ∈ lw_all := lw_g (lw_at lw_m2 83 rfl) rfl
theorem q333 : (Jvm.Cond.instanceMethod ({ cls := "RcFourDeskModel", name := "begin", desc := "(I)V" } : Jvm.MethodName)) ∈ lw_all := lw_g (lw_at lw_m2 85 rfl) rfl
theorem q334 : (Jvm.Cond.selects "RcFourDeskModel" ({ cls := "RcFourDeskModel", name := "begin", desc := "(I)V" } : Jvm.MethodName) ({ cls := "RcFourDeskModel", name := "begin", desc := "(I)V" } : Jvm.MethodName)) ∈ lw_all := lw_g (lw_at lw_m2 86 rfl) rfl
theorem q335 : (Jvm.Cond.code ({ cls := "RcFourDeskModel", name := "begin", desc := "(I)V" } : Jvm.MethodName) prog_8_method_11_code (3 : Nat) (Option.none : Option Jvm.ClassFile.FieldType)) ∈ lw_all := lw_g (lw_at lw_m2 87 rfl) rfl
theorem q336 : (Jvm.Cond.methodLink "RcFourDeskModel" (51 : Nat) ({ cls := "RcFourDeskModel", name := "lays", desc := "()V" } : Jvm.MethodName)) ∈ lw_all := lw_g (lw_at lw_m2 88 rfl) rfl
theorem q337 : (Jvm.Cond.privateMethod ({ cls := "RcFourDeskModel", name := "lays", desc := "()V" } : Jvm.MethodName)) ∈ lw_tbl := lw_at lw_m2 89 rfl
theorem q338 : (Jvm.Cond.instanceMethod ({ cls := "RcFourDeskModel", name := "lays", desc := "()V" } : Jvm.MethodName)) ∈ lw_all := lw_g (lw_at lw_m2 90 rfl) rfl
theorem q339 : (Jvm.Cond.code ({ cls := "RcFourDeskModel", name := "lays", desc := "()V" } : Jvm.MethodName) prog_8_method_3_code (3 : Nat) (Option.none : Option Jvm.ClassFile.FieldType)) ∈ lw_all := lw_g (lw_at lw_m2 91 rfl) rfl
theorem q340 : (Jvm.Cond.methodLink "RcFourDeskModel" (25 : Nat) ({ cls := "RcFourDeskModel", name := "swaps", desc := "(II)V" } : Jvm.MethodName)) ∈ lw_all := lw_g (lw_at lw_m2 92 rfl) rfl
theorem q341 : (Jvm.Cond.privateMethod ({ cls := "RcFourDeskModel", name := "swaps", desc := "(II)V" } : Jvm.MethodName)) ∈ lw_tbl := lw_at lw_m2 93 rfl
theorem q342 : (Jvm.Cond.instanceMethod ({ cls := "RcFourDeskModel", name := "swaps", desc := "(II)V" } : Jvm.MethodName)) ∈ lw_all := lw_g (lw_at lw_m2 94 rfl) rfl
theorem q343 : (Jvm.Cond.code ({ cls := "RcFourDeskModel", name := "swaps", desc := "(II)V" } : Jvm.MethodName) prog_8_method_2_code (4 : Nat) (Option.none : Option Jvm.ClassFile.FieldType)) ∈ lw_all := lw_g (lw_at lw_m2 95 rfl) rfl
theorem q345 : (Jvm.Cond.instanceMethod ({ cls := "RcFourDeskModel", name := "run", desc := "(II)I" } : Jvm.MethodName)) ∈ lw_all := lw_g (lw_at lw_m2 97 rfl) rfl
theorem q346 : (Jvm.Cond.selects "RcFourDeskModel" ({ cls := "RcFourDeskModel", name := "run", desc := "(II)I" } : Jvm.MethodName) ({ cls := "RcFourDeskModel", name := "run", desc := "(II)I" } : Jvm.MethodName)) ∈ lw_all := lw_g (lw_at lw_m2 98 rfl) rfl
theorem q347 : (Jvm.Cond.code ({ cls := "RcFourDeskModel", name := "run", desc := "(II)I" } : Jvm.MethodName) prog_8_method_12_code (6 : Nat) (Option.some Jvm.ClassFile.FieldType.int)) ∈ lw_all := lw_g (lw_at lw_m2 99 rfl) rfl
theorem q348 : (Jvm.Cond.methodLink "RcFourDeskModel" (54 : Nat) ({ cls := "RcFourDeskModel", name := "next", desc := "()I" } : Jvm.MethodName)) ∈ lw_all := lw_g (lw_at lw_m2 100 rfl) rfl
theorem q349 : (Jvm.Cond.privateMethod ({ cls := "RcFourDeskModel", name := "next", desc := "()I" } : Jvm.MethodName)) ∈ lw_tbl := lw_at lw_m2 101 rfl
theorem q350 : (Jvm.Cond.instanceMethod ({ cls := "RcFourDeskModel", name := "next", desc := "()I" } : Jvm.MethodName)) ∈ lw_all := lw_g (lw_at lw_m2 102 rfl) rfl
theorem q351 : (Jvm.Cond.code ({ cls := "RcFourDeskModel", name := "next", desc := "()I" } : Jvm.MethodName) prog_8_method_4_code (1 : Nat) (Option.some Jvm.ClassFile.FieldType.int)) ∈ lw_all := lw_g (lw_at lw_m2 103 rfl) rfl
theorem q353 : (Jvm.Cond.instanceMethod ({ cls := "RcFourDeskModel", name := "one", desc := "(I)I" } : Jvm.MethodName)) ∈ lw_all := lw_g (lw_at lw_m2 105 rfl) rfl
theorem q354 : (Jvm.Cond.selects "RcFourDeskModel" ({ cls := "RcFourDeskModel", name := "one", desc := "(I)I" } : Jvm.MethodName) ({ cls := "RcFourDeskModel", name := "one", desc := "(I)I" } : Jvm.MethodName)) ∈ lw_all := lw_g (lw_at lw_m2 106 rfl) rfl
theorem q355 : (Jvm.Cond.code ({ cls := "RcFourDeskModel", name := "one", desc := "(I)I" } : Jvm.MethodName) prog_8_method_13_code (2 : Nat) (Option.some Jvm.ClassFile.FieldType.int)) ∈ lw_all := lw_g (lw_at lw_m2 107 rfl) rfl
theorem q357 : (Jvm.Cond.instanceMethod ({ cls := "RcFourDeskModel", name := "again", desc := "()V" } : Jvm.MethodName)) ∈ lw_all := lw_g (lw_at lw_m2 109 rfl) rfl
theorem q358 : (Jvm.Cond.selects "RcFourDeskModel" ({ cls := "RcFourDeskModel", name := "again", desc := "()V" } : Jvm.MethodName) ({ cls := "RcFourDeskModel", name := "again", desc := "()V" } : Jvm.MethodName)) ∈ lw_all := lw_g (lw_at lw_m2 110 rfl) rfl
theorem q359 : (Jvm.Cond.code ({ cls := "RcFourDeskModel", name := "again", desc := "()V" } : Jvm.MethodName) prog_8_method_14_code (1 : Nat) (Option.none : Option Jvm.ClassFile.FieldType)) ∈ lw_all := lw_g (lw_at lw_m2 111 rfl) rfl
theorem q361 : (Jvm.Cond.instanceMethod ({ cls := "RcFourDeskModel", name := "out", desc := "(I)I" } : Jvm.MethodName)) ∈ lw_all := lw_g (lw_at lw_m2 113 rfl) rfl
theorem q362 : (Jvm.Cond.selects "RcFourDeskModel" ({ cls := "RcFourDeskModel", name := "out", desc := "(I)I" } : Jvm.MethodName) ({ cls := "RcFourDeskModel", name := "out", desc := "(I)I" } : Jvm.MethodName)) ∈ lw_all := lw_g (lw_at lw_m2 114 rfl) rfl
theorem q363 : (Jvm.Cond.code ({ cls := "RcFourDeskModel", name := "out", desc := "(I)I" } : Jvm.MethodName) prog_8_method_15_code (2 : Nat) (Option.some Jvm.ClassFile.FieldType.int)) ∈ lw_all := lw_g (lw_at lw_m2 115 rfl) rfl
theorem in_X2 : ∀ w ∈ wsX20, w ∈ lw_all := lw_in wsX20 [288, 290, 292, 294, 296, 298, 300, 302, 304] (by decide +kernel) (by decide +kernel)
theorem q8 : (Jvm.Cond.initialized "RcFourDeskLaw") ∈ lw_all := lw_g (lw_at lw_m1 0 rfl) rfl
set_option maxRecDepth 100000
theorem q21 : (Jvm.Cond.classLink "RcFourDeskLaw" (7 : Nat) "RcFourDesk") ∈ lw_all := lw_g (lw_at lw_m1 13 rfl) rfl
theorem q23 : (Jvm.Cond.methodLink "RcFourDeskLaw" (9 : Nat) ({ cls := "RcFourDesk", name := "<init>", desc := "()V" } : Jvm.MethodName)) ∈ lw_all := lw_g (lw_at lw_m1 15 rfl) rfl
theorem q77 : (Jvm.Cond.methodLink "RcFourDeskLaw" (13 : Nat) ({ cls := "RcFourDesk", name := "put", desc := "(IIII)Z" } : Jvm.MethodName)) ∈ lw_all := lw_g (lw_at lw_m1 69 rfl) rfl
theorem q84 : (Jvm.Cond.methodLink "RcFourDeskLaw" (18 : Nat) ({ cls := "RcFourDesk", name := "trim", desc := "(I)V" } : Jvm.MethodName)) ∈ lw_all := lw_g (lw_at lw_m1 76 rfl) rfl
theorem q93 : (Jvm.Cond.methodLink "RcFourDeskLaw" (23 : Nat) ({ cls := "RcFourDesk", name := "key", desc := "(IIIII)V" } : Jvm.MethodName)) ∈ lw_all := lw_g (lw_at lw_m1 85 rfl) rfl
theorem q97 : (Jvm.Cond.methodLink "RcFourDeskLaw" (28 : Nat) ({ cls := "RcFourDesk", name := "nonce", desc := "(IIII)V" } : Jvm.MethodName)) ∈ lw_all := lw_g (lw_at lw_m1 89 rfl) rfl
theorem q101 : (Jvm.Cond.methodLink "RcFourDeskLaw" (33 : Nat) ({ cls := "RcFourDesk", name := "begin", desc := "(I)V" } : Jvm.MethodName)) ∈ lw_all := lw_g (lw_at lw_m1 93 rfl) rfl
theorem q204 : (Jvm.Cond.methodLink "RcFourDeskLaw" (37 : Nat) ({ cls := "RcFourDesk", name := "run", desc := "(II)I" } : Jvm.MethodName)) ∈ lw_all := lw_g (lw_at lw_m1 196 rfl) rfl
theorem q253 : (Jvm.Cond.methodLink "RcFourDeskLaw" (42 : Nat) ({ cls := "RcFourDesk", name := "one", desc := "(I)I" } : Jvm.MethodName)) ∈ lw_all := lw_g (lw_at lw_m2 5 rfl) rfl
theorem q261 : (Jvm.Cond.methodLink "RcFourDeskLaw" (47 : Nat) ({ cls := "RcFourDesk", name := "again", desc := "()V" } : Jvm.MethodName)) ∈ lw_all := lw_g (lw_at lw_m2 13 rfl) rfl
theorem q269 : (Jvm.Cond.methodLink "RcFourDeskLaw" (51 : Nat) ({ cls := "RcFourDesk", name := "out", desc := "(I)I" } : Jvm.MethodName)) ∈ lw_all := lw_g (lw_at lw_m2 21 rfl) rfl
theorem q273 : (Jvm.Cond.classLink "RcFourDeskLaw" (10 : Nat) "RcFourDeskModel") ∈ lw_all := lw_g (lw_at lw_m2 25 rfl) rfl
theorem q275 : (Jvm.Cond.methodLink "RcFourDeskLaw" (12 : Nat) ({ cls := "RcFourDeskModel", name := "<init>", desc := "()V" } : Jvm.MethodName)) ∈ lw_all := lw_g (lw_at lw_m2 27 rfl) rfl
theorem q308 : (Jvm.Cond.methodLink "RcFourDeskLaw" (17 : Nat) ({ cls := "RcFourDeskModel", name := "put", desc := "(IIII)Z" } : Jvm.MethodName)) ∈ lw_all := lw_g (lw_at lw_m2 60 rfl) rfl
theorem q315 : (Jvm.Cond.methodLink "RcFourDeskLaw" (22 : Nat) ({ cls := "RcFourDeskModel", name := "trim", desc := "(I)V" } : Jvm.MethodName)) ∈ lw_all := lw_g (lw_at lw_m2 67 rfl) rfl
theorem q324 : (Jvm.Cond.methodLink "RcFourDeskLaw" (27 : Nat) ({ cls := "RcFourDeskModel", name := "key", desc := "(IIIII)V" } : Jvm.MethodName)) ∈ lw_all := lw_g (lw_at lw_m2 76 rfl) rfl
theorem q328 : (Jvm.Cond.methodLink "RcFourDeskLaw" (32 : Nat) ({ cls := "RcFourDeskModel", name := "nonce", desc := "(IIII)V" } : Jvm.MethodName)) ∈ lw_all := lw_g (lw_at lw_m2 80 rfl) rfl
theorem q332 : (Jvm.Cond.methodLink "RcFourDeskLaw" (36 : Nat) ({ cls := "RcFourDeskModel", name := "begin", desc := "(I)V" } : Jvm.MethodName)) ∈ lw_all := lw_g (lw_at lw_m2 84 rfl) rfl
theorem q344 : (Jvm.Cond.methodLink "RcFourDeskLaw" (41 : Nat) ({ cls := "RcFourDeskModel", name := "run", desc := "(II)I" } : Jvm.MethodName)) ∈ lw_all := lw_g (lw_at lw_m2 96 rfl) rfl
theorem q352 : (Jvm.Cond.methodLink "RcFourDeskLaw" (46 : Nat) ({ cls := "RcFourDeskModel", name := "one", desc := "(I)I" } : Jvm.MethodName)) ∈ lw_all := lw_g (lw_at lw_m2 104 rfl) rfl
theorem q356 : (Jvm.Cond.methodLink "RcFourDeskLaw" (50 : Nat) ({ cls := "RcFourDeskModel", name := "again", desc := "()V" } : Jvm.MethodName)) ∈ lw_all := lw_g (lw_at lw_m2 108 rfl) rfl
theorem q360 : (Jvm.Cond.methodLink "RcFourDeskLaw" (54 : Nat) ({ cls := "RcFourDeskModel", name := "out", desc := "(I)I" } : Jvm.MethodName)) ∈ lw_all := lw_g (lw_at lw_m2 112 rfl) rfl
end
section
/-! the law's own entry -/
set_option maxRecDepth 100000
abbrev cL_law : ByteArray := code
def dkwL_law_15 : List UInt8 := [96, 46, 182, 0, 54, 159, 0, 5, 3, 172, 132, 3, 6, 167, 254, 146, 4, 172]
abbrev dktL_law_15 : List UInt8 := dkwL_law_15 ++ []
def dkwL_law_14 : List UInt8 := [43, 182, 0, 47, 44, 182, 0, 50, 167, 0, 26, 43, 42, 29, 4, 96, 46, 182, 0, 51, 44, 42, 29, 4]
abbrev dktL_law_14 : List UInt8 := dkwL_law_14 ++ dktL_law_15
def dkwL_law_13 : List UInt8 := [172, 43, 42, 29, 4, 96, 46, 182, 0, 42, 44, 42, 29, 4, 96, 46, 182, 0, 46, 159, 0, 39, 3, 172]
abbrev dktL_law_13 : List UInt8 := dkwL_law_13 ++ dktL_law_14
def dkwL_law_12 : List UInt8 := [5, 96, 46, 182, 0, 37, 44, 42, 29, 4, 96, 46, 42, 29, 5, 96, 46, 182, 0, 41, 159, 0, 62, 3]
abbrev dktL_law_12 : List UInt8 := dkwL_law_12 ++ dktL_law_13
def dkwL_law_11 : List UInt8 := [46, 182, 0, 33, 44, 42, 29, 4, 96, 46, 182, 0, 36, 167, 0, 93, 43, 42, 29, 4, 96, 46, 42, 29]
abbrev dktL_law_11 : List UInt8 := dkwL_law_11 ++ dktL_law_12
def dkwL_law_10 : List UInt8 := [5, 96, 46, 42, 29, 6, 96, 46, 42, 29, 7, 96, 46, 182, 0, 32, 167, 0, 114, 43, 42, 29, 4, 96]
abbrev dktL_law_10 : List UInt8 := dkwL_law_10 ++ dktL_law_11
def dkwL_law_9 : List UInt8 := [5, 96, 46, 42, 29, 6, 96, 46, 42, 29, 7, 96, 46, 182, 0, 28, 44, 42, 29, 4, 96, 46, 42, 29]
abbrev dktL_law_9 : List UInt8 := dkwL_law_9 ++ dktL_law_10
def dkwL_law_8 : List UInt8 := [42, 29, 7, 96, 46, 42, 29, 8, 96, 46, 182, 0, 27, 167, 0, 165, 43, 42, 29, 4, 96, 46, 42, 29]
abbrev dktL_law_8 : List UInt8 := dkwL_law_8 ++ dktL_law_9
def dkwL_law_7 : List UInt8 := [42, 29, 8, 96, 46, 182, 0, 23, 44, 42, 29, 4, 96, 46, 42, 29, 5, 96, 46, 42, 29, 6, 96, 46]
abbrev dktL_law_7 : List UInt8 := dkwL_law_7 ++ dktL_law_8
def dkwL_law_6 : List UInt8 := [167, 0, 226, 43, 42, 29, 4, 96, 46, 42, 29, 5, 96, 46, 42, 29, 6, 96, 46, 42, 29, 7, 96, 46]
abbrev dktL_law_6 : List UInt8 := dkwL_law_6 ++ dktL_law_7
def dkwL_law_5 : List UInt8 := [159, 0, 249, 3, 172, 43, 42, 29, 4, 96, 46, 182, 0, 18, 44, 42, 29, 4, 96, 46, 182, 0, 22]
abbrev dktL_law_5 : List UInt8 := dkwL_law_5 ++ dktL_law_6
def dkwL_law_4 : List UInt8 := [44, 42, 29, 4, 96, 46, 42, 29, 5, 96, 46, 42, 29, 6, 96, 46, 42, 29, 7, 96, 46, 182, 0, 17]
abbrev dktL_law_4 : List UInt8 := dkwL_law_4 ++ dktL_law_5
def dkwL_law_3 : List UInt8 := [43, 42, 29, 4, 96, 46, 42, 29, 5, 96, 46, 42, 29, 6, 96, 46, 42, 29, 7, 96, 46, 182, 0, 13]
abbrev dktL_law_3 : List UInt8 := dkwL_law_3 ++ dktL_law_4
def dkwL_law_2 : List UInt8 := [170, 0, 0, 0, 0, 1, 92, 0, 0, 0, 0, 0, 0, 0, 8, 0, 0, 0, 51, 0, 0, 0, 104, 0, 0, 0, 125, 0, 0, 0, 186, 0, 0, 0, 237, 0, 0, 1, 2, 0, 0, 1, 35, 0, 0, 1, 58, 0, 0, 1, 69]
abbrev dktL_law_2 : List UInt8 := dkwL_law_2 ++ dktL_law_3
def dkwL_law_1 : List UInt8 := [163, 1, 107, 42, 29, 46, 16, 15, 126]
abbrev dktL_law_1 : List UInt8 := dkwL_law_1 ++ dktL_law_2
def dkwL_law_0 : List UInt8 := [187, 0, 7, 89, 183, 0, 9, 76, 187, 0, 10, 89, 183, 0, 12, 77, 3, 62, 29, 42, 190, 16, 6, 100]
abbrev dktL_law_0 : List UInt8 := dkwL_law_0 ++ dktL_law_1
theorem dksL_law_0 : cL_law.data.toList.drop 0 = dktL_law_0 := by decide +kernel
theorem dksL_law_1 : cL_law.data.toList.drop 24 = dktL_law_1 := dk_seg dksL_law_0 24 rfl rfl
theorem dksL_law_2 : cL_law.data.toList.drop 33 = dktL_law_2 := dk_seg dksL_law_1 9 rfl rfl
theorem dksL_law_3 : cL_law.data.toList.drop 84 = dktL_law_3 := dk_seg dksL_law_2 51 rfl rfl
theorem dksL_law_4 : cL_law.data.toList.drop 108 = dktL_law_4 := dk_seg dksL_law_3 24 rfl rfl
theorem dksL_law_5 : cL_law.data.toList.drop 132 = dktL_law_5 := dk_seg dksL_law_4 24 rfl rfl
theorem dksL_law_6 : cL_law.data.toList.drop 155 = dktL_law_6 := dk_seg dksL_law_5 23 rfl rfl
theorem dksL_law_7 : cL_law.data.toList.drop 179 = dktL_law_7 := dk_seg dksL_law_6 24 rfl rfl
theorem dksL_law_8 : cL_law.data.toList.drop 203 = dktL_law_8 := dk_seg dksL_law_7 24 rfl rfl
theorem dksL_law_9 : cL_law.data.toList.drop 227 = dktL_law_9 := dk_seg dksL_law_8 24 rfl rfl
theorem dksL_law_10 : cL_law.data.toList.drop 251 = dktL_law_10 := dk_seg dksL_law_9 24 rfl rfl
theorem dksL_law_11 : cL_law.data.toList.drop 275 = dktL_law_11 := dk_seg dksL_law_10 24 rfl rfl
theorem dksL_law_12 : cL_law.data.toList.drop 299 = dktL_law_12 := dk_seg dksL_law_11 24 rfl rfl
theorem dksL_law_13 : cL_law.data.toList.drop 323 = dktL_law_13 := dk_seg dksL_law_12 24 rfl rfl
theorem dksL_law_14 : cL_law.data.toList.drop 347 = dktL_law_14 := dk_seg dksL_law_13 24 rfl rfl
theorem dksL_law_15 : cL_law.data.toList.drop 371 = dktL_law_15 := dk_seg dksL_law_14 24 rfl rfl
theorem dL_law_0 : decode cL_law 0 = .ok (.new 7, 3) := dk_187 0 7 (dk_at dksL_law_0 0 rfl rfl)
theorem dL_law_3 : decode cL_law 3 = .ok (.dup, 1) := dk_89 (dk_at dksL_law_0 3 rfl rfl)
theorem dL_law_4 : decode cL_law 4 = .ok (.invokespecial 9, 3) := dk_183 0 9 (dk_at dksL_law_0 4 rfl rfl)
theorem dL_law_7 : decode cL_law 7 = .ok (.astore_n 1, 1) := dk_76 (dk_at dksL_law_0 7 rfl rfl)
theorem dL_law_8 : decode cL_law 8 = .ok (.new 10, 3) := dk_187 0 10 (dk_at dksL_law_0 8 rfl rfl)
theorem dL_law_11 : decode cL_law 11 = .ok (.dup, 1) := dk_89 (dk_at dksL_law_0 11 rfl rfl)
theorem dL_law_12 : decode cL_law 12 = .ok (.invokespecial 12, 3) := dk_183 0 12 (dk_at dksL_law_0 12 rfl rfl)
theorem dL_law_15 : decode cL_law 15 = .ok (.astore_n 2, 1) := dk_77 (dk_at dksL_law_0 15 rfl rfl)
theorem dL_law_16 : decode cL_law 16 = .ok (.iconst 0, 1) := dk_3 (dk_at dksL_law_0 16 rfl rfl)
theorem dL_law_17 : decode cL_law 17 = .ok (.istore_n 3, 1) := dk_62 (dk_at dksL_law_0 17 rfl rfl)
theorem dL_law_18 : decode cL_law 18 = .ok (.iload_n 3, 1) := dk_29 (dk_at dksL_law_0 18 rfl rfl)
theorem dL_law_19 : decode cL_law 19 = .ok (.aload_n 0, 1) := dk_42 (dk_at dksL_law_0 19 rfl rfl)
theorem dL_law_20 : decode cL_law 20 = .ok (.arraylength, 1) := dk_190 (dk_at dksL_law_0 20 rfl rfl)
theorem dL_law_21 : decode cL_law 21 = .ok (.bipush 6, 2) := dk_16 6 (dk_at dksL_law_0 21 rfl rfl)
theorem dL_law_23 : decode cL_law 23 = .ok (.isub, 1) := dk_100 (dk_at dksL_law_0 23 rfl rfl)
theorem dL_law_24 : decode cL_law 24 = .ok (.if_icmp .gt 363, 3) := dk_163 1 107 (dk_at dksL_law_1 0 rfl rfl)
theorem dL_law_27 : decode cL_law 27 = .ok (.aload_n 0, 1) := dk_42 (dk_at dksL_law_1 3 rfl rfl)
theorem dL_law_28 : decode cL_law 28 = .ok (.iload_n 3, 1) := dk_29 (dk_at dksL_law_1 4 rfl rfl)
theorem dL_law_29 : decode cL_law 29 = .ok (.iaload, 1) := dk_46 (dk_at dksL_law_1 5 rfl rfl)
theorem dL_law_30 : decode cL_law 30 = .ok (.bipush 15, 2) := dk_16 15 (dk_at dksL_law_1 6 rfl rfl)
theorem dL_law_32 : decode cL_law 32 = .ok (.iand, 1) := dk_126 (dk_at dksL_law_1 8 rfl rfl)
theorem dL_law_33 : decode cL_law 33 = .ok (.tableswitch 348 0 8 #[51, 104, 125, 186, 237, 258, 291, 314, 325], 51) := by decide +kernel
theorem dL_law_84 : decode cL_law 84 = .ok (.aload_n 1, 1) := dk_43 (dk_at dksL_law_3 0 rfl rfl)
theorem dL_law_85 : decode cL_law 85 = .ok (.aload_n 0, 1) := dk_42 (dk_at dksL_law_3 1 rfl rfl)
theorem dL_law_86 : decode cL_law 86 = .ok (.iload_n 3, 1) := dk_29 (dk_at dksL_law_3 2 rfl rfl)
theorem dL_law_87 : decode cL_law 87 = .ok (.iconst 1, 1) := dk_4 (dk_at dksL_law_3 3 rfl rfl)
theorem dL_law_88 : decode cL_law 88 = .ok (.iadd, 1) := dk_96 (dk_at dksL_law_3 4 rfl rfl)
theorem dL_law_89 : decode cL_law 89 = .ok (.iaload, 1) := dk_46 (dk_at dksL_law_3 5 rfl rfl)
theorem dL_law_90 : decode cL_law 90 = .ok (.aload_n 0, 1) := dk_42 (dk_at dksL_law_3 6 rfl rfl)
theorem dL_law_91 : decode cL_law 91 = .ok (.iload_n 3, 1) := dk_29 (dk_at dksL_law_3 7 rfl rfl)
theorem dL_law_92 : decode cL_law 92 = .ok (.iconst 2, 1) := dk_5 (dk_at dksL_law_3 8 rfl rfl)
theorem dL_law_93 : decode cL_law 93 = .ok (.iadd, 1) := dk_96 (dk_at dksL_law_3 9 rfl rfl)
theorem dL_law_94 : decode cL_law 94 = .ok (.iaload, 1) := dk_46 (dk_at dksL_law_3 10 rfl rfl)
theorem dL_law_95 : decode cL_law 95 = .ok (.aload_n 0, 1) := dk_42 (dk_at dksL_law_3 11 rfl rfl)
theorem dL_law_96 : decode cL_law 96 = .ok (.iload_n 3, 1) := dk_29 (dk_at dksL_law_3 12 rfl rfl)
theorem dL_law_97 : decode cL_law 97 = .ok (.iconst 3, 1) := dk_6 (dk_at dksL_law_3 13 rfl rfl)
theorem dL_law_98 : decode cL_law 98 = .ok (.iadd, 1) := dk_96 (dk_at dksL_law_3 14 rfl rfl)
theorem dL_law_99 : decode cL_law 99 = .ok (.iaload, 1) := dk_46 (dk_at dksL_law_3 15 rfl rfl)
theorem dL_law_100 : decode cL_law 100 = .ok (.aload_n 0, 1) := dk_42 (dk_at dksL_law_3 16 rfl rfl)
theorem dL_law_101 : decode cL_law 101 = .ok (.iload_n 3, 1) := dk_29 (dk_at dksL_law_3 17 rfl rfl)
theorem dL_law_102 : decode cL_law 102 = .ok (.iconst 4, 1) := dk_7 (dk_at dksL_law_3 18 rfl rfl)
theorem dL_law_103 : decode cL_law 103 = .ok (.iadd, 1) := dk_96 (dk_at dksL_law_3 19 rfl rfl)
theorem dL_law_104 : decode cL_law 104 = .ok (.iaload, 1) := dk_46 (dk_at dksL_law_3 20 rfl rfl)
theorem dL_law_105 : decode cL_law 105 = .ok (.invokevirtual 13, 3) := dk_182 0 13 (dk_at dksL_law_3 21 rfl rfl)
theorem dL_law_108 : decode cL_law 108 = .ok (.aload_n 2, 1) := dk_44 (dk_at dksL_law_4 0 rfl rfl)
theorem dL_law_109 : decode cL_law 109 = .ok (.aload_n 0, 1) := dk_42 (dk_at dksL_law_4 1 rfl rfl)
theorem dL_law_110 : decode cL_law 110 = .ok (.iload_n 3, 1) := dk_29 (dk_at dksL_law_4 2 rfl rfl)
theorem dL_law_111 : decode cL_law 111 = .ok (.iconst 1, 1) := dk_4 (dk_at dksL_law_4 3 rfl rfl)
theorem dL_law_112 : decode cL_law 112 = .ok (.iadd, 1) := dk_96 (dk_at dksL_law_4 4 rfl rfl)
theorem dL_law_113 : decode cL_law 113 = .ok (.iaload, 1) := dk_46 (dk_at dksL_law_4 5 rfl rfl)
theorem dL_law_114 : decode cL_law 114 = .ok (.aload_n 0, 1) := dk_42 (dk_at dksL_law_4 6 rfl rfl)
theorem dL_law_115 : decode cL_law 115 = .ok (.iload_n 3, 1) := dk_29 (dk_at dksL_law_4 7 rfl rfl)
theorem dL_law_116 : decode cL_law 116 = .ok (.iconst 2, 1) := dk_5 (dk_at dksL_law_4 8 rfl rfl)
theorem dL_law_117 : decode cL_law 117 = .ok (.iadd, 1) := dk_96 (dk_at dksL_law_4 9 rfl rfl)
theorem dL_law_118 : decode cL_law 118 = .ok (.iaload, 1) := dk_46 (dk_at dksL_law_4 10 rfl rfl)
theorem dL_law_119 : decode cL_law 119 = .ok (.aload_n 0, 1) := dk_42 (dk_at dksL_law_4 11 rfl rfl)
theorem dL_law_120 : decode cL_law 120 = .ok (.iload_n 3, 1) := dk_29 (dk_at dksL_law_4 12 rfl rfl)
theorem dL_law_121 : decode cL_law 121 = .ok (.iconst 3, 1) := dk_6 (dk_at dksL_law_4 13 rfl rfl)
theorem dL_law_122 : decode cL_law 122 = .ok (.iadd, 1) := dk_96 (dk_at dksL_law_4 14 rfl rfl)
theorem dL_law_123 : decode cL_law 123 = .ok (.iaload, 1) := dk_46 (dk_at dksL_law_4 15 rfl rfl)
theorem dL_law_124 : decode cL_law 124 = .ok (.aload_n 0, 1) := dk_42 (dk_at dksL_law_4 16 rfl rfl)
theorem dL_law_125 : decode cL_law 125 = .ok (.iload_n 3, 1) := dk_29 (dk_at dksL_law_4 17 rfl rfl)
theorem dL_law_126 : decode cL_law 126 = .ok (.iconst 4, 1) := dk_7 (dk_at dksL_law_4 18 rfl rfl)
theorem dL_law_127 : decode cL_law 127 = .ok (.iadd, 1) := dk_96 (dk_at dksL_law_4 19 rfl rfl)
theorem dL_law_128 : decode cL_law 128 = .ok (.iaload, 1) := dk_46 (dk_at dksL_law_4 20 rfl rfl)
theorem dL_law_129 : decode cL_law 129 = .ok (.invokevirtual 17, 3) := dk_182 0 17 (dk_at dksL_law_4 21 rfl rfl)
theorem dL_law_132 : decode cL_law 132 = .ok (.if_icmp .eq 249, 3) := dk_159 0 249 (dk_at dksL_law_5 0 rfl rfl)
theorem dL_law_135 : decode cL_law 135 = .ok (.iconst 0, 1) := dk_3 (dk_at dksL_law_5 3 rfl rfl)
theorem dL_law_136 : decode cL_law 136 = .ok (.ireturn, 1) := dk_172 (dk_at dksL_law_5 4 rfl rfl)
theorem dL_law_137 : decode cL_law 137 = .ok (.aload_n 1, 1) := dk_43 (dk_at dksL_law_5 5 rfl rfl)
theorem dL_law_138 : decode cL_law 138 = .ok (.aload_n 0, 1) := dk_42 (dk_at dksL_law_5 6 rfl rfl)
theorem dL_law_139 : decode cL_law 139 = .ok (.iload_n 3, 1) := dk_29 (dk_at dksL_law_5 7 rfl rfl)
theorem dL_law_140 : decode cL_law 140 = .ok (.iconst 1, 1) := dk_4 (dk_at dksL_law_5 8 rfl rfl)
theorem dL_law_141 : decode cL_law 141 = .ok (.iadd, 1) := dk_96 (dk_at dksL_law_5 9 rfl rfl)
theorem dL_law_142 : decode cL_law 142 = .ok (.iaload, 1) := dk_46 (dk_at dksL_law_5 10 rfl rfl)
theorem dL_law_143 : decode cL_law 143 = .ok (.invokevirtual 18, 3) := dk_182 0 18 (dk_at dksL_law_5 11 rfl rfl)
theorem dL_law_146 : decode cL_law 146 = .ok (.aload_n 2, 1) := dk_44 (dk_at dksL_law_5 14 rfl rfl)
theorem dL_law_147 : decode cL_law 147 = .ok (.aload_n 0, 1) := dk_42 (dk_at dksL_law_5 15 rfl rfl)
theorem dL_law_148 : decode cL_law 148 = .ok (.iload_n 3, 1) := dk_29 (dk_at dksL_law_5 16 rfl rfl)
theorem dL_law_149 : decode cL_law 149 = .ok (.iconst 1, 1) := dk_4 (dk_at dksL_law_5 17 rfl rfl)
theorem dL_law_150 : decode cL_law 150 = .ok (.iadd, 1) := dk_96 (dk_at dksL_law_5 18 rfl rfl)
theorem dL_law_151 : decode cL_law 151 = .ok (.iaload, 1) := dk_46 (dk_at dksL_law_5 19 rfl rfl)
theorem dL_law_152 : decode cL_law 152 = .ok (.invokevirtual 22, 3) := dk_182 0 22 (dk_at dksL_law_5 20 rfl rfl)
theorem dL_law_155 : decode cL_law 155 = .ok (.goto 226, 3) := dk_167 0 226 (dk_at dksL_law_6 0 rfl rfl)
theorem dL_law_158 : decode cL_law 158 = .ok (.aload_n 1, 1) := dk_43 (dk_at dksL_law_6 3 rfl rfl)
theorem dL_law_159 : decode cL_law 159 = .ok (.aload_n 0, 1) := dk_42 (dk_at dksL_law_6 4 rfl rfl)
theorem dL_law_160 : decode cL_law 160 = .ok (.iload_n 3, 1) := dk_29 (dk_at dksL_law_6 5 rfl rfl)
theorem dL_law_161 : decode cL_law 161 = .ok (.iconst 1, 1) := dk_4 (dk_at dksL_law_6 6 rfl rfl)
theorem dL_law_162 : decode cL_law 162 = .ok (.iadd, 1) := dk_96 (dk_at dksL_law_6 7 rfl rfl)
theorem dL_law_163 : decode cL_law 163 = .ok (.iaload, 1) := dk_46 (dk_at dksL_law_6 8 rfl rfl)
theorem dL_law_164 : decode cL_law 164 = .ok (.aload_n 0, 1) := dk_42 (dk_at dksL_law_6 9 rfl rfl)
theorem dL_law_165 : decode cL_law 165 = .ok (.iload_n 3, 1) := dk_29 (dk_at dksL_law_6 10 rfl rfl)
theorem dL_law_166 : decode cL_law 166 = .ok (.iconst 2, 1) := dk_5 (dk_at dksL_law_6 11 rfl rfl)
theorem dL_law_167 : decode cL_law 167 = .ok (.iadd, 1) := dk_96 (dk_at dksL_law_6 12 rfl rfl)
theorem dL_law_168 : decode cL_law 168 = .ok (.iaload, 1) := dk_46 (dk_at dksL_law_6 13 rfl rfl)
theorem dL_law_169 : decode cL_law 169 = .ok (.aload_n 0, 1) := dk_42 (dk_at dksL_law_6 14 rfl rfl)
theorem dL_law_170 : decode cL_law 170 = .ok (.iload_n 3, 1) := dk_29 (dk_at dksL_law_6 15 rfl rfl)
theorem dL_law_171 : decode cL_law 171 = .ok (.iconst 3, 1) := dk_6 (dk_at dksL_law_6 16 rfl rfl)
theorem dL_law_172 : decode cL_law 172 = .ok (.iadd, 1) := dk_96 (dk_at dksL_law_6 17 rfl rfl)
theorem dL_law_173 : decode cL_law 173 = .ok (.iaload, 1) := dk_46 (dk_at dksL_law_6 18 rfl rfl)
theorem dL_law_174 : decode cL_law 174 = .ok (.aload_n 0, 1) := dk_42 (dk_at dksL_law_6 19 rfl rfl)
theorem dL_law_175 : decode cL_law 175 = .ok (.iload_n 3, 1) := dk_29 (dk_at dksL_law_6 20 rfl rfl)
theorem dL_law_176 : decode cL_law 176 = .ok (.iconst 4, 1) := dk_7 (dk_at dksL_law_6 21 rfl rfl)
theorem dL_law_177 : decode cL_law 177 = .ok (.iadd, 1) := dk_96 (dk_at dksL_law_6 22 rfl rfl)
theorem dL_law_178 : decode cL_law 178 = .ok (.iaload, 1) := dk_46 (dk_at dksL_law_6 23 rfl rfl)
theorem dL_law_179 : decode cL_law 179 = .ok (.aload_n 0, 1) := dk_42 (dk_at dksL_law_7 0 rfl rfl)
theorem dL_law_180 : decode cL_law 180 = .ok (.iload_n 3, 1) := dk_29 (dk_at dksL_law_7 1 rfl rfl)
theorem dL_law_181 : decode cL_law 181 = .ok (.iconst 5, 1) := dk_8 (dk_at dksL_law_7 2 rfl rfl)
theorem dL_law_182 : decode cL_law 182 = .ok (.iadd, 1) := dk_96 (dk_at dksL_law_7 3 rfl rfl)
theorem dL_law_183 : decode cL_law 183 = .ok (.iaload, 1) := dk_46 (dk_at dksL_law_7 4 rfl rfl)
theorem dL_law_184 : decode cL_law 184 = .ok (.invokevirtual 23, 3) := dk_182 0 23 (dk_at dksL_law_7 5 rfl rfl)
theorem dL_law_187 : decode cL_law 187 = .ok (.aload_n 2, 1) := dk_44 (dk_at dksL_law_7 8 rfl rfl)
theorem dL_law_188 : decode cL_law 188 = .ok (.aload_n 0, 1) := dk_42 (dk_at dksL_law_7 9 rfl rfl)
theorem dL_law_189 : decode cL_law 189 = .ok (.iload_n 3, 1) := dk_29 (dk_at dksL_law_7 10 rfl rfl)
theorem dL_law_190 : decode cL_law 190 = .ok (.iconst 1, 1) := dk_4 (dk_at dksL_law_7 11 rfl rfl)
theorem dL_law_191 : decode cL_law 191 = .ok (.iadd, 1) := dk_96 (dk_at dksL_law_7 12 rfl rfl)
theorem dL_law_192 : decode cL_law 192 = .ok (.iaload, 1) := dk_46 (dk_at dksL_law_7 13 rfl rfl)
theorem dL_law_193 : decode cL_law 193 = .ok (.aload_n 0, 1) := dk_42 (dk_at dksL_law_7 14 rfl rfl)
theorem dL_law_194 : decode cL_law 194 = .ok (.iload_n 3, 1) := dk_29 (dk_at dksL_law_7 15 rfl rfl)
theorem dL_law_195 : decode cL_law 195 = .ok (.iconst 2, 1) := dk_5 (dk_at dksL_law_7 16 rfl rfl)
theorem dL_law_196 : decode cL_law 196 = .ok (.iadd, 1) := dk_96 (dk_at dksL_law_7 17 rfl rfl)
theorem dL_law_197 : decode cL_law 197 = .ok (.iaload, 1) := dk_46 (dk_at dksL_law_7 18 rfl rfl)
theorem dL_law_198 : decode cL_law 198 = .ok (.aload_n 0, 1) := dk_42 (dk_at dksL_law_7 19 rfl rfl)
theorem dL_law_199 : decode cL_law 199 = .ok (.iload_n 3, 1) := dk_29 (dk_at dksL_law_7 20 rfl rfl)
theorem dL_law_200 : decode cL_law 200 = .ok (.iconst 3, 1) := dk_6 (dk_at dksL_law_7 21 rfl rfl)
theorem dL_law_201 : decode cL_law 201 = .ok (.iadd, 1) := dk_96 (dk_at dksL_law_7 22 rfl rfl)
theorem dL_law_202 : decode cL_law 202 = .ok (.iaload, 1) := dk_46 (dk_at dksL_law_7 23 rfl rfl)
theorem dL_law_203 : decode cL_law 203 = .ok (.aload_n 0, 1) := dk_42 (dk_at dksL_law_8 0 rfl rfl)
theorem dL_law_204 : decode cL_law 204 = .ok (.iload_n 3, 1) := dk_29 (dk_at dksL_law_8 1 rfl rfl)
theorem dL_law_205 : decode cL_law 205 = .ok (.iconst 4, 1) := dk_7 (dk_at dksL_law_8 2 rfl rfl)
theorem dL_law_206 : decode cL_law 206 = .ok (.iadd, 1) := dk_96 (dk_at dksL_law_8 3 rfl rfl)
theorem dL_law_207 : decode cL_law 207 = .ok (.iaload, 1) := dk_46 (dk_at dksL_law_8 4 rfl rfl)
theorem dL_law_208 : decode cL_law 208 = .ok (.aload_n 0, 1) := dk_42 (dk_at dksL_law_8 5 rfl rfl)
theorem dL_law_209 : decode cL_law 209 = .ok (.iload_n 3, 1) := dk_29 (dk_at dksL_law_8 6 rfl rfl)
theorem dL_law_210 : decode cL_law 210 = .ok (.iconst 5, 1) := dk_8 (dk_at dksL_law_8 7 rfl rfl)
theorem dL_law_211 : decode cL_law 211 = .ok (.iadd, 1) := dk_96 (dk_at dksL_law_8 8 rfl rfl)
theorem dL_law_212 : decode cL_law 212 = .ok (.iaload, 1) := dk_46 (dk_at dksL_law_8 9 rfl rfl)
theorem dL_law_213 : decode cL_law 213 = .ok (.invokevirtual 27, 3) := dk_182 0 27 (dk_at dksL_law_8 10 rfl rfl)
theorem dL_law_216 : decode cL_law 216 = .ok (.goto 165, 3) := dk_167 0 165 (dk_at dksL_law_8 13 rfl rfl)
theorem dL_law_219 : decode cL_law 219 = .ok (.aload_n 1, 1) := dk_43 (dk_at dksL_law_8 16 rfl rfl)
theorem dL_law_220 : decode cL_law 220 = .ok (.aload_n 0, 1) := dk_42 (dk_at dksL_law_8 17 rfl rfl)
theorem dL_law_221 : decode cL_law 221 = .ok (.iload_n 3, 1) := dk_29 (dk_at dksL_law_8 18 rfl rfl)
theorem dL_law_222 : decode cL_law 222 = .ok (.iconst 1, 1) := dk_4 (dk_at dksL_law_8 19 rfl rfl)
theorem dL_law_223 : decode cL_law 223 = .ok (.iadd, 1) := dk_96 (dk_at dksL_law_8 20 rfl rfl)
theorem dL_law_224 : decode cL_law 224 = .ok (.iaload, 1) := dk_46 (dk_at dksL_law_8 21 rfl rfl)
theorem dL_law_225 : decode cL_law 225 = .ok (.aload_n 0, 1) := dk_42 (dk_at dksL_law_8 22 rfl rfl)
theorem dL_law_226 : decode cL_law 226 = .ok (.iload_n 3, 1) := dk_29 (dk_at dksL_law_8 23 rfl rfl)
theorem dL_law_227 : decode cL_law 227 = .ok (.iconst 2, 1) := dk_5 (dk_at dksL_law_9 0 rfl rfl)
theorem dL_law_228 : decode cL_law 228 = .ok (.iadd, 1) := dk_96 (dk_at dksL_law_9 1 rfl rfl)
theorem dL_law_229 : decode cL_law 229 = .ok (.iaload, 1) := dk_46 (dk_at dksL_law_9 2 rfl rfl)
theorem dL_law_230 : decode cL_law 230 = .ok (.aload_n 0, 1) := dk_42 (dk_at dksL_law_9 3 rfl rfl)
theorem dL_law_231 : decode cL_law 231 = .ok (.iload_n 3, 1) := dk_29 (dk_at dksL_law_9 4 rfl rfl)
theorem dL_law_232 : decode cL_law 232 = .ok (.iconst 3, 1) := dk_6 (dk_at dksL_law_9 5 rfl rfl)
theorem dL_law_233 : decode cL_law 233 = .ok (.iadd, 1) := dk_96 (dk_at dksL_law_9 6 rfl rfl)
theorem dL_law_234 : decode cL_law 234 = .ok (.iaload, 1) := dk_46 (dk_at dksL_law_9 7 rfl rfl)
theorem dL_law_235 : decode cL_law 235 = .ok (.aload_n 0, 1) := dk_42 (dk_at dksL_law_9 8 rfl rfl)
theorem dL_law_236 : decode cL_law 236 = .ok (.iload_n 3, 1) := dk_29 (dk_at dksL_law_9 9 rfl rfl)
theorem dL_law_237 : decode cL_law 237 = .ok (.iconst 4, 1) := dk_7 (dk_at dksL_law_9 10 rfl rfl)
theorem dL_law_238 : decode cL_law 238 = .ok (.iadd, 1) := dk_96 (dk_at dksL_law_9 11 rfl rfl)
theorem dL_law_239 : decode cL_law 239 = .ok (.iaload, 1) := dk_46 (dk_at dksL_law_9 12 rfl rfl)
theorem dL_law_240 : decode cL_law 240 = .ok (.invokevirtual 28, 3) := dk_182 0 28 (dk_at dksL_law_9 13 rfl rfl)
theorem dL_law_243 : decode cL_law 243 = .ok (.aload_n 2, 1) := dk_44 (dk_at dksL_law_9 16 rfl rfl)
theorem dL_law_244 : decode cL_law 244 = .ok (.aload_n 0, 1) := dk_42 (dk_at dksL_law_9 17 rfl rfl)
theorem dL_law_245 : decode cL_law 245 = .ok (.iload_n 3, 1) := dk_29 (dk_at dksL_law_9 18 rfl rfl)
theorem dL_law_246 : decode cL_law 246 = .ok (.iconst 1, 1) := dk_4 (dk_at dksL_law_9 19 rfl rfl)
theorem dL_law_247 : decode cL_law 247 = .ok (.iadd, 1) := dk_96 (dk_at dksL_law_9 20 rfl rfl)
theorem dL_law_248 : decode cL_law 248 = .ok (.iaload, 1) := dk_46 (dk_at dksL_law_9 21 rfl rfl)
theorem dL_law_249 : decode cL_law 249 = .ok (.aload_n 0, 1) := dk_42 (dk_at dksL_law_9 22 rfl rfl)
theorem dL_law_250 : decode cL_law 250 = .ok (.iload_n 3, 1) := dk_29 (dk_at dksL_law_9 23 rfl rfl)
theorem dL_law_251 : decode cL_law 251 = .ok (.iconst 2, 1) := dk_5 (dk_at dksL_law_10 0 rfl rfl)
theorem dL_law_252 : decode cL_law 252 = .ok (.iadd, 1) := dk_96 (dk_at dksL_law_10 1 rfl rfl)
theorem dL_law_253 : decode cL_law 253 = .ok (.iaload, 1) := dk_46 (dk_at dksL_law_10 2 rfl rfl)
theorem dL_law_254 : decode cL_law 254 = .ok (.aload_n 0, 1) := dk_42 (dk_at dksL_law_10 3 rfl rfl)
theorem dL_law_255 : decode cL_law 255 = .ok (.iload_n 3, 1) := dk_29 (dk_at dksL_law_10 4 rfl rfl)
theorem dL_law_256 : decode cL_law 256 = .ok (.iconst 3, 1) := dk_6 (dk_at dksL_law_10 5 rfl rfl)
theorem dL_law_257 : decode cL_law 257 = .ok (.iadd, 1) := dk_96 (dk_at dksL_law_10 6 rfl rfl)
theorem dL_law_258 : decode cL_law 258 = .ok (.iaload, 1) := dk_46 (dk_at dksL_law_10 7 rfl rfl)
theorem dL_law_259 : decode cL_law 259 = .ok (.aload_n 0, 1) := dk_42 (dk_at dksL_law_10 8 rfl rfl)
theorem dL_law_260 : decode cL_law 260 = .ok (.iload_n 3, 1) := dk_29 (dk_at dksL_law_10 9 rfl rfl)
theorem dL_law_261 : decode cL_law 261 = .ok (.iconst 4, 1) := dk_7 (dk_at dksL_law_10 10 rfl rfl)
theorem dL_law_262 : decode cL_law 262 = .ok (.iadd, 1) := dk_96 (dk_at dksL_law_10 11 rfl rfl)
theorem dL_law_263 : decode cL_law 263 = .ok (.iaload, 1) := dk_46 (dk_at dksL_law_10 12 rfl rfl)
theorem dL_law_264 : decode cL_law 264 = .ok (.invokevirtual 32, 3) := dk_182 0 32 (dk_at dksL_law_10 13 rfl rfl)
theorem dL_law_267 : decode cL_law 267 = .ok (.goto 114, 3) := dk_167 0 114 (dk_at dksL_law_10 16 rfl rfl)
theorem dL_law_270 : decode cL_law 270 = .ok (.aload_n 1, 1) := dk_43 (dk_at dksL_law_10 19 rfl rfl)
theorem dL_law_271 : decode cL_law 271 = .ok (.aload_n 0, 1) := dk_42 (dk_at dksL_law_10 20 rfl rfl)
theorem dL_law_272 : decode cL_law 272 = .ok (.iload_n 3, 1) := dk_29 (dk_at dksL_law_10 21 rfl rfl)
theorem dL_law_273 : decode cL_law 273 = .ok (.iconst 1, 1) := dk_4 (dk_at dksL_law_10 22 rfl rfl)
theorem dL_law_274 : decode cL_law 274 = .ok (.iadd, 1) := dk_96 (dk_at dksL_law_10 23 rfl rfl)
theorem dL_law_275 : decode cL_law 275 = .ok (.iaload, 1) := dk_46 (dk_at dksL_law_11 0 rfl rfl)
theorem dL_law_276 : decode cL_law 276 = .ok (.invokevirtual 33, 3) := dk_182 0 33 (dk_at dksL_law_11 1 rfl rfl)
theorem dL_law_279 : decode cL_law 279 = .ok (.aload_n 2, 1) := dk_44 (dk_at dksL_law_11 4 rfl rfl)
theorem dL_law_280 : decode cL_law 280 = .ok (.aload_n 0, 1) := dk_42 (dk_at dksL_law_11 5 rfl rfl)
theorem dL_law_281 : decode cL_law 281 = .ok (.iload_n 3, 1) := dk_29 (dk_at dksL_law_11 6 rfl rfl)
theorem dL_law_282 : decode cL_law 282 = .ok (.iconst 1, 1) := dk_4 (dk_at dksL_law_11 7 rfl rfl)
theorem dL_law_283 : decode cL_law 283 = .ok (.iadd, 1) := dk_96 (dk_at dksL_law_11 8 rfl rfl)
theorem dL_law_284 : decode cL_law 284 = .ok (.iaload, 1) := dk_46 (dk_at dksL_law_11 9 rfl rfl)
theorem dL_law_285 : decode cL_law 285 = .ok (.invokevirtual 36, 3) := dk_182 0 36 (dk_at dksL_law_11 10 rfl rfl)
theorem dL_law_288 : decode cL_law 288 = .ok (.goto 93, 3) := dk_167 0 93 (dk_at dksL_law_11 13 rfl rfl)
theorem dL_law_291 : decode cL_law 291 = .ok (.aload_n 1, 1) := dk_43 (dk_at dksL_law_11 16 rfl rfl)
theorem dL_law_292 : decode cL_law 292 = .ok (.aload_n 0, 1) := dk_42 (dk_at dksL_law_11 17 rfl rfl)
theorem dL_law_293 : decode cL_law 293 = .ok (.iload_n 3, 1) := dk_29 (dk_at dksL_law_11 18 rfl rfl)
theorem dL_law_294 : decode cL_law 294 = .ok (.iconst 1, 1) := dk_4 (dk_at dksL_law_11 19 rfl rfl)
theorem dL_law_295 : decode cL_law 295 = .ok (.iadd, 1) := dk_96 (dk_at dksL_law_11 20 rfl rfl)
theorem dL_law_296 : decode cL_law 296 = .ok (.iaload, 1) := dk_46 (dk_at dksL_law_11 21 rfl rfl)
theorem dL_law_297 : decode cL_law 297 = .ok (.aload_n 0, 1) := dk_42 (dk_at dksL_law_11 22 rfl rfl)
theorem dL_law_298 : decode cL_law 298 = .ok (.iload_n 3, 1) := dk_29 (dk_at dksL_law_11 23 rfl rfl)
theorem dL_law_299 : decode cL_law 299 = .ok (.iconst 2, 1) := dk_5 (dk_at dksL_law_12 0 rfl rfl)
theorem dL_law_300 : decode cL_law 300 = .ok (.iadd, 1) := dk_96 (dk_at dksL_law_12 1 rfl rfl)
theorem dL_law_301 : decode cL_law 301 = .ok (.iaload, 1) := dk_46 (dk_at dksL_law_12 2 rfl rfl)
theorem dL_law_302 : decode cL_law 302 = .ok (.invokevirtual 37, 3) := dk_182 0 37 (dk_at dksL_law_12 3 rfl rfl)
theorem dL_law_305 : decode cL_law 305 = .ok (.aload_n 2, 1) := dk_44 (dk_at dksL_law_12 6 rfl rfl)
theorem dL_law_306 : decode cL_law 306 = .ok (.aload_n 0, 1) := dk_42 (dk_at dksL_law_12 7 rfl rfl)
theorem dL_law_307 : decode cL_law 307 = .ok (.iload_n 3, 1) := dk_29 (dk_at dksL_law_12 8 rfl rfl)
theorem dL_law_308 : decode cL_law 308 = .ok (.iconst 1, 1) := dk_4 (dk_at dksL_law_12 9 rfl rfl)
theorem dL_law_309 : decode cL_law 309 = .ok (.iadd, 1) := dk_96 (dk_at dksL_law_12 10 rfl rfl)
theorem dL_law_310 : decode cL_law 310 = .ok (.iaload, 1) := dk_46 (dk_at dksL_law_12 11 rfl rfl)
theorem dL_law_311 : decode cL_law 311 = .ok (.aload_n 0, 1) := dk_42 (dk_at dksL_law_12 12 rfl rfl)
theorem dL_law_312 : decode cL_law 312 = .ok (.iload_n 3, 1) := dk_29 (dk_at dksL_law_12 13 rfl rfl)
theorem dL_law_313 : decode cL_law 313 = .ok (.iconst 2, 1) := dk_5 (dk_at dksL_law_12 14 rfl rfl)
theorem dL_law_314 : decode cL_law 314 = .ok (.iadd, 1) := dk_96 (dk_at dksL_law_12 15 rfl rfl)
theorem dL_law_315 : decode cL_law 315 = .ok (.iaload, 1) := dk_46 (dk_at dksL_law_12 16 rfl rfl)
theorem dL_law_316 : decode cL_law 316 = .ok (.invokevirtual 41, 3) := dk_182 0 41 (dk_at dksL_law_12 17 rfl rfl)
theorem dL_law_319 : decode cL_law 319 = .ok (.if_icmp .eq 62, 3) := dk_159 0 62 (dk_at dksL_law_12 20 rfl rfl)
theorem dL_law_322 : decode cL_law 322 = .ok (.iconst 0, 1) := dk_3 (dk_at dksL_law_12 23 rfl rfl)
theorem dL_law_323 : decode cL_law 323 = .ok (.ireturn, 1) := dk_172 (dk_at dksL_law_13 0 rfl rfl)
theorem dL_law_324 : decode cL_law 324 = .ok (.aload_n 1, 1) := dk_43 (dk_at dksL_law_13 1 rfl rfl)
theorem dL_law_325 : decode cL_law 325 = .ok (.aload_n 0, 1) := dk_42 (dk_at dksL_law_13 2 rfl rfl)
theorem dL_law_326 : decode cL_law 326 = .ok (.iload_n 3, 1) := dk_29 (dk_at dksL_law_13 3 rfl rfl)
theorem dL_law_327 : decode cL_law 327 = .ok (.iconst 1, 1) := dk_4 (dk_at dksL_law_13 4 rfl rfl)
theorem dL_law_328 : decode cL_law 328 = .ok (.iadd, 1) := dk_96 (dk_at dksL_law_13 5 rfl rfl)
theorem dL_law_329 : decode cL_law 329 = .ok (.iaload, 1) := dk_46 (dk_at dksL_law_13 6 rfl rfl)
theorem dL_law_330 : decode cL_law 330 = .ok (.invokevirtual 42, 3) := dk_182 0 42 (dk_at dksL_law_13 7 rfl rfl)
theorem dL_law_333 : decode cL_law 333 = .ok (.aload_n 2, 1) := dk_44 (dk_at dksL_law_13 10 rfl rfl)
theorem dL_law_334 : decode cL_law 334 = .ok (.aload_n 0, 1) := dk_42 (dk_at dksL_law_13 11 rfl rfl)
theorem dL_law_335 : decode cL_law 335 = .ok (.iload_n 3, 1) := dk_29 (dk_at dksL_law_13 12 rfl rfl)
theorem dL_law_336 : decode cL_law 336 = .ok (.iconst 1, 1) := dk_4 (dk_at dksL_law_13 13 rfl rfl)
theorem dL_law_337 : decode cL_law 337 = .ok (.iadd, 1) := dk_96 (dk_at dksL_law_13 14 rfl rfl)
theorem dL_law_338 : decode cL_law 338 = .ok (.iaload, 1) := dk_46 (dk_at dksL_law_13 15 rfl rfl)
theorem dL_law_339 : decode cL_law 339 = .ok (.invokevirtual 46, 3) := dk_182 0 46 (dk_at dksL_law_13 16 rfl rfl)
theorem dL_law_342 : decode cL_law 342 = .ok (.if_icmp .eq 39, 3) := dk_159 0 39 (dk_at dksL_law_13 19 rfl rfl)
theorem dL_law_345 : decode cL_law 345 = .ok (.iconst 0, 1) := dk_3 (dk_at dksL_law_13 22 rfl rfl)
theorem dL_law_346 : decode cL_law 346 = .ok (.ireturn, 1) := dk_172 (dk_at dksL_law_13 23 rfl rfl)
theorem dL_law_347 : decode cL_law 347 = .ok (.aload_n 1, 1) := dk_43 (dk_at dksL_law_14 0 rfl rfl)
theorem dL_law_348 : decode cL_law 348 = .ok (.invokevirtual 47, 3) := dk_182 0 47 (dk_at dksL_law_14 1 rfl rfl)
theorem dL_law_351 : decode cL_law 351 = .ok (.aload_n 2, 1) := dk_44 (dk_at dksL_law_14 4 rfl rfl)
theorem dL_law_352 : decode cL_law 352 = .ok (.invokevirtual 50, 3) := dk_182 0 50 (dk_at dksL_law_14 5 rfl rfl)
theorem dL_law_355 : decode cL_law 355 = .ok (.goto 26, 3) := dk_167 0 26 (dk_at dksL_law_14 8 rfl rfl)
theorem dL_law_358 : decode cL_law 358 = .ok (.aload_n 1, 1) := dk_43 (dk_at dksL_law_14 11 rfl rfl)
theorem dL_law_359 : decode cL_law 359 = .ok (.aload_n 0, 1) := dk_42 (dk_at dksL_law_14 12 rfl rfl)
theorem dL_law_360 : decode cL_law 360 = .ok (.iload_n 3, 1) := dk_29 (dk_at dksL_law_14 13 rfl rfl)
theorem dL_law_361 : decode cL_law 361 = .ok (.iconst 1, 1) := dk_4 (dk_at dksL_law_14 14 rfl rfl)
theorem dL_law_362 : decode cL_law 362 = .ok (.iadd, 1) := dk_96 (dk_at dksL_law_14 15 rfl rfl)
theorem dL_law_363 : decode cL_law 363 = .ok (.iaload, 1) := dk_46 (dk_at dksL_law_14 16 rfl rfl)
theorem dL_law_364 : decode cL_law 364 = .ok (.invokevirtual 51, 3) := dk_182 0 51 (dk_at dksL_law_14 17 rfl rfl)
theorem dL_law_367 : decode cL_law 367 = .ok (.aload_n 2, 1) := dk_44 (dk_at dksL_law_14 20 rfl rfl)
theorem dL_law_368 : decode cL_law 368 = .ok (.aload_n 0, 1) := dk_42 (dk_at dksL_law_14 21 rfl rfl)
theorem dL_law_369 : decode cL_law 369 = .ok (.iload_n 3, 1) := dk_29 (dk_at dksL_law_14 22 rfl rfl)
theorem dL_law_370 : decode cL_law 370 = .ok (.iconst 1, 1) := dk_4 (dk_at dksL_law_14 23 rfl rfl)
theorem dL_law_371 : decode cL_law 371 = .ok (.iadd, 1) := dk_96 (dk_at dksL_law_15 0 rfl rfl)
theorem dL_law_372 : decode cL_law 372 = .ok (.iaload, 1) := dk_46 (dk_at dksL_law_15 1 rfl rfl)
theorem dL_law_373 : decode cL_law 373 = .ok (.invokevirtual 54, 3) := dk_182 0 54 (dk_at dksL_law_15 2 rfl rfl)
theorem dL_law_376 : decode cL_law 376 = .ok (.if_icmp .eq 5, 3) := dk_159 0 5 (dk_at dksL_law_15 5 rfl rfl)
theorem dL_law_379 : decode cL_law 379 = .ok (.iconst 0, 1) := dk_3 (dk_at dksL_law_15 8 rfl rfl)
theorem dL_law_380 : decode cL_law 380 = .ok (.ireturn, 1) := dk_172 (dk_at dksL_law_15 9 rfl rfl)
theorem dL_law_381 : decode cL_law 381 = .ok (.iinc 3 6, 3) := dk_132 3 6 (dk_at dksL_law_15 10 rfl rfl)
theorem dL_law_384 : decode cL_law 384 = .ok (.goto (-366), 3) := dk_167 254 146 (dk_at dksL_law_15 13 rfl rfl)
theorem dL_law_387 : decode cL_law 387 = .ok (.iconst 1, 1) := dk_4 (dk_at dksL_law_15 16 rfl rfl)
theorem dL_law_388 : decode cL_law 388 = .ok (.ireturn, 1) := dk_172 (dk_at dksL_law_15 17 rfl rfl)
end
section
/-! BYTES, AND WHAT BOTH SIDES COMPUTE: no program in sight -/
abbrev By : Type := BitVec 8
/-- a byte, zero-extended (the reference's ints) -/
def rc_z (b : By) : Int32 := nI b.toNat
/-- a byte, sign-extended (the class's bytes) -/
def rc_s (b : By) : Int32 := Int32.ofBitVec (b.signExtend 32)
/-- the low byte -/
def rc_lo (x : Int32) : By := x.toBitVec.setWidth 8
theorem rc_lo_s : ∀ b : By, rc_lo (rc_s b) = b := by decide +kernel
theorem rc_lo_1 : rc_lo 1 = 1 := by decide +kernel
theorem rc_s_0 : rc_s 0 = 0 := by decide +kernel
theorem rc_z_0 : rc_z 0 = 0 := by decide +kernel
theorem rc_z_lt (b : By) : b.toNat < 256 := b.isLt
theorem rc_and (x : Int32) : x &&& 255 = rc_z (rc_lo x) := by
  rw [pk_and x (m := 255) 8 (by decide +kernel)]
  show nI (x.toBitVec.toNat % 2 ^ 8) = nI (x.toBitVec.setWidth 8).toNat
  rw [BitVec.toNat_setWidth]
theorem rc_i2b (x : Int32) : x.toInt8.toInt32 = rc_s (rc_lo x) := by
  apply Int32.toBitVec_inj.mp
  show (x.toBitVec.signExtend 8).signExtend 32 = (x.toBitVec.setWidth 8).signExtend 32
  rw [BitVec.signExtend_eq_setWidth_of_le x.toBitVec (by decide)]
theorem rc_lo_add (x y : Int32) : rc_lo (x + y) = rc_lo x + rc_lo y := by
  show (x + y).toBitVec.setWidth 8 = x.toBitVec.setWidth 8 + y.toBitVec.setWidth 8
  rw [Int32.toBitVec_add]
  exact BitVec.setWidth_add _ _ (by decide)
theorem rc_lo_xor (x y : Int32) : rc_lo (x ^^^ y) = rc_lo x ^^^ rc_lo y := by
  show (x ^^^ y).toBitVec.setWidth 8 = x.toBitVec.setWidth 8 ^^^ y.toBitVec.setWidth 8
  rw [Int32.toBitVec_xor]
  exact BitVec.setWidth_xor
theorem rc_lo_nI (n : Nat) : rc_lo (nI n) = BitVec.ofNat 8 n := by
  show (BitVec.ofNat 32 n).setWidth 8 = _
  exact BitVec.setWidth_ofNat_of_le (by decide) n
theorem rc_of_tn (b : By) : BitVec.ofNat 8 b.toNat = b := by
  apply BitVec.eq_of_toNat_eq
  rw [BitVec.toNat_ofNat]
  exact Nat.mod_eq_of_lt b.isLt
theorem rc_lo_z (b : By) : rc_lo (rc_z b) = b := by
  rw [show rc_z b = nI b.toNat from rfl, rc_lo_nI, rc_of_tn]
theorem rc_s_and (b : By) : rc_s b &&& 255 = rc_z b := by rw [rc_and, rc_lo_s]
theorem rc_z_tn (a : By) : (rc_z a).toBitVec.toNat = a.toNat := pk_tn (Nat.lt_of_lt_of_le a.isLt (Nat.le_of_ble_eq_true rfl))
theorem rc_z_xor (a b : By) : rc_z a ^^^ rc_z b = rc_z (a ^^^ b) := by
  apply Int32.toBitVec_inj.mp
  apply BitVec.eq_of_toNat_eq
  rw [Int32.toBitVec_xor, BitVec.toNat_xor, rc_z_tn, rc_z_tn, rc_z_tn, BitVec.toNat_xor]
theorem rc_rem {n : Nat} (h : n < 2 ^ 31) : nI n - nI n / 256 * 256 = rc_z (BitVec.ofNat 8 n) := by
  have h1 : nI n - nI n / nI 256 * nI 256 = nI (n % 256) := pk_rem h (by decide) (Nat.lt_of_lt_of_le (by decide : 256 < 257) (Nat.le_of_ble_eq_true rfl))
  have h2 : nI (n % 256) = rc_z (BitVec.ofNat 8 n) := by
    show nI (n % 2 ^ 8) = nI (BitVec.ofNat 8 n).toNat
    rw [BitVec.toNat_ofNat]
  exact h1.trans h2
theorem rc_of_add (a b : By) : BitVec.ofNat 8 (a.toNat + b.toNat) = a + b := by
  apply BitVec.eq_of_toNat_eq
  rw [BitVec.toNat_ofNat, BitVec.toNat_add]
theorem rc_of_add3 (a b c : By) : BitVec.ofNat 8 (a.toNat + b.toNat + c.toNat) = a + b + c := by
  apply BitVec.eq_of_toNat_eq
  rw [BitVec.toNat_ofNat, BitVec.toNat_add, BitVec.toNat_add, Nat.mod_add_mod]
theorem rc_of_add1 (a : By) : BitVec.ofNat 8 (a.toNat + 1) = a + 1 := by
  apply BitVec.eq_of_toNat_eq
  rw [BitVec.toNat_ofNat, BitVec.toNat_add]
  rfl
/-- (x + 1) & 255 -/
theorem rc_inc_and (b : By) : rc_z b + 1 &&& 255 = rc_z (b + 1) := by
  rw [rc_and, rc_lo_add, rc_lo_z, rc_lo_1]
/-- (i + 1) % 256 -/
theorem rc_inc_rem (b : By) : (rc_z b + 1) - (rc_z b + 1) / 256 * 256 = rc_z (b + 1) := by
  have e : rc_z b + 1 = nI (b.toNat + 1) := nI_1 _
  rw [e, rc_rem (Nat.lt_of_lt_of_le (Nat.succ_lt_succ b.isLt) (Nat.le_of_ble_eq_true rfl)), rc_of_add1]
/-- (S[x] + y) & 255 -/
theorem rc_sz_and (a b : By) : rc_s a + rc_z b &&& 255 = rc_z (b + a) := by
  rw [rc_and, rc_lo_add, rc_lo_s, rc_lo_z, BitVec.add_comm a b]
theorem rc_ss_and (a b : By) : rc_s a + rc_s b &&& 255 = rc_z (a + b) := by
  rw [rc_and, rc_lo_add, rc_lo_s, rc_lo_s]
theorem rc_ksz_and (k a b : By) : rc_z k + rc_s a + rc_z b &&& 255 = rc_z (b + a + k) := by
  rw [rc_and, rc_lo_add, rc_lo_add, rc_lo_z, rc_lo_s, rc_lo_z, show k + a + b = b + a + k by rw [BitVec.add_comm (k + a) b, BitVec.add_comm k a, BitVec.add_assoc]]
theorem rc_zz_rem (a b : By) : (rc_z a + rc_z b) - (rc_z a + rc_z b) / 256 * 256 = rc_z (a + b) := by
  have e : rc_z a + rc_z b = nI (a.toNat + b.toNat) := nI_add _ _
  rw [e, rc_rem (Nat.lt_of_lt_of_le (Nat.add_lt_add a.isLt b.isLt) (Nat.le_of_ble_eq_true rfl)), rc_of_add]
theorem rc_zzz_rem (a b c : By) : (rc_z a + rc_z b + rc_z c) - (rc_z a + rc_z b + rc_z c) / 256 * 256 = rc_z (a + b + c) := by
  have e : rc_z a + rc_z b + rc_z c = nI (a.toNat + b.toNat + c.toNat) := by
    rw [← nI_add, ← nI_add]
    rfl
  rw [e, rc_rem (Nat.lt_of_lt_of_le (Nat.add_lt_add (Nat.add_lt_add a.isLt b.isLt) c.isLt) (Nat.le_of_ble_eq_true rfl)), rc_of_add3]
theorem rc_xor_b (a b : By) : (rc_s a ^^^ rc_s b).toInt8.toInt32 = rc_s (a ^^^ b) := by
  rw [rc_i2b, rc_lo_xor, rc_lo_s, rc_lo_s]
theorem rc_and_z (x : Int32) (b : By) : (x &&& 255) ^^^ rc_z b = rc_z (rc_lo x ^^^ b) := by rw [rc_and, rc_z_xor]
/-- an int without its sign -/
def rc_ps (x : Int32) : Nat := x.toBitVec.toNat % 2 ^ 31
theorem rc_ps_and (x : Int32) : x &&& 2147483647 = nI (rc_ps x) := pk_and x 31 (by decide +kernel)
theorem rc_ps_lt (x : Int32) : rc_ps x < 2 ^ 31 := Nat.mod_lt _ (Nat.two_pow_pos 31)
theorem rc_ps_rem (x : Int32) {d : Nat} (h0 : 0 < d) (hd : d ≤ 1000) : nI (rc_ps x) - nI (rc_ps x) / nI d * nI d = nI (rc_ps x % d) := pk_rem (rc_ps_lt x) h0 (Nat.lt_of_le_of_lt hd (Nat.le_of_ble_eq_true rfl))
theorem rc_and1 (x : Int32) : x &&& 1 = nI (x.toBitVec.toNat % 2) := pk_and x 1 (by decide +kernel)
theorem rc_and31 (x : Int32) : x &&& 31 = nI (x.toBitVec.toNat % 32) := pk_and x 5 (by decide +kernel)
theorem rc_and15 (x : Int32) : x &&& 15 = nI (x.toBitVec.toNat % 16) := pk_and x 4 (by decide +kernel)
theorem rc_big {n : Nat} (h : n ≤ 100000) : n < 2 ^ 31 := Nat.lt_of_le_of_lt h (Nat.le_of_ble_eq_true rfl)
theorem rc_nle {a b : Nat} (ha : a ≤ 100000) (hb : b ≤ 100000) : nI a ≤ nI b ↔ a ≤ b := nI_leI (rc_big ha) (rc_big hb)
theorem rc_nlt {a b : Nat} (ha : a ≤ 100000) (hb : b ≤ 100000) : nI a < nI b ↔ a < b := nI_ltI (rc_big ha) (rc_big hb)
theorem rc_neq {a b : Nat} (ha : a ≤ 100000) (hb : b ≤ 100000) : nI a = nI b ↔ a = b := nI_eq (rc_big ha) (rc_big hb)
/-! byte arrays -/
def rc_up (S : Nat → By) (k : Nat) (b : By) : Nat → By := fun j => if j = k then b else S j
def rc_bs (S : Nat → By) : Nat → Int32 := fun j => rc_s (S j)
def rc_bz (S : Nat → By) : Nat → Int32 := fun j => rc_z (S j)
theorem rc_bs_up (S : Nat → By) (k : Nat) (b : By) : upd (rc_bs S) k (rc_s b) = rc_bs (rc_up S k b) := by
  funext j
  show (if j = k then rc_s b else rc_s (S j)) = rc_s (if j = k then b else S j)
  split <;> rfl
theorem rc_bz_up (S : Nat → By) (k : Nat) (b : By) : upd (rc_bz S) k (rc_z b) = rc_bz (rc_up S k b) := by
  funext j
  show (if j = k then rc_z b else rc_z (S j)) = rc_z (if j = k then b else S j)
  split <;> rfl
theorem rc_up_eq (S : Nat → By) (k : Nat) (b : By) : rc_up S k b k = b := if_pos rfl
theorem rc_up_ne (S : Nat → By) {k j : Nat} (b : By) (h : j ≠ k) : rc_up S k b j = S j := if_neg h
/-! RC4 -/
def rc_sw (S : Nat → By) (a b : Nat) : Nat → By := rc_up (rc_up S a (S b)) b (S a)
/-- the key schedule, k rounds done -/
def rc_ks (U : Nat → By) (n : Nat) : Nat → (Nat → By) × By
  | 0 => (fun j => BitVec.ofNat 8 j, 0)
  | k + 1 => (rc_sw (rc_ks U n k).1 k ((rc_ks U n k).2 + (rc_ks U n k).1 k + U (k % n)).toNat, (rc_ks U n k).2 + (rc_ks U n k).1 k + U (k % n))
abbrev rc_St : Type := (Nat → By) × By × By
/-- the stream's state, one byte on -/
def rc_nx (R : rc_St) : rc_St := (rc_sw R.1 (R.2.1 + 1).toNat (R.2.2 + R.1 (R.2.1 + 1).toNat).toNat, R.2.1 + 1, R.2.2 + R.1 (R.2.1 + 1).toNat)
/-- the byte that is given, read off the new state -/
def rc_ko (R : rc_St) : By := R.1 (R.1 R.2.1.toNat + R.1 R.2.2.toNat).toNat
/-- k bytes of T from f on, ciphered into O -/
def rc_rn (T : Nat → By) (f : Nat) (R : rc_St) (O : Nat → By) : Nat → rc_St × (Nat → By)
  | 0 => (R, O)
  | k + 1 => (rc_nx (rc_rn T f R O k).1, rc_up (rc_rn T f R O k).2 k (T (f + k) ^^^ rc_ko (rc_nx (rc_rn T f R O k).1)))
def rc_pw (T : Nat → By) (k : Nat) (w : Int32) : Nat → By := rc_up (rc_up (rc_up (rc_up T k (rc_lo (w >>> 24))) (k + 1) (rc_lo (w >>> 16))) (k + 2) (rc_lo (w >>> 8))) (k + 3) (rc_lo w)
def rc_p4 (T : Nat → By) (k : Nat) (a b c d : Int32) : Nat → By := rc_pw (rc_pw (rc_pw (rc_pw T k a) (k + 4) b) (k + 8) c) (k + 12) d
def rc_cp (K : Nat → By) (n : Nat) : Nat → By := fun j => if j < n then K j else 0
theorem rc_cp_up (K : Nat → By) (n : Nat) : rc_up (rc_cp K n) n (K n) = rc_cp K (n + 1) := by
  funext j
  show (if j = n then K n else if j < n then K j else 0) = if j < n + 1 then K j else 0
  by_cases h : j = n
  · subst h
    rw [if_pos rfl, if_pos (Nat.lt_succ_self j)]
  · rw [if_neg h]
    by_cases h2 : j < n
    · rw [if_pos h2, if_pos (Nat.lt_succ_of_lt h2)]
    · rw [if_neg h2, if_neg (by omega)]
theorem rc_cp_0 (K : Nat → By) : rc_cp K 0 = fun _ => 0 := by
  funext j
  exact if_neg (Nat.not_lt_zero j)
theorem rc_cp_cp (K : Nat → By) (n : Nat) : rc_cp (rc_cp K n) n = rc_cp K n := by
  funext j
  show (if j < n then (if j < n then K j else 0) else 0) = if j < n then K j else 0
  by_cases h : j < n
  · rw [if_pos h]
  · rw [if_neg h, if_neg h]
theorem rc_cpy (K : Nat → By) (n : Nat) : va_cpy (rc_bs K) (rc_bs (fun _ => 0)) 0 0 n = rc_bs (rc_cp K n) := by
  funext j
  show (if 0 ≤ j ∧ j < 0 + n then rc_s (K (0 + (j - 0))) else rc_s 0) = rc_s (if j < n then K j else 0)
  by_cases h : j < n
  · rw [if_pos h, if_pos ⟨Nat.zero_le j, by omega⟩, Nat.zero_add, Nat.sub_zero]
  · rw [if_neg h, if_neg (fun z => h (by omega))]
def rc_fl (S : Nat → By) (k : Nat) : Nat → By := fun j => if j < k then BitVec.ofNat 8 j else S j
theorem rc_fl_up (S : Nat → By) (k : Nat) : rc_up (rc_fl S k) k (BitVec.ofNat 8 k) = rc_fl S (k + 1) := by
  funext j
  show (if j = k then BitVec.ofNat 8 k else if j < k then BitVec.ofNat 8 j else S j) = if j < k + 1 then BitVec.ofNat 8 j else S j
  by_cases h : j = k
  · subst h
    rw [if_pos rfl, if_pos (Nat.lt_succ_self j)]
  · rw [if_neg h]
    by_cases h2 : j < k
    · rw [if_pos h2, if_pos (Nat.lt_succ_of_lt h2)]
    · rw [if_neg h2, if_neg (by omega)]
theorem rc_fl_0 (S : Nat → By) : rc_fl S 0 = S := by
  funext j
  exact if_neg (Nat.not_lt_zero j)
theorem rc_fl_end (S U : Nat → By) (n : Nat) (j : Nat) (h : j < 256) : rc_fl S 256 j = (rc_ks U n 0).1 j := if_pos h
end
section
/-! ROWS OF OURS over the kit's: one shape of contract, calls in one row, byte and int arrays by their bytes -/
abbrev rc_cl : List vw_C := [(RX0, TX0, 8), (RX1, TX1, 5), (RX2, TX2, 9), (RX3, TX3, 1)]
abbrev rc_ty (cB cI : ClassId) : List (ClassId × FieldType) := [(cB, .byte), (cI, .int)]
abbrev rc_rm (f c s l : Nat) : Room := { frames := f, cells := c, slots := s, locals := l }
/-- a byte array's cell, an int array's cell -/
abbrev rc_ab (cB : ClassId) (n : Nat) (S : Nat → By) : va_E := .inl (cB, n, .inl (rc_bs S))
abbrev rc_ai (cI : ClassId) (n : Nat) (S : Nat → By) : va_E := .inl (cI, n, .inl (rc_bz S))
abbrev rc_Pr (G : va_G) (cB cI : ClassId) (w : va_W) (sz : Nat) (av : List Value) : Array Value → State → Prop := va_Pc av (fun U => U.heap.size = sz ∧ va_P G rc_cl w U.heap ∧ va_K G rc_cl (rc_ty cB cI) U ∧ va_D (fun _ => True) w)
abbrev rc_B {S : Type} (G : va_G) (A : Nat → Prop) (w1 : S → va_W) : S → State → Prop := fun u t => va_P G rc_cl (w1 u) t.heap ∧ va_D A (w1 u)
abbrev rc_Qv {S : Type} (G : va_G) (A : Nat → Prop) (post : S → Prop) (w1 : S → va_W) : Array Value → State → Outcome → State → Prop := va_Qv post (rc_B G A w1) A
abbrev rc_Qi {S : Type} (G : va_G) (A : Nat → Prop) (post : Int32 → S → Prop) (w1 : S → va_W) : Array Value → State → Outcome → State → Prop := va_Qi post (rc_B G A w1) A
/-- a contract: from the cells w0 to the cells w1 u, nothing else changed; void, int -/
abbrev rc_Mv {S : Type} (l : Launch) (y : MethodName) (b : ByteArray) (L f mc ms lo : Nat) (G : va_G) (cB cI : ClassId) (w0 : va_W) (sz : Nat) (av : List Value) (post : S → Prop) (w1 : S → va_W) : Prop := Met l y (ws_ y b L none) (rc_rm f mc ms lo) (rc_Pr G cB cI w0 sz av) (rc_Qv G (va_A w0 sz) post w1) mc ms (va_A w0 sz)
abbrev rc_Mi {S : Type} (l : Launch) (y : MethodName) (b : ByteArray) (L : Nat) (ty : FieldType) (f mc ms lo : Nat) (G : va_G) (cB cI : ClassId) (w0 : va_W) (sz : Nat) (av : List Value) (post : Int32 → S → Prop) (w1 : S → va_W) : Prop := Met l y (ws_ y b L (some ty)) (rc_rm f mc ms lo) (rc_Pr G cB cI w0 sz av) (rc_Qi G (va_A w0 sz) post w1) mc ms (va_A w0 sz)
/-- a method that answers the cell r, and changes nothing -/
abbrev rc_Qr (G : va_G) (A : Nat → Prop) (r : Nat) (w1 : va_W) : Array Value → State → Outcome → State → Prop := va_Qr (fun _ : Unit => True) (fun _ a t => a = r ∧ va_P G rc_cl w1 t.heap ∧ va_D A w1) A
abbrev rc_Mr (l : Launch) (y : MethodName) (b : ByteArray) (L : Nat) (ty : FieldType) (f mc ms lo : Nat) (G : va_G) (cB cI : ClassId) (w0 : va_W) (sz : Nat) (av : List Value) (r : Nat) (w1 : va_W) : Prop := Met l y (ws_ y b L (some ty)) (rc_rm f mc ms lo) (rc_Pr G cB cI w0 sz av) (rc_Qr G (va_A w0 sz) r w1) mc ms (va_A w0 sz)
theorem rc_blind {G : va_G} {cB cI : ClassId} {w : va_W} {sz : Nat} {av : List Value} : FrameBlind (rc_Pr G cB cI w sz av) := by
  intro a U g mk q
  obtain ⟨q0, q1, qP, qK, qD⟩ := q
  exact ⟨q0, q1, qP, va_K.moved (u := U) (U := U.calling g mk a) (Vm.Alike.refl U.vm) qK, qD⟩
theorem rc_Psub {D : va_G} {cl : List vw_C} {ws ws' : va_W} {H : Heap} (h : va_P D cl ws H) (is : List Nat) (hs : is.map (fun i => ws[i]?) = ws'.map some) : va_P D cl ws' H := by
  intro k q hk
  have h1 : (is.map (fun i => ws[i]?))[k]? = some (some q) := by rw [hs, List.getElem?_map, hk]; rfl
  rw [List.getElem?_map] at h1
  cases hi : is[k]? with
  | none => rw [hi] at h1; cases h1
  | some i => rw [hi] at h1; exact h i q (Option.some.inj h1)
theorem rc_pre {s : State} {H : Heap} {G : va_G} {cB cI : ClassId} {A : Nat → Prop} {ws wc : va_W} {av : List Value} (hK : va_K G rc_cl (rc_ty cB cI) s) (hP : va_P G rc_cl ws H) (hD : va_D A ws) (isC : List Nat) (hC : isC.map (fun i => ws[i]?) = wc.map some) (hn : va_nd isC = true) : PreS s H (rc_Pr G cB cI wc H.size av) av :=
  ⟨rc_blind, fun U hU hW => ⟨rfl, by rw [hU], by rw [hU]; exact rc_Psub hP isC hC, va_K.moved hW.alike hK, (hD.sub isC hn hC).weaken (fun _ _ _ _ => trivial)⟩⟩
theorem rc_preV {s : State} {H : Heap} {G : va_G} {cB cI : ClassId} {A : Nat → Prop} {ws wc : va_W} {b : Nat} {As : List Value} (hK : va_K G rc_cl (rc_ty cB cI) s) (hP : va_P G rc_cl ws H) (hD : va_D A ws) (isC : List Nat) (hC : isC.map (fun i => ws[i]?) = wc.map some) (hn : va_nd isC = true) (ci q0 : Nat) {C : String} {T : u_T} {N : Nat} {fs : List Value} (hc : rc_cl[ci]? = some (C, T, N)) (he : ws[q0]? = some (b, .inr (ci, fs))) : PreV s H C b (rc_Pr G cB cI wc H.size (.ref b :: As)) As :=
  ⟨rc_blind, va_recv hK hP hc he, (rc_pre (av := .ref b :: As) hK hP hD isC hC hn).2⟩
section RC1
variable {p : Program} {l : Launch} {e : Env} {R : Room} {s : State} {m : MethodId} {args : Array Value} {below : List Frame} {meth : Method} {c : Code} {H : Heap} {locs : List Loc} {cells slots : Nat} {Q : State → Prop}
variable {cc : ByteArray} {pc : Nat} {ls : Array Slot} {rest st0 : List Value} {G : va_G} {cB cI : ClassId} {A : Nat → Prop} {a : Nat} {ws wc wr : va_W} {H0 : Heap} {mc ms : Nat} {av : Array Value}
/-- the top of the stack under another name -/
theorem rc_ti {x y : Int32} (h : x = y) (k : W p l e R s m args below meth c H locs cells slots Q (F0 m pc ls (.int y :: rest))) : W p l e R s m args below meth c H locs cells slots Q (F0 m pc ls (.int x :: rest)) := by
  subst h
  exact k
theorem rc_bld (hexec : p.tables.exec = Jvm.exec) (hb : c.code = cc) (hK : va_K G rc_cl (rc_ty cB cI) s) (hP : va_P G rc_cl ws H) (q0 : Nat) {n : Nat} {S : Nat → By} (ha : ws[q0]? = some (a, rc_ab cB n S)) (k : Nat) {i : Int32} (hi : i = nI k) (hk : k < n) (hn : n ≤ 100000) (hdg : decode cc pc = .ok (.baload, 1))
    (kk : W p l e R s m args below meth c H locs cells slots Q (F0 m (pc + 1) ls (.int (rc_s (S k)) :: rest))) : W p l e R s m args below meth c H locs cells slots Q (F0 m pc ls (.int i :: .ref a :: rest)) := by
  subst hi
  refine va_bald hexec hb hK hP q0 0 ha rfl (vp_in_nI hk (rc_big hn)) hdg ?_
  rw [nI_clamp (Nat.lt_trans hk (rc_big hn))]
  exact kk
theorem rc_ild (hexec : p.tables.exec = Jvm.exec) (hb : c.code = cc) (hK : va_K G rc_cl (rc_ty cB cI) s) (hP : va_P G rc_cl ws H) (q0 : Nat) {n : Nat} {S : Nat → By} (ha : ws[q0]? = some (a, rc_ai cI n S)) (k : Nat) {i : Int32} (hi : i = nI k) (hk : k < n) (hn : n ≤ 100000) (hdg : decode cc pc = .ok (.iaload, 1))
    (kk : W p l e R s m args below meth c H locs cells slots Q (F0 m (pc + 1) ls (.int (rc_z (S k)) :: rest))) : W p l e R s m args below meth c H locs cells slots Q (F0 m pc ls (.int i :: .ref a :: rest)) := by
  subst hi
  refine va_iald hexec hb hK hP q0 1 ha rfl (vp_in_nI hk (rc_big hn)) hdg ?_
  rw [nI_clamp (Nat.lt_trans hk (rc_big hn))]
  exact kk
theorem rc_nar (b : By) : vp_nar .byte (rc_s b) = rc_s b := by rw [vp_nar_byte, rc_i2b, rc_lo_s]
theorem rc_bst (hexec : p.tables.exec = Jvm.exec) (hb : c.code = cc) (hK : va_K G rc_cl (rc_ty cB cI) s) (hP : va_P G rc_cl ws H) (hD : va_D A ws) (hS : va_S A H0 H locs) (q0 : Nat) {n : Nat} {S : Nat → By} (ha : ws[q0]? = some (a, rc_ab cB n S)) (k : Nat) {i x : Int32} (hi : i = nI k) (hk : k < n) (hn : n ≤ 100000) (b : By) (hx : x = rc_s b) (hdg : decode cc pc = .ok (.bastore, 1))
    (kk : ∀ (H1 : Heap) (locs1 : List Loc), va_P G rc_cl (ws.set q0 (a, rc_ab cB n (rc_up S k b))) H1 → va_D A (ws.set q0 (a, rc_ab cB n (rc_up S k b))) → va_S A H0 H1 locs1 → W p l e R s m args below meth c H1 locs1 cells slots Q (F0 m (pc + 1) ls rest)) : W p l e R s m args below meth c H locs cells slots Q (F0 m pc ls (.int x :: .int i :: .ref a :: rest)) := by
  subst hi
  subst hx
  refine va_bast hexec hb hK hP hD hS q0 0 ha rfl (vp_in_nI hk (rc_big hn)) hdg (fun H1 locs1 hP1 hD1 hS1 => ?_)
  rw [nI_clamp (Nat.lt_trans hk (rc_big hn)), rc_nar, rc_bs_up] at hP1 hD1
  exact kk H1 locs1 hP1 hD1 hS1
theorem rc_ist (hexec : p.tables.exec = Jvm.exec) (hb : c.code = cc) (hK : va_K G rc_cl (rc_ty cB cI) s) (hP : va_P G rc_cl ws H) (hD : va_D A ws) (hS : va_S A H0 H locs) (q0 : Nat) {n : Nat} {S : Nat → By} (ha : ws[q0]? = some (a, rc_ai cI n S)) (k : Nat) {i x : Int32} (hi : i = nI k) (hk : k < n) (hn : n ≤ 100000) (b : By) (hx : x = rc_z b) (hdg : decode cc pc = .ok (.iastore, 1))
    (kk : ∀ (H1 : Heap) (locs1 : List Loc), va_P G rc_cl (ws.set q0 (a, rc_ai cI n (rc_up S k b))) H1 → va_D A (ws.set q0 (a, rc_ai cI n (rc_up S k b))) → va_S A H0 H1 locs1 → W p l e R s m args below meth c H1 locs1 cells slots Q (F0 m (pc + 1) ls rest)) : W p l e R s m args below meth c H locs cells slots Q (F0 m pc ls (.int x :: .int i :: .ref a :: rest)) := by
  subst hi
  subst hx
  refine va_iast hexec hb hK hP hD hS q0 1 ha rfl (vp_in_nI hk (rc_big hn)) hdg (fun H1 locs1 hP1 hD1 hS1 => ?_)
  rw [nI_clamp (Nat.lt_trans hk (rc_big hn)), rc_bz_up] at hP1 hD1
  exact kk H1 locs1 hP1 hD1 hS1
/-- an array's length -/
theorem rc_lnB (hexec : p.tables.exec = Jvm.exec) (hb : c.code = cc) (hK : va_K G rc_cl (rc_ty cB cI) s) (hP : va_P G rc_cl ws H) (q0 : Nat) {n : Nat} {S : Nat → By} (ha : ws[q0]? = some (a, rc_ab cB n S)) (hdg : decode cc pc = .ok (.arraylength, 1))
    (kk : W p l e R s m args below meth c H locs cells slots Q (F0 m (pc + 1) ls (.int (nI n) :: rest))) : W p l e R s m args below meth c H locs cells slots Q (F0 m pc ls (.ref a :: rest)) := va_alen (v := nI n) hexec hb hK hP q0 0 ha rfl rfl hdg kk
theorem rc_lnI (hexec : p.tables.exec = Jvm.exec) (hb : c.code = cc) (hK : va_K G rc_cl (rc_ty cB cI) s) (hP : va_P G rc_cl ws H) (q0 : Nat) {n : Nat} {S : Nat → By} (ha : ws[q0]? = some (a, rc_ai cI n S)) (hdg : decode cc pc = .ok (.arraylength, 1))
    (kk : W p l e R s m args below meth c H locs cells slots Q (F0 m (pc + 1) ls (.int (nI n) :: rest))) : W p l e R s m args below meth c H locs cells slots Q (F0 m pc ls (.ref a :: rest)) := va_alen (v := nI n) hexec hb hK hP q0 1 ha rfl rfl hdg kk
/-- a new byte array, a new int array: all zero -/
theorem rc_nwB (hexec : p.tables.exec = Jvm.exec) (hb : c.code = cc) (harr : (Cond.arrayClass .byte).before args s = true) (hK : va_K G rc_cl (rc_ty cB cI) s) (hP : va_P G rc_cl ws H) (hD : va_D A ws) (hS : va_S A H0 H locs) (hA : ∀ q, H0.size ≤ q → A q) (n : Nat) {x : Int32} (hx : x = nI n) (hn : n ≤ 1000) (hcells : cells + 1 ≤ R.cells) (hslots : slots + n ≤ R.slots) (hdg : decode cc pc = .ok (.newarray .byte, 2))
    (kk : ∀ (q : Nat) (H1 : Heap), va_P G rc_cl (ws ++ [(q, rc_ab cB n (fun _ => 0))]) H1 → va_D A (ws ++ [(q, rc_ab cB n (fun _ => 0))]) → va_S A H0 H1 locs → W p l e R s m args below meth c H1 locs (cells + 1) (slots + n) Q (F0 m (pc + 2) ls (.ref q :: rest))) : W p l e R s m args below meth c H locs cells slots Q (F0 m pc ls (.int x :: rest)) := by
  subst hx
  have hn2 : n < 2 ^ 31 := rc_big (Nat.le_trans hn (Nat.le_of_ble_eq_true rfl))
  refine va_newa (atype := .byte) (ty := .byte) (N' := n) (a0 := (n, .inl (rc_bs (fun _ => 0)))) hexec hb harr rfl hK hP hD hS hA (fun cA => ?_) (nI_pos hn2) (nI_clamp hn2) (Nat.le_trans (Nat.mul_le_mul_right _ hn) (Nat.le_of_ble_eq_true rfl)) hcells hslots hdg (fun q cA H1 hK1 hP1 hD1 hS1 => ?_)
  · show arrV cA n (fun _ => Value.int (rc_s 0)) = arrV cA n (fun _ => Value.int 0)
    rw [rc_s_0]
  · have h1 : s.vm.findClass ("[" ++ FieldType.byte.toString) = some cB := (hK1.2 0 (cB, .byte) rfl).2
    have h2 : s.vm.findClass ("[" ++ FieldType.byte.toString) = some cA := (hK1.2 2 (cA, .byte) rfl).2
    obtain rfl : cB = cA := Option.some.inj (h1.symm.trans h2)
    exact kk q H1 hP1 hD1 hS1
theorem rc_nwI (hexec : p.tables.exec = Jvm.exec) (hb : c.code = cc) (harr : (Cond.arrayClass .int).before args s = true) (hK : va_K G rc_cl (rc_ty cB cI) s) (hP : va_P G rc_cl ws H) (hD : va_D A ws) (hS : va_S A H0 H locs) (hA : ∀ q, H0.size ≤ q → A q) (n : Nat) {x : Int32} (hx : x = nI n) (hn : n ≤ 1000) (hcells : cells + 1 ≤ R.cells) (hslots : slots + n ≤ R.slots) (hdg : decode cc pc = .ok (.newarray .int, 2))
    (kk : ∀ (q : Nat) (H1 : Heap), va_P G rc_cl (ws ++ [(q, rc_ai cI n (fun _ => 0))]) H1 → va_D A (ws ++ [(q, rc_ai cI n (fun _ => 0))]) → va_S A H0 H1 locs → W p l e R s m args below meth c H1 locs (cells + 1) (slots + n) Q (F0 m (pc + 2) ls (.ref q :: rest))) : W p l e R s m args below meth c H locs cells slots Q (F0 m pc ls (.int x :: rest)) := by
  subst hx
  have hn2 : n < 2 ^ 31 := rc_big (Nat.le_trans hn (Nat.le_of_ble_eq_true rfl))
  refine va_newa (atype := .int) (ty := .int) (N' := n) (a0 := (n, .inl (rc_bz (fun _ => 0)))) hexec hb harr rfl hK hP hD hS hA (fun cA => ?_) (nI_pos hn2) (nI_clamp hn2) (Nat.le_trans (Nat.mul_le_mul_right _ hn) (Nat.le_of_ble_eq_true rfl)) hcells hslots hdg (fun q cA H1 hK1 hP1 hD1 hS1 => ?_)
  · show arrV cA n (fun _ => Value.int (rc_z 0)) = arrV cA n (fun _ => Value.int 0)
    rw [rc_z_0]
  · have h1 : s.vm.findClass ("[" ++ FieldType.int.toString) = some cI := (hK1.2 1 (cI, .int) rfl).2
    have h2 : s.vm.findClass ("[" ++ FieldType.int.toString) = some cA := (hK1.2 2 (cA, .int) rfl).2
    obtain rfl : cI = cA := Option.some.inj (h1.symm.trans h2)
    exact kk q H1 hP1 hD1 hS1
/-- a call, its cells cut out by their places and put back behind the rest -/
theorem rc_cv {S : Type} {post : S → Prop} {w1 : S → va_W} (isC isR : List Nat) (hC : isC.map (fun i => ws[i]?) = wc.map some) (hR : isR.map (fun i => ws[i]?) = wr.map some) (hn : va_nd isR = true) (hdis : ∀ i ∈ isR, i ∉ isC) (hP : va_P G rc_cl ws H) (hD : va_D A ws) (hS : va_S A H0 H locs) (hA : ∀ q, H0.size ≤ q → A q)
    (hr : va_Run p l e R s m args below meth c H locs cells slots mc ms (F0 m pc ls st0) rest (rc_Qv G (va_A wc H.size) post w1 av) (va_A wc H.size))
    (kk : ∀ (u : S) (H1 : Heap) (locs1 : List Loc), post u → va_P G rc_cl (wr ++ w1 u) H1 → va_D A (wr ++ w1 u) → va_S A H0 H1 locs1 → W p l e R s m args below meth c H1 locs1 (cells + mc) (slots + ms) Q (F0 m (pc + 3) ls rest)) : W p l e R s m args below meth c H locs cells slots Q (F0 m pc ls st0) := by
  have hF := va_free hD hS hA isC hC
  refine va_callv hr hS (fun q _ h => hF q h) hF (fun u t H1 locs1 ht _ hq hB _ hk hS1 => ?_)
  obtain ⟨hP1, hD1⟩ := hB
  rw [ht] at hP1
  obtain ⟨hP2, hD2⟩ := va_join hP hD isC isR hC hR hn hdis hk hF hP1 hD1
  exact kk u H1 locs1 hq hP2 hD2 hS1
theorem rc_ci {S : Type} {post : Int32 → S → Prop} {w1 : S → va_W} (isC isR : List Nat) (hC : isC.map (fun i => ws[i]?) = wc.map some) (hR : isR.map (fun i => ws[i]?) = wr.map some) (hn : va_nd isR = true) (hdis : ∀ i ∈ isR, i ∉ isC) (hP : va_P G rc_cl ws H) (hD : va_D A ws) (hS : va_S A H0 H locs) (hA : ∀ q, H0.size ≤ q → A q)
    (hr : va_Run p l e R s m args below meth c H locs cells slots mc ms (F0 m pc ls st0) rest (rc_Qi G (va_A wc H.size) post w1 av) (va_A wc H.size))
    (kk : ∀ (r : Int32) (u : S) (H1 : Heap) (locs1 : List Loc), post r u → va_P G rc_cl (wr ++ w1 u) H1 → va_D A (wr ++ w1 u) → va_S A H0 H1 locs1 → W p l e R s m args below meth c H1 locs1 (cells + mc) (slots + ms) Q (F0 m (pc + 3) ls (.int r :: rest))) : W p l e R s m args below meth c H locs cells slots Q (F0 m pc ls st0) := by
  have hF := va_free hD hS hA isC hC
  refine va_calli hr hS (fun q _ h => hF q h) hF (fun r u t H1 locs1 ht _ hq hB _ hk hS1 => ?_)
  obtain ⟨hP1, hD1⟩ := hB
  rw [ht] at hP1
  obtain ⟨hP2, hD2⟩ := va_join hP hD isC isR hC hR hn hdis hk hF hP1 hD1
  exact kk r u H1 locs1 hq hP2 hD2 hS1
theorem rc_cr {r : Nat} {w1 : va_W} (isC isR : List Nat) (hC : isC.map (fun i => ws[i]?) = wc.map some) (hR : isR.map (fun i => ws[i]?) = wr.map some) (hn : va_nd isR = true) (hdis : ∀ i ∈ isR, i ∉ isC) (hP : va_P G rc_cl ws H) (hD : va_D A ws) (hS : va_S A H0 H locs) (hA : ∀ q, H0.size ≤ q → A q)
    (hr : va_Run p l e R s m args below meth c H locs cells slots mc ms (F0 m pc ls st0) rest (rc_Qr G (va_A wc H.size) r w1 av) (va_A wc H.size))
    (kk : ∀ (H1 : Heap) (locs1 : List Loc), va_P G rc_cl (wr ++ w1) H1 → va_D A (wr ++ w1) → va_S A H0 H1 locs1 → W p l e R s m args below meth c H1 locs1 (cells + mc) (slots + ms) Q (F0 m (pc + 3) ls (.ref r :: rest))) : W p l e R s m args below meth c H locs cells slots Q (F0 m pc ls st0) := by
  have hF := va_free hD hS hA isC hC
  refine va_callr hr hS (fun q _ h => hF q h) hF (fun u ra t H1 locs1 ht _ _ hB _ hk hS1 => ?_)
  obtain ⟨rfl, hP1, hD1⟩ := hB
  rw [ht] at hP1
  obtain ⟨hP2, hD2⟩ := va_join hP hD isC isR hC hR hn hdis hk hF hP1 hD1
  exact kk H1 locs1 hP2 hD2 hS1
/-- the ends -/
theorem rc_rr {r : Nat} {w1 : va_W} {ty : FieldType} (hexec : p.tables.exec = Jvm.exec) (hb : c.code = cc) (hr : meth.sig.returnType = some (.array ty)) (hlocks : meth.locks = false) (hP : va_P G rc_cl w1 H) (hD : va_D A w1) (hS : va_S A s.heap H locs) (hc : cells ≤ mc) (hs : slots ≤ ms) (hdg : decode cc pc = .ok (.areturn, 1)) : W p l e R s m args below meth c H locs cells slots (MQ below (rc_Qr G A r w1) args s mc ms A) (F0 m pc ls [.ref r]) := by
  refine W.widen hc hs ?_
  exact W.aret hexec hb hr (Or.inr ⟨ty, rfl⟩) (Or.inr ⟨r, rfl⟩) (fun t ht _ => ⟨⟨(), r, rfl, trivial, rfl, by rw [ht]; exact hP, hD⟩, hS.F ht⟩) hS.2.2 hdg hlocks
theorem rc_vr {S : Type} {post : S → Prop} {w1 : S → va_W} (hexec : p.tables.exec = Jvm.exec) (hb : c.code = cc) (hr : meth.sig.returnType = none) (hlocks : meth.locks = false) (u : S) (hq : post u) (hP : va_P G rc_cl (w1 u) H) (hD : va_D A (w1 u)) (hS : va_S A s.heap H locs) (hc : cells ≤ mc) (hs : slots ≤ ms) (hdg : decode cc pc = .ok (.return_, 1)) : W p l e R s m args below meth c H locs cells slots (MQ below (rc_Qv G A post w1) args s mc ms A) (F0 m pc ls []) := by
  refine W.widen hc hs ?_
  exact W.vret hexec hb hr (fun t ht _ => ⟨⟨u, rfl, hq, by rw [ht]; exact hP, hD⟩, hS.F ht⟩) hS.2.2 hdg hlocks
theorem rc_ir {S : Type} {post : Int32 → S → Prop} {w1 : S → va_W} {v : Int32} {ty : FieldType} (hexec : p.tables.exec = Jvm.exec) (hb : c.code = cc) (hr : meth.sig.returnType = some ty) (hlocks : meth.locks = false) (hnw : narrow ty (.int v) = .int v) (u : S) (hq : post v u) (hP : va_P G rc_cl (w1 u) H) (hD : va_D A (w1 u)) (hS : va_S A s.heap H locs) (hc : cells ≤ mc) (hs : slots ≤ ms) (hdg : decode cc pc = .ok (.ireturn, 1)) : W p l e R s m args below meth c H locs cells slots (MQ below (rc_Qi G A post w1) args s mc ms A) (F0 m pc ls [.int v]) := by
  refine W.widen hc hs ?_
  exact W.zret hexec hb hr hnw (fun t ht _ => ⟨⟨v, u, rfl, hq, by rw [ht]; exact hP, hD⟩, hS.F ht⟩) hS.2.2 hdg hlocks
/-- the same array under another picture -/
theorem rc_Pcg {n : Nat} {cA : ClassId} {f g : Nat → Int32} (hP : va_P G rc_cl ws H) (q0 : Nat) (ha : ws[q0]? = some (a, .inl (cA, n, .inl f))) (hfg : ∀ j, j < n → f j = g j) : va_P G rc_cl (ws.set q0 (a, .inl (cA, n, .inl g))) H := by
  have e : vp_cell cA (n, .inl f) = vp_cell cA (n, .inl g) := by
    rw [vp_cell_i, vp_cell_i]
    show ({ cls := cA, slots := Array.ofFn (n := n) fun j => Value.int (f j.val), vm := .none } : Cell) = { cls := cA, slots := Array.ofFn (n := n) fun j => Value.int (g j.val), vm := .none }
    have e2 : (fun j : Fin n => Value.int (f j.val)) = fun j : Fin n => Value.int (g j.val) := by
      funext j
      rw [hfg j.val j.isLt]
    rw [e2]
  intro k q hk
  by_cases hkq : q0 = k
  · subst hkq
    rw [List.getElem?_set_self (List.getElem?_eq_some_iff.mp ha).1] at hk
    cases hk
    show H[a]? = some (vp_cell cA (n, .inl g))
    rw [← e]
    exact hP q0 _ ha
  · rw [List.getElem?_set_ne hkq] at hk
    exact hP k q hk
end RC1
/-- a method's contract out of its walk: void -/
theorem rc_ofv {S : Type} {l : Launch} {y : MethodName} {b : ByteArray} {L f mc ms lo : Nat} {G : va_G} {cB cI : ClassId} {w0 : va_W} {sz : Nat} {av : List Value} {post : S → Prop} {w1 : S → va_W} (hy : plainName y.cls = true) (hav : (lg_sl av).length ≤ L)
    (body : ∀ (p : Program) (e : Env) (s : State) (m : MethodId) (below : List Frame) (meth : Method) (c : Code) (A : Nat → Prop) (ls : Array Slot), p.tables.exec = Jvm.exec → c.code = b → meth.sig.returnType = none → meth.locks = false → c.maxLocals = L → s.vm.findClass y.cls = some m.cls → meth.name = y.name → (∀ w ∈ lw_all, w.before av.toArray s = true) → va_P G rc_cl w0 s.heap → va_K G rc_cl (rc_ty cB cI) s → va_D A w0 → (∀ q : Nat, s.heap.size ≤ q → A q) → va_S A s.heap s.heap [] → lv_has ls L (lv_args 0 av) →
      W p l e (rc_rm f mc ms lo) s m av.toArray below meth c s.heap [] 0 0 (MQ below (rc_Qv G A post w1) av.toArray s mc ms A) (F0 m 0 ls [])) : rc_Mv l y b L f mc ms lo G cB cI w0 sz av post w1 := by
  refine Met.ofW (cc := b) (maxL := L) (ret := none) hy rfl ?_
  intro p e s m args below meth c s₁ B hml hv
  obtain ⟨rfl, hsz, hP, hK, hD0⟩ := hv
  subst hsz
  rw [lg_entry_eq]
  have hts := atoms_spec (ws := ws_ y b L none) B.pre
  exact body p e s m below meth c (va_A w0 s.heap.size) _ B.exec B.bytes B.returns B.notSynchronized hml (findClass_of_methodNamed B.named) (name_of_methodNamed B.named B.method).1 (fun w h => hts w (List.mem_cons_of_mem _ h)) hP hK hD0.self (fun q h => Or.inr h) va_S.rf (lv_entry av hav)
theorem rc_ofi {S : Type} {l : Launch} {y : MethodName} {b : ByteArray} {L : Nat} {ty : FieldType} {f mc ms lo : Nat} {G : va_G} {cB cI : ClassId} {w0 : va_W} {sz : Nat} {av : List Value} {post : Int32 → S → Prop} {w1 : S → va_W} (hy : plainName y.cls = true) (hav : (lg_sl av).length ≤ L)
    (body : ∀ (p : Program) (e : Env) (s : State) (m : MethodId) (below : List Frame) (meth : Method) (c : Code) (A : Nat → Prop) (ls : Array Slot), p.tables.exec = Jvm.exec → c.code = b → meth.sig.returnType = some ty → meth.locks = false → c.maxLocals = L → s.vm.findClass y.cls = some m.cls → meth.name = y.name → (∀ w ∈ lw_all, w.before av.toArray s = true) → va_P G rc_cl w0 s.heap → va_K G rc_cl (rc_ty cB cI) s → va_D A w0 → (∀ q : Nat, s.heap.size ≤ q → A q) → va_S A s.heap s.heap [] → lv_has ls L (lv_args 0 av) →
      W p l e (rc_rm f mc ms lo) s m av.toArray below meth c s.heap [] 0 0 (MQ below (rc_Qi G A post w1) av.toArray s mc ms A) (F0 m 0 ls [])) : rc_Mi l y b L ty f mc ms lo G cB cI w0 sz av post w1 := by
  refine Met.ofW (cc := b) (maxL := L) (ret := some ty) hy rfl ?_
  intro p e s m args below meth c s₁ B hml hv
  obtain ⟨rfl, hsz, hP, hK, hD0⟩ := hv
  subst hsz
  rw [lg_entry_eq]
  have hts := atoms_spec (ws := ws_ y b L (some ty)) B.pre
  exact body p e s m below meth c (va_A w0 s.heap.size) _ B.exec B.bytes B.returns B.notSynchronized hml (findClass_of_methodNamed B.named) (name_of_methodNamed B.named B.method).1 (fun w h => hts w (List.mem_cons_of_mem _ h)) hP hK hD0.self (fun q h => Or.inr h) va_S.rf (lv_entry av hav)
theorem rc_ofr {l : Launch} {y : MethodName} {b : ByteArray} {L : Nat} {ty : FieldType} {f mc ms lo : Nat} {G : va_G} {cB cI : ClassId} {w0 : va_W} {sz : Nat} {av : List Value} {r : Nat} {w1 : va_W} (hy : plainName y.cls = true) (hav : (lg_sl av).length ≤ L)
    (body : ∀ (p : Program) (e : Env) (s : State) (m : MethodId) (below : List Frame) (meth : Method) (c : Code) (A : Nat → Prop) (ls : Array Slot), p.tables.exec = Jvm.exec → c.code = b → meth.sig.returnType = some ty → meth.locks = false → c.maxLocals = L → s.vm.findClass y.cls = some m.cls → meth.name = y.name → (∀ w ∈ lw_all, w.before av.toArray s = true) → va_P G rc_cl w0 s.heap → va_K G rc_cl (rc_ty cB cI) s → va_D A w0 → (∀ q : Nat, s.heap.size ≤ q → A q) → va_S A s.heap s.heap [] → lv_has ls L (lv_args 0 av) →
      W p l e (rc_rm f mc ms lo) s m av.toArray below meth c s.heap [] 0 0 (MQ below (rc_Qr G A r w1) av.toArray s mc ms A) (F0 m 0 ls [])) : rc_Mr l y b L ty f mc ms lo G cB cI w0 sz av r w1 := by
  refine Met.ofW (cc := b) (maxL := L) (ret := some ty) hy rfl ?_
  intro p e s m args below meth c s₁ B hml hv
  obtain ⟨rfl, hsz, hP, hK, hD0⟩ := hv
  subst hsz
  rw [lg_entry_eq]
  have hts := atoms_spec (ws := ws_ y b L (some ty)) B.pre
  exact body p e s m below meth c (va_A w0 s.heap.size) _ B.exec B.bytes B.returns B.notSynchronized hml (findClass_of_methodNamed B.named) (name_of_methodNamed B.named B.method).1 (fun w h => hts w (List.mem_cons_of_mem _ h)) hP hK hD0.self (fun q h => Or.inr h) va_S.rf (lv_entry av hav)
/-- a contract over more cells: the rest stays; the cells by other places, the answer's cells by other names -/
theorem rc_conseq {l : Launch} {y : MethodName} {ws : List Cond} {rm : Room} {Pc Pc' : Array Value → State → Prop} {Qc Qc' : Array Value → State → Outcome → State → Prop} {mc ms : Nat} {fr fr' : Addr → Prop} (h : Met l y ws rm Pc Qc mc ms fr) (hp : ∀ a s, Pc' a s → Pc a s) (hq : ∀ a s o t, Pc' a s → Qc a s o t → Qc' a s o t) (hf : ∀ q, fr q → fr' q) : Met l y ws rm Pc' Qc' mc ms fr' := by
  intro p e h1 h2 h3 s m args below h4 h5 h6 h7
  obtain ⟨n, o, g1, g2, g3, g4, L, g5, g6⟩ := h p e h1 h2 h3 s m args below h4 h5 (hp _ _ h6) h7
  exact ⟨n, o, g1, g2, g3, hq _ _ _ _ h6 g4, L, g5, fun q hm => hf _ (g6 q hm)⟩
theorem rc_Asub {w0 W0 : va_W} {sz : Nat} (isC : List Nat) (hC : isC.map (fun i => W0[i]?) = w0.map some) : ∀ q, va_A w0 sz q → va_A W0 sz q := by
  intro q h
  rcases h with ⟨k, e, h⟩ | h
  · have h1 : (isC.map (fun i => W0[i]?))[k]? = some (some (q, e)) := by rw [hC, List.getElem?_map, h]; rfl
    rw [List.getElem?_map] at h1
    cases hi : isC[k]? with
    | none => rw [hi] at h1; cases h1
    | some i => rw [hi] at h1; exact Or.inl ⟨i, e, Option.some.inj h1⟩
  · exact Or.inr h
section RC2
variable {S S' : Type} {l : Launch} {y : MethodName} {wds : List Cond} {rm : Room} {mc ms : Nat} {G : va_G} {cB cI : ClassId} {w0 W0 wr : va_W} {sz : Nat} {av : List Value} {w1 : S → va_W} {W1 : S' → va_W}
theorem rc_liftv {post : S → Prop} {post' : S' → Prop} (hM : Met l y wds rm (rc_Pr G cB cI w0 sz av) (rc_Qv G (va_A w0 sz) post w1) mc ms (va_A w0 sz)) (isC isR : List Nat) (hC : isC.map (fun i => W0[i]?) = w0.map some) (hR : isR.map (fun i => W0[i]?) = wr.map some) (hnC : va_nd isC = true) (hn : va_nd isR = true) (hdis : ∀ i ∈ isR, i ∉ isC)
    (is2 : List Nat) (hn2 : va_nd is2 = true) (h2 : ∀ u, post u → ∃ u', post' u' ∧ is2.map (fun i => (wr ++ w1 u)[i]?) = (W1 u').map some) : Met l y wds rm (rc_Pr G cB cI W0 sz av) (rc_Qv G (va_A W0 sz) post' W1) mc ms (va_A W0 sz) := by
  refine rc_conseq hM ?_ ?_ (rc_Asub isC hC)
  · intro a s h
    obtain ⟨h1, h2, h3, h4, h5⟩ := h
    exact ⟨h1, h2, rc_Psub h3 isC hC, h4, h5.sub isC hnC hC⟩
  · intro a s o t h q
    obtain ⟨g1, rfl, g3, g4, g5⟩ := h
    obtain ⟨⟨u, q1, q2, q3, q4⟩, q5, q6⟩ := q
    obtain ⟨u', r1, r2⟩ := h2 u q2
    obtain ⟨hP, hD⟩ := va_join (A0 := va_A W0 s.heap.size) g3 g5.self isC isR hC hR hn hdis q6 (rc_Asub isC hC) q3 q4
    exact ⟨⟨u', q1, r1, rc_Psub hP is2 r2, hD.sub is2 hn2 r2⟩, q5, fun x hx hA => q6 x hx (fun z => hA (rc_Asub isC hC x z))⟩
theorem rc_lifti {post : Int32 → S → Prop} {post' : Int32 → S' → Prop} (hM : Met l y wds rm (rc_Pr G cB cI w0 sz av) (rc_Qi G (va_A w0 sz) post w1) mc ms (va_A w0 sz)) (isC isR : List Nat) (hC : isC.map (fun i => W0[i]?) = w0.map some) (hR : isR.map (fun i => W0[i]?) = wr.map some) (hnC : va_nd isC = true) (hn : va_nd isR = true) (hdis : ∀ i ∈ isR, i ∉ isC)
    (is2 : List Nat) (hn2 : va_nd is2 = true) (h2 : ∀ r u, post r u → ∃ u', post' r u' ∧ is2.map (fun i => (wr ++ w1 u)[i]?) = (W1 u').map some) : Met l y wds rm (rc_Pr G cB cI W0 sz av) (rc_Qi G (va_A W0 sz) post' W1) mc ms (va_A W0 sz) := by
  refine rc_conseq hM ?_ ?_ (rc_Asub isC hC)
  · intro a s h
    obtain ⟨h1, h2, h3, h4, h5⟩ := h
    exact ⟨h1, h2, rc_Psub h3 isC hC, h4, h5.sub isC hnC hC⟩
  · intro a s o t h q
    obtain ⟨g1, rfl, g3, g4, g5⟩ := h
    obtain ⟨⟨r, u, q1, q2, q3, q4⟩, q5, q6⟩ := q
    obtain ⟨u', r1, r2⟩ := h2 r u q2
    obtain ⟨hP, hD⟩ := va_join (A0 := va_A W0 s.heap.size) g3 g5.self isC isR hC hR hn hdis q6 (rc_Asub isC hC) q3 q4
    exact ⟨⟨r, u', q1, r1, rc_Psub hP is2 r2, hD.sub is2 hn2 r2⟩, q5, fun x hx hA => q6 x hx (fun z => hA (rc_Asub isC hC x z))⟩
end RC2
end
section
/-! KeyParameter, RC4Engine() -/
set_option maxHeartbeats 4000000 in
set_option maxRecDepth 100000 in
/-- KeyParameter(int): a new array of n zeros -/
theorem metX3_init_3 (l : Launch) (G : va_G) (cB cI : ClassId) (h sz n : Nat) (hn : n ≤ 32) : rc_Mv l yX3_init_3 cX3_init_3 2 1 1 32 12 G cB cI [(h, .inr (3, [.null]))] sz [.ref h, .int (nI n)] (fun _ : Nat => True) (fun q => [(h, .inr (3, [.ref q])), (q, rc_ab cB n (fun _ => 0))]) := by
  refine rc_ofv (by decide) (Nat.le_of_ble_eq_true rfl) ?_
  intro p e s m below meth c A ls hx hb hr hlocks hml hown hin hts hP hK hD hA hS hl
  have hown : s.vm.findClass RX3 = some m.cls := hown
  have hin : meth.name = "<init>" := hin
  have hl : lv_has ls 2 [(0, .ref h), (1, .int (nI n))] := hl
  refine lv_aload_n hx hb dX3_init_3_0 rfl (lv_at hl 0 rfl) ?_
  refine W.objInit hx hb hown (hts _ q116) (hts _ q27) (hts _ q28) rfl (by rw [hml]; exact hl.1) rfl dX3_init_3_1 (Nat.le_of_ble_eq_true rfl) (Nat.le_of_ble_eq_true rfl) ?_
  refine W.eq (g2 := F0 m 4 ls []) rfl ?_
  refine lv_aload_n hx hb dX3_init_3_4 rfl (lv_at hl 0 rfl) ?_
  refine lv_iload_n hx hb dX3_init_3_5 rfl (lv_at hl 1 rfl) ?_
  refine rc_nwB hx hb (hts _ q76) hK hP hD hS hA n (rfl) (by omega) (Nat.le_of_ble_eq_true rfl) (by show 0 + n ≤ 32; omega) dX3_init_3_6 (fun q H hP hD hS => ?_)
  have hP : va_P G rc_cl [(h, .inr (3, [.null])), (q, rc_ab cB n (fun _ => 0))] H := hP
  have hD : va_D A [(h, .inr (3, [.null])), (q, rc_ab cB n (fun _ => 0))] := hD
  refine W.widen (k := 1) (n := 32) (by omega) (by omega) ?_
  refine va_put (D := G) (ci := 3) (v := .ref q) (ty := .array .byte) (C := RX3) (T := TX3) (N := 1) hx hb hts in_X3 tyX3 tyX3_ok nmX3 hown hK hP hD hS 0 rfl rfl 0 (by decide) (hts _ q117) (fun _ h9 => h9) rfl (by decide +kernel) rfl rfl (Nat.le_of_ble_eq_true rfl) dX3_init_3_8 (fun H locs hP hD hS => ?_)
  have hP : va_P G rc_cl [(h, .inr (3, [.ref q])), (q, rc_ab cB n (fun _ => 0))] H := hP
  have hD : va_D A [(h, .inr (3, [.ref q])), (q, rc_ab cB n (fun _ => 0))] := hD
  exact rc_vr hx hb hr hlocks q (trivial) (hP) (hD) hS (by omega) (by omega) dX3_init_3_11

theorem rc_c0 : (0 : Int32).toNatClampNeg = 0 := by decide +kernel
theorem rc_fit (b : By) : fits .byte (.int (rc_s b)) = true := by
  have h := pk_fb (rc_s b)
  rw [rc_i2b, rc_lo_s] at h
  exact h

set_option maxHeartbeats 4000000 in
set_option maxRecDepth 100000 in
/-- KeyParameter(byte[], 0, n): a copy -/
theorem metX3_init_2 (l : Launch) (G : va_G) (cB cI : ClassId) (h a sz n : Nat) (K : Nat → By) (hn : n ≤ 32) : rc_Mv l yX3_init_2 cX3_init_2 4 2 1 32 33 G cB cI [(h, .inr (3, [.null])), (a, rc_ab cB n K)] sz [.ref h, .ref a, .int 0, .int (nI n)] (fun _ : Nat => True) (fun q => [(h, .inr (3, [.ref q])), (a, rc_ab cB n K), (q, rc_ab cB n (rc_cp K n))]) := by
  refine rc_ofv (by decide) (Nat.le_of_ble_eq_true rfl) ?_
  intro p e s m below meth c A ls hx hb hr hlocks hml hown hin hts hP hK hD hA hS hl
  have hown : s.vm.findClass RX3 = some m.cls := hown
  have hin : meth.name = "<init>" := hin
  have hl : lv_has ls 4 [(0, .ref h), (1, .ref a), (2, .int 0), (3, .int (nI n))] := hl
  have hn2 : n < 2 ^ 31 := rc_big (by omega)
  refine lv_aload_n hx hb dX3_init_2_0 rfl (lv_at hl 0 rfl) ?_
  refine lv_iload_n hx hb dX3_init_2_1 rfl (lv_at hl 3 rfl) ?_
  refine rc_cv (wc := [(h, .inr (3, [.null]))]) (wr := [(a, rc_ab cB n K)]) [0] [1] rfl rfl rfl (by decide) hP hD hS hA (va_runI (As := [.int (nI n)]) (rest := []) ⟨hx, hb, hml, hown, hts⟩ (metX3_init_3 l G cB cI h _ n hn) (cwI 1 hts (lw_meth q115) rfl rfl rfl (hts _ q12) (hts _ q113) (hts _ q114) rfl (by decide +kernel) ⟨Nat.le_of_ble_eq_true rfl, Nat.le_of_ble_eq_true rfl⟩) (rc_pre hK hP hD [0] rfl rfl) rfl rfl hl.1 rfl (lv_room (Nat.le_of_ble_eq_true rfl)) dX3_init_2_2 ⟨Nat.le_of_ble_eq_true rfl, Nat.le_of_ble_eq_true rfl⟩) (fun q H locs hq hP hD hS => ?_)
  have hP : va_P G rc_cl [(h, .inr (3, [.ref q])), (a, rc_ab cB n K), (q, rc_ab cB n (fun _ => 0))] H := hP.sub [1, 0, 2] rfl
  have hD : va_D A [(h, .inr (3, [.ref q])), (a, rc_ab cB n K), (q, rc_ab cB n (fun _ => 0))] := hD.sub [1, 0, 2] rfl rfl
  refine W.widen (k := 1) (n := 32) (by omega) (by omega) ?_
  refine lv_aload_n hx hb dX3_init_2_5 rfl (lv_at hl 1 rfl) ?_
  refine lv_iload_n hx hb dX3_init_2_6 rfl (lv_at hl 2 rfl) ?_
  refine lv_aload_n hx hb dX3_init_2_7 rfl (lv_at hl 0 rfl) ?_
  refine va_get (D := G) (ci := 3) (v := .ref q) (C := RX3) (T := TX3) (N := 1) hx hb hts in_X3 hown hK hP 0 rfl rfl 0 (by decide) (hts _ q117) (fun _ h9 => h9) rfl dX3_init_2_8 ?_
  refine lv_iconst (v := 0) hx hb dX3_init_2_11 (by decide) ?_
  refine lv_iload_n hx hb dX3_init_2_12 rfl (lv_at hl 3 rfl) ?_
  refine va_copyi hx hb (hml.trans hl.1.symm) hown (hts _ q121) (hts _ q123) (hts _ q122) (hts _ q13) hK hP hD hS 1 2 0 0 rfl rfl rfl rfl rfl (sp := 0) (dp := 0) (n := nI n) (by decide) (by decide) (nI_pos hn2) (by rw [rc_c0, nI_clamp hn2]; omega) (by rw [rc_c0, nI_clamp hn2]; omega) (fun i _ => rc_fit _) (Nat.le_of_ble_eq_true rfl) (Nat.le_of_ble_eq_true rfl) dX3_init_2_13 (fun H locs hP hD hS => ?_)
  rw [rc_c0, nI_clamp hn2, rc_cpy] at hP hD
  have hP : va_P G rc_cl [(h, .inr (3, [.ref q])), (a, rc_ab cB n K), (q, rc_ab cB n (rc_cp K n))] H := hP
  have hD : va_D A [(h, .inr (3, [.ref q])), (a, rc_ab cB n K), (q, rc_ab cB n (rc_cp K n))] := hD
  exact rc_vr hx hb hr hlocks q (trivial) (hP) (hD) hS (by omega) (by omega) dX3_init_2_16

set_option maxHeartbeats 4000000 in
set_option maxRecDepth 100000 in
/-- KeyParameter(byte[]): a copy -/
theorem metX3_init (l : Launch) (G : va_G) (cB cI : ClassId) (h a sz n : Nat) (K : Nat → By) (hn : n ≤ 32) : rc_Mv l yX3_init cX3_init 2 3 1 32 56 G cB cI [(h, .inr (3, [.null])), (a, rc_ab cB n K)] sz [.ref h, .ref a] (fun _ : Nat => True) (fun q => [(h, .inr (3, [.ref q])), (a, rc_ab cB n K), (q, rc_ab cB n (rc_cp K n))]) := by
  refine rc_ofv (by decide) (Nat.le_of_ble_eq_true rfl) ?_
  intro p e s m below meth c A ls hx hb hr hlocks hml hown hin hts hP hK hD hA hS hl
  have hown : s.vm.findClass RX3 = some m.cls := hown
  have hin : meth.name = "<init>" := hin
  have hl : lv_has ls 2 [(0, .ref h), (1, .ref a)] := hl
  refine lv_aload_n hx hb dX3_init_0 rfl (lv_at hl 0 rfl) ?_
  refine lv_aload_n hx hb dX3_init_1 rfl (lv_at hl 1 rfl) ?_
  refine lv_iconst (v := 0) hx hb dX3_init_2 (by decide) ?_
  refine lv_aload_n hx hb dX3_init_3 rfl (lv_at hl 1 rfl) ?_
  refine rc_lnB hx hb hK hP 1 rfl dX3_init_4 ?_
  refine rc_cv (wc := [(h, .inr (3, [.null])), (a, rc_ab cB n K)]) (wr := []) [0, 1] [] rfl rfl rfl (by decide) hP hD hS hA (va_runI (As := [.ref a, .int 0, .int (nI n)]) (rest := []) ⟨hx, hb, hml, hown, hts⟩ (metX3_init_2 l G cB cI h a _ n K hn) (cwI 3 hts (lw_meth q112) rfl rfl rfl (hts _ q12) (hts _ q110) (hts _ q111) rfl (by decide +kernel) ⟨Nat.le_of_ble_eq_true rfl, Nat.le_of_ble_eq_true rfl⟩) (rc_pre hK hP hD [0, 1] rfl rfl) rfl rfl hl.1 rfl (lv_room (Nat.le_of_ble_eq_true rfl)) dX3_init_5 ⟨Nat.le_of_ble_eq_true rfl, Nat.le_of_ble_eq_true rfl⟩) (fun q H locs hq hP hD hS => ?_)
  have hP : va_P G rc_cl [(h, .inr (3, [.ref q])), (a, rc_ab cB n K), (q, rc_ab cB n (rc_cp K n))] H := hP
  have hD : va_D A [(h, .inr (3, [.ref q])), (a, rc_ab cB n K), (q, rc_ab cB n (rc_cp K n))] := hD
  refine W.widen (k := 1) (n := 32) (by omega) (by omega) ?_
  exact rc_vr hx hb hr hlocks q (trivial) (hP) (hD) hS (by omega) (by omega) dX3_init_8

set_option maxHeartbeats 4000000 in
set_option maxRecDepth 100000 in
/-- getKey -/
theorem metX3_getKey (l : Launch) (G : va_G) (cB cI : ClassId) (h q sz : Nat) : rc_Mr l yX3_getKey cX3_getKey 1 (.array .byte) 0 0 0 0 G cB cI [(h, .inr (3, [.ref q]))] sz [.ref h] (q) ([(h, .inr (3, [.ref q]))]) := by
  refine rc_ofr (by decide) (Nat.le_of_ble_eq_true rfl) ?_
  intro p e s m below meth c A ls hx hb hr hlocks hml hown hin hts hP hK hD hA hS hl
  have hown : s.vm.findClass RX3 = some m.cls := hown
  have hl : lv_has ls 1 [(0, .ref h)] := hl
  refine lv_aload_n hx hb dX3_getKey_0 rfl (lv_at hl 0 rfl) ?_
  refine va_get (D := G) (ci := 3) (v := .ref q) (C := RX3) (T := TX3) (N := 1) hx hb hts in_X3 hown hK hP 0 rfl rfl 0 (by decide) (hts _ q117) (fun _ h9 => h9) rfl dX3_getKey_1 ?_
  exact rc_rr hx hb hr hlocks (hP) (hD) hS (by omega) (by omega) dX3_getKey_4

set_option maxHeartbeats 4000000 in
set_option maxRecDepth 100000 in
/-- RC4Engine(): nothing yet -/
theorem metX1_init (l : Launch) (G : va_G) (cB cI : ClassId) (h sz : Nat) : rc_Mv l yX1_init cX1_init 1 1 0 0 12 G cB cI [(h, .inr (1, [.null, .int 0, .int 0, .null, .int 0]))] sz [.ref h] (fun _ : Unit => True) (fun _ => [(h, .inr (1, [.null, .int 0, .int 0, .null, .int 0]))]) := by
  refine rc_ofv (by decide) (Nat.le_of_ble_eq_true rfl) ?_
  intro p e s m below meth c A ls hx hb hr hlocks hml hown hin hts hP hK hD hA hS hl
  have hown : s.vm.findClass RX1 = some m.cls := hown
  have hin : meth.name = "<init>" := hin
  have hl : lv_has ls 1 [(0, .ref h)] := hl
  refine lv_aload_n hx hb dX1_init_0 rfl (lv_at hl 0 rfl) ?_
  refine W.objInit hx hb hown (hts _ q34) (hts _ q27) (hts _ q28) rfl (by rw [hml]; exact hl.1) rfl dX1_init_1 (Nat.le_of_ble_eq_true rfl) (Nat.le_of_ble_eq_true rfl) ?_
  refine W.eq (g2 := F0 m 4 ls []) rfl ?_
  refine lv_aload_n hx hb dX1_init_4 rfl (lv_at hl 0 rfl) ?_
  refine lv_null hx hb dX1_init_5 ?_
  refine va_put (D := G) (ci := 1) (v := .null) (ty := .array .byte) (C := RX1) (T := TX1) (N := 5) hx hb hts in_X1 tyX1 tyX1_ok nmX1 hown hK hP hD hS 0 rfl rfl 0 (by decide) (hts _ q35) (fun _ h9 => h9) rfl (by decide +kernel) rfl rfl (Nat.le_of_ble_eq_true rfl) dX1_init_6 (fun H locs hP hD hS => ?_)
  have hP : va_P G rc_cl [(h, .inr (1, [.null, .int 0, .int 0, .null, .int 0]))] H := hP
  have hD : va_D A [(h, .inr (1, [.null, .int 0, .int 0, .null, .int 0]))] := hD
  refine lv_aload_n hx hb dX1_init_9 rfl (lv_at hl 0 rfl) ?_
  refine lv_iconst (v := 0) hx hb dX1_init_10 (by decide) ?_
  refine va_put (D := G) (ci := 1) (v := .int 0) (ty := .int) (C := RX1) (T := TX1) (N := 5) hx hb hts in_X1 tyX1 tyX1_ok nmX1 hown hK hP hD hS 0 rfl rfl 1 (by decide) (hts _ q36) (fun _ h9 => h9) rfl (by decide +kernel) rfl rfl (Nat.le_of_ble_eq_true rfl) dX1_init_11 (fun H locs hP hD hS => ?_)
  have hP : va_P G rc_cl [(h, .inr (1, [.null, .int 0, .int 0, .null, .int 0]))] H := hP
  have hD : va_D A [(h, .inr (1, [.null, .int 0, .int 0, .null, .int 0]))] := hD
  refine lv_aload_n hx hb dX1_init_14 rfl (lv_at hl 0 rfl) ?_
  refine lv_iconst (v := 0) hx hb dX1_init_15 (by decide) ?_
  refine va_put (D := G) (ci := 1) (v := .int 0) (ty := .int) (C := RX1) (T := TX1) (N := 5) hx hb hts in_X1 tyX1 tyX1_ok nmX1 hown hK hP hD hS 0 rfl rfl 2 (by decide) (hts _ q37) (fun _ h9 => h9) rfl (by decide +kernel) rfl rfl (Nat.le_of_ble_eq_true rfl) dX1_init_16 (fun H locs hP hD hS => ?_)
  have hP : va_P G rc_cl [(h, .inr (1, [.null, .int 0, .int 0, .null, .int 0]))] H := hP
  have hD : va_D A [(h, .inr (1, [.null, .int 0, .int 0, .null, .int 0]))] := hD
  refine lv_aload_n hx hb dX1_init_19 rfl (lv_at hl 0 rfl) ?_
  refine lv_null hx hb dX1_init_20 ?_
  refine va_put (D := G) (ci := 1) (v := .null) (ty := .array .byte) (C := RX1) (T := TX1) (N := 5) hx hb hts in_X1 tyX1 tyX1_ok nmX1 hown hK hP hD hS 0 rfl rfl 3 (by decide) (hts _ q38) (fun _ h9 => h9) rfl (by decide +kernel) rfl rfl (Nat.le_of_ble_eq_true rfl) dX1_init_21 (fun H locs hP hD hS => ?_)
  have hP : va_P G rc_cl [(h, .inr (1, [.null, .int 0, .int 0, .null, .int 0]))] H := hP
  have hD : va_D A [(h, .inr (1, [.null, .int 0, .int 0, .null, .int 0]))] := hD
  exact rc_vr hx hb hr hlocks () (trivial) (hP) (hD) hS (by omega) (by omega) dX1_init_24
end
section
/-! RC4Engine.setKey, its loops -/
set_option maxHeartbeats 4000000 in
set_option maxRecDepth 100000 in
/-- setKey, first loop: 0, 1, 2, .. 255 -/
theorem lpX1_fill {p : Program} {l : Launch} {e : Env} {s : State} {m : MethodId} {args : Array Value} {below : List Frame} {meth : Method} {c : Code} {R : Room} {cells slots : Nat} {Q : State → Prop} {G : va_G} {cB cI : ClassId} {A : Nat → Prop} (hx : p.tables.exec = Jvm.exec) (hb : c.code = cX1_setKey) (hml : c.maxLocals = 6) (hown : s.vm.findClass RX1 = some m.cls) (hts : ∀ w ∈ lw_all, w.before args s = true) (hK : va_K G rc_cl (rc_ty cB cI) s) (hA : ∀ q : Nat, s.heap.size ≤ q → A q) (h w st n : Nat) (U : Nat → By) (fe : Value) (S : Nat → By)
    (hexit : ∀ (H : Heap) (locs : List Loc) (ls : Array Slot), va_P G rc_cl [(h, .inr (1, [.ref st, .int (rc_z 0), .int (rc_z 0), .ref w, fe])), (w, rc_ab cB n U), (st, rc_ab cB 256 (rc_fl S 256))] H → va_D A [(h, .inr (1, [.ref st, .int (rc_z 0), .int (rc_z 0), .ref w, fe])), (w, rc_ab cB n U), (st, rc_ab cB 256 (rc_fl S 256))] → va_S A s.heap H locs → lv_has ls 6 [(0, .ref h), (1, .ref w), (2, .int (nI 256))] → W p l e R s m args below meth c H locs cells slots Q (F0 m 54 ls [])) :
    ∀ (d k : Nat), k + d = 256 → ∀ (H : Heap) (locs : List Loc) (ls : Array Slot), va_P G rc_cl [(h, .inr (1, [.ref st, .int (rc_z 0), .int (rc_z 0), .ref w, fe])), (w, rc_ab cB n U), (st, rc_ab cB 256 (rc_fl S k))] H → va_D A [(h, .inr (1, [.ref st, .int (rc_z 0), .int (rc_z 0), .ref w, fe])), (w, rc_ab cB n U), (st, rc_ab cB 256 (rc_fl S k))] → va_S A s.heap H locs → lv_has ls 6 [(0, .ref h), (1, .ref w), (2, .int (nI k))] → W p l e R s m args below meth c H locs cells slots Q (F0 m 33 ls []) := by
  intro d
  induction d with
  | zero =>
    intro k hk H locs ls hP hD hS hl
    obtain rfl : k = 256 := by omega
    refine lv_iload_n hx hb dX1_setKey_33 rfl (lv_at hl 2 rfl) ?_
    refine lv_sipush (v := 256) hx hb dX1_setKey_34 (by decide) ?_
    refine lv_icmp_ge (tgt := 54) hx hb dX1_setKey_37 (by decide) (fun _ => ?_) (fun h9 => absurd (by decide +kernel) h9)
    exact hexit H locs ls hP hD hS hl
  | succ d ih =>
    intro k hk H locs ls hP hD hS hl
    refine lv_iload_n hx hb dX1_setKey_33 rfl (lv_at hl 2 rfl) ?_
    refine lv_sipush (v := 256) hx hb dX1_setKey_34 (by decide) ?_
    refine lv_icmp_ge (tgt := 54) hx hb dX1_setKey_37 (by decide) (fun h9 => absurd h9 (fun h9 => absurd ((rc_nle (a := 256) (by omega) (by omega)).mp h9) (by omega))) (fun _ => ?_)
    refine lv_aload_n hx hb dX1_setKey_40 rfl (lv_at hl 0 rfl) ?_
    refine va_get (D := G) (ci := 1) (v := .ref st) (C := RX1) (T := TX1) (N := 5) hx hb hts in_X1 hown hK hP 0 rfl rfl 0 (by decide) (hts _ q35) (fun _ h9 => h9) rfl dX1_setKey_41 ?_
    refine lv_iload_n hx hb dX1_setKey_44 rfl (lv_at hl 2 rfl) ?_
    refine lv_iload_n hx hb dX1_setKey_45 rfl (lv_at hl 2 rfl) ?_
    refine lv_i2b (v := rc_s (BitVec.ofNat 8 k)) hx hb dX1_setKey_46 (by rw [rc_i2b, rc_lo_nI]) ?_
    refine rc_bst hx hb hK hP hD hS 2 rfl k (rfl) (by omega) (Nat.le_of_ble_eq_true rfl) (BitVec.ofNat 8 k) (rfl) dX1_setKey_47 (fun H locs hP hD hS => ?_)
    have hP : va_P G rc_cl [(h, .inr (1, [.ref st, .int (rc_z 0), .int (rc_z 0), .ref w, fe])), (w, rc_ab cB n U), (st, rc_ab cB 256 (rc_up (rc_fl S k) k (BitVec.ofNat 8 k)))] H := hP
    have hD : va_D A [(h, .inr (1, [.ref st, .int (rc_z 0), .int (rc_z 0), .ref w, fe])), (w, rc_ab cB n U), (st, rc_ab cB 256 (rc_up (rc_fl S k) k (BitVec.ofNat 8 k)))] := hD
    rw [rc_fl_up] at hP hD
    have hP : va_P G rc_cl [(h, .inr (1, [.ref st, .int (rc_z 0), .int (rc_z 0), .ref w, fe])), (w, rc_ab cB n U), (st, rc_ab cB 256 (rc_fl S (k + 1)))] H := hP
    have hD : va_D A [(h, .inr (1, [.ref st, .int (rc_z 0), .int (rc_z 0), .ref w, fe])), (w, rc_ab cB n U), (st, rc_ab cB 256 (rc_fl S (k + 1)))] := hD
    refine lv_iinc (v := nI (k + 1)) (lv' := [(2, .int (nI (k + 1))), (0, .ref h), (1, .ref w)]) hx hb dX1_setKey_48 hl (k := 2) rfl (nI_1 k) (by decide) rfl (fun ls hl => ?_)
    refine lv_goto (tgt := 33) hx hb dX1_setKey_51 (by decide) ?_
    exact ih (k + 1) (by omega) H locs ls hP hD hS (lv_sub hl [1, 2, 0] rfl)

set_option maxHeartbeats 4000000 in
set_option maxRecDepth 100000 in
/-- setKey, second loop: one round -/
theorem stX1_ks {p : Program} {l : Launch} {e : Env} {s : State} {m : MethodId} {args : Array Value} {below : List Frame} {meth : Method} {c : Code} {R : Room} {cells slots : Nat} {Q : State → Prop} {G : va_G} {cB cI : ClassId} {A : Nat → Prop} (hx : p.tables.exec = Jvm.exec) (hb : c.code = cX1_setKey) (hml : c.maxLocals = 6) (hown : s.vm.findClass RX1 = some m.cls) (hts : ∀ w ∈ lw_all, w.before args s = true) (hK : va_K G rc_cl (rc_ty cB cI) s) (hA : ∀ q : Nat, s.heap.size ≤ q → A q) (h w st n : Nat) (U : Nat → By) (fe : Value) (hn0 : 0 < n) (hn : n ≤ 32) (S : Nat → By) (j : By) (k : Nat) (hk : k < 256)
    (kk : ∀ (H : Heap) (locs : List Loc) (ls : Array Slot), va_P G rc_cl [(h, .inr (1, [.ref st, .int (rc_z 0), .int (rc_z 0), .ref w, fe])), (w, rc_ab cB n U), (st, rc_ab cB 256 (rc_sw S k (j + S k + U (k % n)).toNat))] H → va_D A [(h, .inr (1, [.ref st, .int (rc_z 0), .int (rc_z 0), .ref w, fe])), (w, rc_ab cB n U), (st, rc_ab cB 256 (rc_sw S k (j + S k + U (k % n)).toNat))] → va_S A s.heap H locs → lv_has ls 6 [(0, .ref h), (1, .ref w), (2, .int (nI ((k + 1) % n))), (3, .int (rc_z (j + S k + U (k % n)))), (4, .int (nI (k + 1)))] → W p l e R s m args below meth c H locs cells slots Q (F0 m 61 ls [])) :
    ∀ (H : Heap) (locs : List Loc) (ls : Array Slot), va_P G rc_cl [(h, .inr (1, [.ref st, .int (rc_z 0), .int (rc_z 0), .ref w, fe])), (w, rc_ab cB n U), (st, rc_ab cB 256 S)] H → va_D A [(h, .inr (1, [.ref st, .int (rc_z 0), .int (rc_z 0), .ref w, fe])), (w, rc_ab cB n U), (st, rc_ab cB 256 S)] → va_S A s.heap H locs → lv_has ls 6 [(0, .ref h), (1, .ref w), (2, .int (nI (k % n))), (3, .int (rc_z j)), (4, .int (nI k))] → W p l e R s m args below meth c H locs cells slots Q (F0 m 61 ls []) := by
  intro H locs ls hP hD hS hl
  refine lv_iload hx hb dX1_setKey_61 (lv_at hl 4 rfl) ?_
  refine lv_sipush (v := 256) hx hb dX1_setKey_63 (by decide) ?_
  refine lv_icmp_ge (tgt := 134) hx hb dX1_setKey_66 (by decide) (fun h9 => absurd h9 (fun h9 => absurd ((rc_nle (a := 256) (by omega) (by omega)).mp h9) (by omega))) (fun _ => ?_)
  refine lv_aload_n hx hb dX1_setKey_69 rfl (lv_at hl 1 rfl) ?_
  refine lv_iload_n hx hb dX1_setKey_70 rfl (lv_at hl 2 rfl) ?_
  refine rc_bld hx hb hK hP 1 rfl (k % n) (rfl) (Nat.mod_lt _ hn0) (by omega) dX1_setKey_71 ?_
  refine lv_sipush (v := 255) hx hb dX1_setKey_72 (by decide) ?_
  refine lv_iand hx hb dX1_setKey_75 ?_
  refine rc_ti (y := rc_z (U (k % n))) (rc_s_and _) ?_
  refine lv_aload_n hx hb dX1_setKey_76 rfl (lv_at hl 0 rfl) ?_
  refine va_get (D := G) (ci := 1) (v := .ref st) (C := RX1) (T := TX1) (N := 5) hx hb hts in_X1 hown hK hP 0 rfl rfl 0 (by decide) (hts _ q35) (fun _ h9 => h9) rfl dX1_setKey_77 ?_
  refine lv_iload hx hb dX1_setKey_80 (lv_at hl 4 rfl) ?_
  refine rc_bld hx hb hK hP 2 rfl k (rfl) (hk) (Nat.le_of_ble_eq_true rfl) dX1_setKey_82 ?_
  refine lv_iadd hx hb dX1_setKey_83 ?_
  refine lv_iload_n hx hb dX1_setKey_84 rfl (lv_at hl 3 rfl) ?_
  refine lv_iadd hx hb dX1_setKey_85 ?_
  refine lv_sipush (v := 255) hx hb dX1_setKey_86 (by decide) ?_
  refine lv_iand hx hb dX1_setKey_89 ?_
  refine rc_ti (y := rc_z (j + S k + U (k % n))) (rc_ksz_and _ _ _) ?_
  refine lv_istore_n (lv' := [(3, .int (rc_z (j + S k + U (k % n)))), (0, .ref h), (1, .ref w), (2, .int (nI (k % n))), (4, .int (nI k))]) hx hb dX1_setKey_90 rfl hl (by decide) rfl (fun ls hl => ?_)
  refine lv_aload_n hx hb dX1_setKey_91 rfl (lv_at hl 1 rfl) ?_
  refine va_get (D := G) (ci := 1) (v := .ref st) (C := RX1) (T := TX1) (N := 5) hx hb hts in_X1 hown hK hP 0 rfl rfl 0 (by decide) (hts _ q35) (fun _ h9 => h9) rfl dX1_setKey_92 ?_
  refine lv_iload hx hb dX1_setKey_95 (lv_at hl 4 rfl) ?_
  refine rc_bld hx hb hK hP 2 rfl k (rfl) (hk) (Nat.le_of_ble_eq_true rfl) dX1_setKey_97 ?_
  refine lv_istore (lv' := [(5, .int (rc_s (S k))), (3, .int (rc_z (j + S k + U (k % n)))), (0, .ref h), (1, .ref w), (2, .int (nI (k % n))), (4, .int (nI k))]) hx hb dX1_setKey_98 hl (by decide) rfl (fun ls hl => ?_)
  refine lv_aload_n hx hb dX1_setKey_100 rfl (lv_at hl 2 rfl) ?_
  refine va_get (D := G) (ci := 1) (v := .ref st) (C := RX1) (T := TX1) (N := 5) hx hb hts in_X1 hown hK hP 0 rfl rfl 0 (by decide) (hts _ q35) (fun _ h9 => h9) rfl dX1_setKey_101 ?_
  refine lv_iload hx hb dX1_setKey_104 (lv_at hl 5 rfl) ?_
  refine lv_aload_n hx hb dX1_setKey_106 rfl (lv_at hl 2 rfl) ?_
  refine va_get (D := G) (ci := 1) (v := .ref st) (C := RX1) (T := TX1) (N := 5) hx hb hts in_X1 hown hK hP 0 rfl rfl 0 (by decide) (hts _ q35) (fun _ h9 => h9) rfl dX1_setKey_107 ?_
  refine lv_iload_n hx hb dX1_setKey_110 rfl (lv_at hl 1 rfl) ?_
  refine rc_bld hx hb hK hP 2 rfl ((j + S k + U (k % n)).toNat) (rfl) (rc_z_lt _) (Nat.le_of_ble_eq_true rfl) dX1_setKey_111 ?_
  refine rc_bst hx hb hK hP hD hS 2 rfl k (rfl) (hk) (Nat.le_of_ble_eq_true rfl) (S (j + S k + U (k % n)).toNat) (rfl) dX1_setKey_112 (fun H locs hP hD hS => ?_)
  have hP : va_P G rc_cl [(h, .inr (1, [.ref st, .int (rc_z 0), .int (rc_z 0), .ref w, fe])), (w, rc_ab cB n U), (st, rc_ab cB 256 (rc_up S k (S (j + S k + U (k % n)).toNat)))] H := hP
  have hD : va_D A [(h, .inr (1, [.ref st, .int (rc_z 0), .int (rc_z 0), .ref w, fe])), (w, rc_ab cB n U), (st, rc_ab cB 256 (rc_up S k (S (j + S k + U (k % n)).toNat)))] := hD
  refine lv_aload_n hx hb dX1_setKey_113 rfl (lv_at hl 2 rfl) ?_
  refine va_get (D := G) (ci := 1) (v := .ref st) (C := RX1) (T := TX1) (N := 5) hx hb hts in_X1 hown hK hP 0 rfl rfl 0 (by decide) (hts _ q35) (fun _ h9 => h9) rfl dX1_setKey_114 ?_
  refine lv_iload_n hx hb dX1_setKey_117 rfl (lv_at hl 1 rfl) ?_
  refine lv_iload hx hb dX1_setKey_118 (lv_at hl 0 rfl) ?_
  refine rc_bst hx hb hK hP hD hS 2 rfl ((j + S k + U (k % n)).toNat) (rfl) (rc_z_lt _) (Nat.le_of_ble_eq_true rfl) (S k) (rfl) dX1_setKey_120 (fun H locs hP hD hS => ?_)
  have hP : va_P G rc_cl [(h, .inr (1, [.ref st, .int (rc_z 0), .int (rc_z 0), .ref w, fe])), (w, rc_ab cB n U), (st, rc_ab cB 256 (rc_sw S k (j + S k + U (k % n)).toNat))] H := hP
  have hD : va_D A [(h, .inr (1, [.ref st, .int (rc_z 0), .int (rc_z 0), .ref w, fe])), (w, rc_ab cB n U), (st, rc_ab cB 256 (rc_sw S k (j + S k + U (k % n)).toNat))] := hD
  refine lv_iload_n hx hb dX1_setKey_121 rfl (lv_at hl 4 rfl) ?_
  refine lv_iconst (v := 1) hx hb dX1_setKey_122 (by decide) ?_
  refine lv_iadd hx hb dX1_setKey_123 ?_
  refine rc_ti (y := nI (k % n + 1)) (nI_1 _) ?_
  refine lv_aload_n hx hb dX1_setKey_124 rfl (lv_at hl 3 rfl) ?_
  refine rc_lnB hx hb hK hP 1 rfl dX1_setKey_125 ?_
  refine lv_irem hx hb dX1_setKey_126 (nI_ne0 hn0 (rc_big (by omega))) ?_
  refine rc_ti (y := nI ((k + 1) % n)) ((pk_rem (a := k % n + 1) (d := n) (rc_big (by have := Nat.mod_lt k hn0; omega)) hn0 (rc_big (by omega))).trans (by rw [Nat.mod_add_mod])) ?_
  refine lv_istore_n (lv' := [(2, .int (nI ((k + 1) % n))), (5, .int (rc_s (S k))), (3, .int (rc_z (j + S k + U (k % n)))), (0, .ref h), (1, .ref w), (4, .int (nI k))]) hx hb dX1_setKey_127 rfl hl (by decide) rfl (fun ls hl => ?_)
  refine lv_iinc (v := nI (k + 1)) (lv' := [(4, .int (nI (k + 1))), (2, .int (nI ((k + 1) % n))), (5, .int (rc_s (S k))), (3, .int (rc_z (j + S k + U (k % n)))), (0, .ref h), (1, .ref w)]) hx hb dX1_setKey_128 hl (k := 5) rfl (nI_1 k) (by decide) rfl (fun ls hl => ?_)
  refine lv_goto (tgt := 61) hx hb dX1_setKey_131 (by decide) ?_
  exact kk H locs ls hP hD hS (lv_sub hl [4, 5, 1, 3, 0] rfl)

set_option maxHeartbeats 4000000 in
set_option maxRecDepth 100000 in
/-- setKey, second loop -/
theorem lpX1_ks {p : Program} {l : Launch} {e : Env} {s : State} {m : MethodId} {args : Array Value} {below : List Frame} {meth : Method} {c : Code} {R : Room} {cells slots : Nat} {Q : State → Prop} {G : va_G} {cB cI : ClassId} {A : Nat → Prop} (hx : p.tables.exec = Jvm.exec) (hb : c.code = cX1_setKey) (hml : c.maxLocals = 6) (hown : s.vm.findClass RX1 = some m.cls) (hts : ∀ w ∈ lw_all, w.before args s = true) (hK : va_K G rc_cl (rc_ty cB cI) s) (hA : ∀ q : Nat, s.heap.size ≤ q → A q) (h w st n : Nat) (U : Nat → By) (fe : Value) (hn0 : 0 < n) (hn : n ≤ 32)
    (hexit : ∀ (H : Heap) (locs : List Loc) (ls : Array Slot), va_P G rc_cl [(h, .inr (1, [.ref st, .int (rc_z 0), .int (rc_z 0), .ref w, fe])), (w, rc_ab cB n U), (st, rc_ab cB 256 ((rc_ks U n 256).1))] H → va_D A [(h, .inr (1, [.ref st, .int (rc_z 0), .int (rc_z 0), .ref w, fe])), (w, rc_ab cB n U), (st, rc_ab cB 256 ((rc_ks U n 256).1))] → va_S A s.heap H locs → W p l e R s m args below meth c H locs cells slots Q (F0 m 134 ls [])) :
    ∀ (d k : Nat), k + d = 256 → ∀ (H : Heap) (locs : List Loc) (ls : Array Slot), va_P G rc_cl [(h, .inr (1, [.ref st, .int (rc_z 0), .int (rc_z 0), .ref w, fe])), (w, rc_ab cB n U), (st, rc_ab cB 256 ((rc_ks U n k).1))] H → va_D A [(h, .inr (1, [.ref st, .int (rc_z 0), .int (rc_z 0), .ref w, fe])), (w, rc_ab cB n U), (st, rc_ab cB 256 ((rc_ks U n k).1))] → va_S A s.heap H locs → lv_has ls 6 [(0, .ref h), (1, .ref w), (2, .int (nI (k % n))), (3, .int (rc_z (rc_ks U n k).2)), (4, .int (nI k))] → W p l e R s m args below meth c H locs cells slots Q (F0 m 61 ls []) := by
  intro d
  induction d with
  | zero =>
    intro k hk H locs ls hP hD hS hl
    obtain rfl : k = 256 := by omega
    refine lv_iload hx hb dX1_setKey_61 (lv_at hl 4 rfl) ?_
    refine lv_sipush (v := 256) hx hb dX1_setKey_63 (by decide) ?_
    refine lv_icmp_ge (tgt := 134) hx hb dX1_setKey_66 (by decide) (fun _ => ?_) (fun h9 => absurd (by decide +kernel) h9)
    exact hexit H locs ls hP hD hS
  | succ d ih =>
    intro k hk
    exact stX1_ks hx hb hml hown hts hK hA h w st n U fe hn0 hn (rc_ks U n k).1 (rc_ks U n k).2 k (by omega) (ih (k + 1) (by omega))

set_option maxHeartbeats 4000000 in
set_option maxRecDepth 100000 in
/-- setKey from its first loop on -/
theorem wkX1_setKey {p : Program} {l : Launch} {e : Env} {s : State} {m : MethodId} {args : Array Value} {below : List Frame} {meth : Method} {c : Code} {R : Room} {cells slots : Nat} {Q : State → Prop} {G : va_G} {cB cI : ClassId} {A : Nat → Prop} (hx : p.tables.exec = Jvm.exec) (hb : c.code = cX1_setKey) (hml : c.maxLocals = 6) (hown : s.vm.findClass RX1 = some m.cls) (hts : ∀ w ∈ lw_all, w.before args s = true) (hK : va_K G rc_cl (rc_ty cB cI) s) (hA : ∀ q : Nat, s.heap.size ≤ q → A q) (h w st n : Nat) (U : Nat → By) (fe : Value) (hn0 : 0 < n) (hn : n ≤ 32) (S : Nat → By)
    (hexit : ∀ (H : Heap) (locs : List Loc) (ls : Array Slot), va_P G rc_cl [(h, .inr (1, [.ref st, .int (rc_z 0), .int (rc_z 0), .ref w, fe])), (w, rc_ab cB n U), (st, rc_ab cB 256 ((rc_ks U n 256).1))] H → va_D A [(h, .inr (1, [.ref st, .int (rc_z 0), .int (rc_z 0), .ref w, fe])), (w, rc_ab cB n U), (st, rc_ab cB 256 ((rc_ks U n 256).1))] → va_S A s.heap H locs → W p l e R s m args below meth c H locs cells slots Q (F0 m 134 ls [])) :
    ∀ (H : Heap) (locs : List Loc) (ls : Array Slot), va_P G rc_cl [(h, .inr (1, [.ref st, .int (rc_z 0), .int (rc_z 0), .ref w, fe])), (w, rc_ab cB n U), (st, rc_ab cB 256 S)] H → va_D A [(h, .inr (1, [.ref st, .int (rc_z 0), .int (rc_z 0), .ref w, fe])), (w, rc_ab cB n U), (st, rc_ab cB 256 S)] → va_S A s.heap H locs → lv_has ls 6 [(0, .ref h), (1, .ref w)] → W p l e R s m args below meth c H locs cells slots Q (F0 m 31 ls []) := by
  intro H locs ls hP hD hS hl
  refine lv_iconst (v := 0) hx hb dX1_setKey_31 (by decide) ?_
  refine rc_ti (y := nI 0) (nI_0.symm) ?_
  refine lv_istore_n (lv' := [(2, .int (nI 0)), (0, .ref h), (1, .ref w)]) hx hb dX1_setKey_32 rfl hl (by decide) rfl (fun ls hl => ?_)
  refine lpX1_fill hx hb hml hown hts hK hA h w st n U fe S (fun H locs ls hP hD hS hl => ?_) 256 0 rfl H locs ls (by rw [rc_fl_0]; exact hP) (by rw [rc_fl_0]; exact hD) hS (lv_sub hl [1, 2, 0] rfl)
  have hP := rc_Pcg (g := rc_bs (rc_ks U n 0).1) hP 2 rfl (fun j hj => congrArg rc_s (rc_fl_end S U n j hj))
  have hD := hD.set (p := 2) (e := rc_ab cB 256 (rc_ks U n 0).1) rfl
  have hP : va_P G rc_cl [(h, .inr (1, [.ref st, .int (rc_z 0), .int (rc_z 0), .ref w, fe])), (w, rc_ab cB n U), (st, rc_ab cB 256 ((rc_ks U n 0).1))] H := hP
  have hD : va_D A [(h, .inr (1, [.ref st, .int (rc_z 0), .int (rc_z 0), .ref w, fe])), (w, rc_ab cB n U), (st, rc_ab cB 256 ((rc_ks U n 0).1))] := hD
  refine lv_iconst (v := 0) hx hb dX1_setKey_54 (by decide) ?_
  refine rc_ti (y := nI (0 % n)) (by rw [Nat.zero_mod]; exact nI_0.symm) ?_
  refine lv_istore_n (lv' := [(2, .int (nI (0 % n))), (0, .ref h), (1, .ref w)]) hx hb dX1_setKey_55 rfl hl (by decide) rfl (fun ls hl => ?_)
  refine lv_iconst (v := 0) hx hb dX1_setKey_56 (by decide) ?_
  refine rc_ti (y := rc_z 0) (rc_z_0.symm) ?_
  refine lv_istore_n (lv' := [(3, .int (rc_z 0)), (2, .int (nI (0 % n))), (0, .ref h), (1, .ref w)]) hx hb dX1_setKey_57 rfl hl (by decide) rfl (fun ls hl => ?_)
  refine lv_iconst (v := 0) hx hb dX1_setKey_58 (by decide) ?_
  refine rc_ti (y := nI 0) (nI_0.symm) ?_
  refine lv_istore (lv' := [(4, .int (nI 0)), (3, .int (rc_z 0)), (2, .int (nI (0 % n))), (0, .ref h), (1, .ref w)]) hx hb dX1_setKey_59 hl (by decide) rfl (fun ls hl => ?_)
  exact lpX1_ks hx hb hml hown hts hK hA h w st n U fe hn0 hn hexit 256 0 rfl H locs ls hP hD hS (lv_sub hl [3, 4, 2, 1, 0] rfl)
end
section
/-! RC4Engine.setKey, reset, init, the stream -/
set_option maxHeartbeats 4000000 in
set_option maxRecDepth 100000 in
/-- setKey on an engine without a state -/
theorem metX1_setKey_n (l : Launch) (G : va_G) (cB cI : ClassId) (h w sz n : Nat) (U : Nat → By) (x y v fe : Value) (hn0 : 0 < n) (hn : n ≤ 32) : rc_Mv l yX1_setKey cX1_setKey 6 0 1 256 0 G cB cI [(h, .inr (1, [.null, x, y, v, fe])), (w, rc_ab cB n U)] sz [.ref h, .ref w] (fun _ : Nat => True) (fun st => [(h, .inr (1, [.ref st, .int (rc_z 0), .int (rc_z 0), .ref w, fe])), (w, rc_ab cB n U), (st, rc_ab cB 256 ((rc_ks U n 256).1))]) := by
  refine rc_ofv (by decide) (Nat.le_of_ble_eq_true rfl) ?_
  intro p e s m below meth c A ls hx hb hr hlocks hml hown hin hts hP hK hD hA hS hl
  have hown : s.vm.findClass RX1 = some m.cls := hown
  have hl : lv_has ls 6 [(0, .ref h), (1, .ref w)] := hl
  refine lv_aload_n hx hb dX1_setKey_0 rfl (lv_at hl 0 rfl) ?_
  refine lv_aload_n hx hb dX1_setKey_1 rfl (lv_at hl 1 rfl) ?_
  refine va_put (D := G) (ci := 1) (v := .ref w) (ty := .array .byte) (C := RX1) (T := TX1) (N := 5) hx hb hts in_X1 tyX1 tyX1_ok nmX1 hown hK hP hD hS 0 rfl rfl 3 (by decide) (hts _ q38) (fun _ h9 => h9) rfl (by decide +kernel) rfl rfl (Nat.le_of_ble_eq_true rfl) dX1_setKey_2 (fun H locs hP hD hS => ?_)
  have hP : va_P G rc_cl [(h, .inr (1, [.null, x, y, .ref w, fe])), (w, rc_ab cB n U)] H := hP
  have hD : va_D A [(h, .inr (1, [.null, x, y, .ref w, fe])), (w, rc_ab cB n U)] := hD
  refine lv_aload_n hx hb dX1_setKey_5 rfl (lv_at hl 0 rfl) ?_
  refine lv_iconst (v := 0) hx hb dX1_setKey_6 (by decide) ?_
  refine rc_ti (y := rc_z 0) (rc_z_0.symm) ?_
  refine va_put (D := G) (ci := 1) (v := .int (rc_z 0)) (ty := .int) (C := RX1) (T := TX1) (N := 5) hx hb hts in_X1 tyX1 tyX1_ok nmX1 hown hK hP hD hS 0 rfl rfl 1 (by decide) (hts _ q36) (fun _ h9 => h9) rfl (by decide +kernel) rfl rfl (Nat.le_of_ble_eq_true rfl) dX1_setKey_7 (fun H locs hP hD hS => ?_)
  have hP : va_P G rc_cl [(h, .inr (1, [.null, .int (rc_z 0), y, .ref w, fe])), (w, rc_ab cB n U)] H := hP
  have hD : va_D A [(h, .inr (1, [.null, .int (rc_z 0), y, .ref w, fe])), (w, rc_ab cB n U)] := hD
  refine lv_aload_n hx hb dX1_setKey_10 rfl (lv_at hl 0 rfl) ?_
  refine lv_iconst (v := 0) hx hb dX1_setKey_11 (by decide) ?_
  refine rc_ti (y := rc_z 0) (rc_z_0.symm) ?_
  refine va_put (D := G) (ci := 1) (v := .int (rc_z 0)) (ty := .int) (C := RX1) (T := TX1) (N := 5) hx hb hts in_X1 tyX1 tyX1_ok nmX1 hown hK hP hD hS 0 rfl rfl 2 (by decide) (hts _ q37) (fun _ h9 => h9) rfl (by decide +kernel) rfl rfl (Nat.le_of_ble_eq_true rfl) dX1_setKey_12 (fun H locs hP hD hS => ?_)
  have hP : va_P G rc_cl [(h, .inr (1, [.null, .int (rc_z 0), .int (rc_z 0), .ref w, fe])), (w, rc_ab cB n U)] H := hP
  have hD : va_D A [(h, .inr (1, [.null, .int (rc_z 0), .int (rc_z 0), .ref w, fe])), (w, rc_ab cB n U)] := hD
  refine lv_aload_n hx hb dX1_setKey_15 rfl (lv_at hl 0 rfl) ?_
  refine va_get (D := G) (ci := 1) (v := .null) (C := RX1) (T := TX1) (N := 5) hx hb hts in_X1 hown hK hP 0 rfl rfl 0 (by decide) (hts _ q35) (fun _ h9 => h9) rfl dX1_setKey_16 ?_
  refine lv_ifnonnullN hx hb dX1_setKey_19 ?_
  refine lv_aload_n hx hb dX1_setKey_22 rfl (lv_at hl 0 rfl) ?_
  refine lv_sipush (v := 256) hx hb dX1_setKey_23 (by decide) ?_
  refine rc_nwB hx hb (hts _ q76) hK hP hD hS hA 256 (by decide) (Nat.le_of_ble_eq_true rfl) (Nat.le_of_ble_eq_true rfl) (Nat.le_of_ble_eq_true rfl) dX1_setKey_26 (fun st H hP hD hS => ?_)
  have hP : va_P G rc_cl [(h, .inr (1, [.null, .int (rc_z 0), .int (rc_z 0), .ref w, fe])), (w, rc_ab cB n U), (st, rc_ab cB 256 (fun _ => 0))] H := hP
  have hD : va_D A [(h, .inr (1, [.null, .int (rc_z 0), .int (rc_z 0), .ref w, fe])), (w, rc_ab cB n U), (st, rc_ab cB 256 (fun _ => 0))] := hD
  refine W.widen (k := 1) (n := 256) (by omega) (by omega) ?_
  refine va_put (D := G) (ci := 1) (v := .ref st) (ty := .array .byte) (C := RX1) (T := TX1) (N := 5) hx hb hts in_X1 tyX1 tyX1_ok nmX1 hown hK hP hD hS 0 rfl rfl 0 (by decide) (hts _ q35) (fun _ h9 => h9) rfl (by decide +kernel) rfl rfl (Nat.le_of_ble_eq_true rfl) dX1_setKey_28 (fun H locs hP hD hS => ?_)
  have hP : va_P G rc_cl [(h, .inr (1, [.ref st, .int (rc_z 0), .int (rc_z 0), .ref w, fe])), (w, rc_ab cB n U), (st, rc_ab cB 256 (fun _ => 0))] H := hP
  have hD : va_D A [(h, .inr (1, [.ref st, .int (rc_z 0), .int (rc_z 0), .ref w, fe])), (w, rc_ab cB n U), (st, rc_ab cB 256 (fun _ => 0))] := hD
  have hP : va_P G rc_cl [(h, .inr (1, [.ref st, .int (rc_z 0), .int (rc_z 0), .ref w, fe])), (w, rc_ab cB n U), (st, rc_ab cB 256 (fun _ => 0))] H := hP
  have hD : va_D A [(h, .inr (1, [.ref st, .int (rc_z 0), .int (rc_z 0), .ref w, fe])), (w, rc_ab cB n U), (st, rc_ab cB 256 (fun _ => 0))] := hD
  refine wkX1_setKey (cells := 1) (slots := 256) hx hb hml hown hts hK hA h w st n U fe hn0 hn (fun _ => 0) (fun H locs ls hP hD hS => ?_) H locs ls hP hD hS (lv_sub hl [0, 1] rfl)
  have hP : va_P G rc_cl [(h, .inr (1, [.ref st, .int (rc_z 0), .int (rc_z 0), .ref w, fe])), (w, rc_ab cB n U), (st, rc_ab cB 256 ((rc_ks U n 256).1))] H := hP
  have hD : va_D A [(h, .inr (1, [.ref st, .int (rc_z 0), .int (rc_z 0), .ref w, fe])), (w, rc_ab cB n U), (st, rc_ab cB 256 ((rc_ks U n 256).1))] := hD
  exact rc_vr hx hb hr hlocks st (trivial) (hP) (hD) hS (by omega) (by omega) dX1_setKey_134

set_option maxHeartbeats 4000000 in
set_option maxRecDepth 100000 in
/-- setKey on an engine with a state -/
theorem metX1_setKey_s (l : Launch) (G : va_G) (cB cI : ClassId) (h w st sz n : Nat) (U S : Nat → By) (x y v fe : Value) (hn0 : 0 < n) (hn : n ≤ 32) : rc_Mv l yX1_setKey cX1_setKey 6 0 0 0 0 G cB cI [(h, .inr (1, [.ref st, x, y, v, fe])), (w, rc_ab cB n U), (st, rc_ab cB 256 S)] sz [.ref h, .ref w] (fun _ : Unit => True) (fun _ => [(h, .inr (1, [.ref st, .int (rc_z 0), .int (rc_z 0), .ref w, fe])), (w, rc_ab cB n U), (st, rc_ab cB 256 ((rc_ks U n 256).1))]) := by
  refine rc_ofv (by decide) (Nat.le_of_ble_eq_true rfl) ?_
  intro p e s m below meth c A ls hx hb hr hlocks hml hown hin hts hP hK hD hA hS hl
  have hown : s.vm.findClass RX1 = some m.cls := hown
  have hl : lv_has ls 6 [(0, .ref h), (1, .ref w)] := hl
  refine lv_aload_n hx hb dX1_setKey_0 rfl (lv_at hl 0 rfl) ?_
  refine lv_aload_n hx hb dX1_setKey_1 rfl (lv_at hl 1 rfl) ?_
  refine va_put (D := G) (ci := 1) (v := .ref w) (ty := .array .byte) (C := RX1) (T := TX1) (N := 5) hx hb hts in_X1 tyX1 tyX1_ok nmX1 hown hK hP hD hS 0 rfl rfl 3 (by decide) (hts _ q38) (fun _ h9 => h9) rfl (by decide +kernel) rfl rfl (Nat.le_of_ble_eq_true rfl) dX1_setKey_2 (fun H locs hP hD hS => ?_)
  have hP : va_P G rc_cl [(h, .inr (1, [.ref st, x, y, .ref w, fe])), (w, rc_ab cB n U), (st, rc_ab cB 256 S)] H := hP
  have hD : va_D A [(h, .inr (1, [.ref st, x, y, .ref w, fe])), (w, rc_ab cB n U), (st, rc_ab cB 256 S)] := hD
  refine lv_aload_n hx hb dX1_setKey_5 rfl (lv_at hl 0 rfl) ?_
  refine lv_iconst (v := 0) hx hb dX1_setKey_6 (by decide) ?_
  refine rc_ti (y := rc_z 0) (rc_z_0.symm) ?_
  refine va_put (D := G) (ci := 1) (v := .int (rc_z 0)) (ty := .int) (C := RX1) (T := TX1) (N := 5) hx hb hts in_X1 tyX1 tyX1_ok nmX1 hown hK hP hD hS 0 rfl rfl 1 (by decide) (hts _ q36) (fun _ h9 => h9) rfl (by decide +kernel) rfl rfl (Nat.le_of_ble_eq_true rfl) dX1_setKey_7 (fun H locs hP hD hS => ?_)
  have hP : va_P G rc_cl [(h, .inr (1, [.ref st, .int (rc_z 0), y, .ref w, fe])), (w, rc_ab cB n U), (st, rc_ab cB 256 S)] H := hP
  have hD : va_D A [(h, .inr (1, [.ref st, .int (rc_z 0), y, .ref w, fe])), (w, rc_ab cB n U), (st, rc_ab cB 256 S)] := hD
  refine lv_aload_n hx hb dX1_setKey_10 rfl (lv_at hl 0 rfl) ?_
  refine lv_iconst (v := 0) hx hb dX1_setKey_11 (by decide) ?_
  refine rc_ti (y := rc_z 0) (rc_z_0.symm) ?_
  refine va_put (D := G) (ci := 1) (v := .int (rc_z 0)) (ty := .int) (C := RX1) (T := TX1) (N := 5) hx hb hts in_X1 tyX1 tyX1_ok nmX1 hown hK hP hD hS 0 rfl rfl 2 (by decide) (hts _ q37) (fun _ h9 => h9) rfl (by decide +kernel) rfl rfl (Nat.le_of_ble_eq_true rfl) dX1_setKey_12 (fun H locs hP hD hS => ?_)
  have hP : va_P G rc_cl [(h, .inr (1, [.ref st, .int (rc_z 0), .int (rc_z 0), .ref w, fe])), (w, rc_ab cB n U), (st, rc_ab cB 256 S)] H := hP
  have hD : va_D A [(h, .inr (1, [.ref st, .int (rc_z 0), .int (rc_z 0), .ref w, fe])), (w, rc_ab cB n U), (st, rc_ab cB 256 S)] := hD
  refine lv_aload_n hx hb dX1_setKey_15 rfl (lv_at hl 0 rfl) ?_
  refine va_get (D := G) (ci := 1) (v := .ref st) (C := RX1) (T := TX1) (N := 5) hx hb hts in_X1 hown hK hP 0 rfl rfl 0 (by decide) (hts _ q35) (fun _ h9 => h9) rfl dX1_setKey_16 ?_
  refine lv_ifnonnull (tgt := 31) hx hb dX1_setKey_19 (by decide) ?_
  refine wkX1_setKey (cells := 0) (slots := 0) hx hb hml hown hts hK hA h w st n U fe hn0 hn S (fun H locs ls hP hD hS => ?_) H locs ls hP hD hS (lv_sub hl [0, 1] rfl)
  have hP : va_P G rc_cl [(h, .inr (1, [.ref st, .int (rc_z 0), .int (rc_z 0), .ref w, fe])), (w, rc_ab cB n U), (st, rc_ab cB 256 ((rc_ks U n 256).1))] H := hP
  have hD : va_D A [(h, .inr (1, [.ref st, .int (rc_z 0), .int (rc_z 0), .ref w, fe])), (w, rc_ab cB n U), (st, rc_ab cB 256 ((rc_ks U n 256).1))] := hD
  exact rc_vr hx hb hr hlocks () (trivial) (hP) (hD) hS (by omega) (by omega) dX1_setKey_134

set_option maxHeartbeats 4000000 in
set_option maxRecDepth 100000 in
/-- reset -/
theorem metX1_reset (l : Launch) (G : va_G) (cB cI : ClassId) (h w st sz n : Nat) (U S : Nat → By) (x y fe : Value) (hn0 : 0 < n) (hn : n ≤ 32) : rc_Mv l yX1_reset cX1_reset 1 1 0 0 25 G cB cI [(h, .inr (1, [.ref st, x, y, .ref w, fe])), (w, rc_ab cB n U), (st, rc_ab cB 256 S)] sz [.ref h] (fun _ : Unit => True) (fun _ => [(h, .inr (1, [.ref st, .int (rc_z 0), .int (rc_z 0), .ref w, fe])), (w, rc_ab cB n U), (st, rc_ab cB 256 ((rc_ks U n 256).1))]) := by
  refine rc_ofv (by decide) (Nat.le_of_ble_eq_true rfl) ?_
  intro p e s m below meth c A ls hx hb hr hlocks hml hown hin hts hP hK hD hA hS hl
  have hown : s.vm.findClass RX1 = some m.cls := hown
  have hl : lv_has ls 1 [(0, .ref h)] := hl
  refine lv_aload_n hx hb dX1_reset_0 rfl (lv_at hl 0 rfl) ?_
  refine lv_aload_n hx hb dX1_reset_1 rfl (lv_at hl 0 rfl) ?_
  refine va_get (D := G) (ci := 1) (v := .ref w) (C := RX1) (T := TX1) (N := 5) hx hb hts in_X1 hown hK hP 0 rfl rfl 3 (by decide) (hts _ q38) (fun _ h9 => h9) rfl dX1_reset_2 ?_
  refine rc_cv (wc := [(h, .inr (1, [.ref st, x, y, .ref w, fe])), (w, rc_ab cB n U), (st, rc_ab cB 256 S)]) (wr := []) [0, 1, 2] [] rfl rfl rfl (by decide) hP hD hS hA (va_runV (As := [.ref w]) (rest := []) ⟨hx, hb, hml, hown, hts⟩ (metX1_setKey_s l G cB cI h w st _ n U S x y (.ref w) fe hn0 hn) (cwV 1 hts (lw_V q133 q135 qs1 q10 q136) rfl rfl rfl (by decide +kernel) ⟨Nat.le_of_ble_eq_true rfl, Nat.le_of_ble_eq_true rfl⟩) (rc_preV hK hP hD [0, 1, 2] rfl rfl 1 0 rfl rfl) rfl rfl hl.1 rfl (lv_room (Nat.le_of_ble_eq_true rfl)) dX1_reset_5 ⟨Nat.le_of_ble_eq_true rfl, Nat.le_of_ble_eq_true rfl⟩) (fun u H locs hq hP hD hS => ?_)
  have hP : va_P G rc_cl [(h, .inr (1, [.ref st, .int (rc_z 0), .int (rc_z 0), .ref w, fe])), (w, rc_ab cB n U), (st, rc_ab cB 256 ((rc_ks U n 256).1))] H := hP
  have hD : va_D A [(h, .inr (1, [.ref st, .int (rc_z 0), .int (rc_z 0), .ref w, fe])), (w, rc_ab cB n U), (st, rc_ab cB 256 ((rc_ks U n 256).1))] := hD
  refine W.widen (k := 0) (n := 0) (by omega) (by omega) ?_
  exact rc_vr hx hb hr hlocks () (trivial) (hP) (hD) hS (by omega) (by omega) dX1_reset_8

set_option maxHeartbeats 4000000 in
set_option maxRecDepth 100000 in
/-- init(true, KeyParameter) -/
theorem metX1_init_2 (l : Launch) (G : va_G) (cB cI : ClassId) (h kp w sz n : Nat) (U : Nat → By) (hn0 : 0 < n) (hn : n ≤ 32) : rc_Mv l yX1_init_2 cX1_init_2 3 1 1 256 25 G cB cI [(h, .inr (1, [.null, .int 0, .int 0, .null, .int 0])), (kp, .inr (3, [.ref w])), (w, rc_ab cB n U)] sz [.ref h, .int 1, .ref kp] (fun _ : Nat => True) (fun st => [(h, .inr (1, [.ref st, .int (rc_z 0), .int (rc_z 0), .ref w, .int 1])), (kp, .inr (3, [.ref w])), (w, rc_ab cB n U), (st, rc_ab cB 256 ((rc_ks U n 256).1))]) := by
  refine rc_ofv (by decide) (Nat.le_of_ble_eq_true rfl) ?_
  intro p e s m below meth c A ls hx hb hr hlocks hml hown hin hts hP hK hD hA hS hl
  have hown : s.vm.findClass RX1 = some m.cls := hown
  have hl : lv_has ls 3 [(0, .ref h), (1, .int 1), (2, .ref kp)] := hl
  refine lv_aload_n hx hb dX1_init_2_0 rfl (lv_at hl 2 rfl) ?_
  refine va_instS (nm := RX3) (cC := G.1 3) hx hb hown (hts _ q128) (hK.1 3 _ rfl).2 (va_recv hK hP (ci := 3) (q0 := 1) rfl rfl) dX1_init_2_1 ?_
  refine lv_if_eq (tgt := 32) hx hb dX1_init_2_4 (by decide) (fun h9 => absurd h9 (by decide)) (fun _ => ?_)
  refine lv_aload_n hx hb dX1_init_2_7 rfl (lv_at hl 0 rfl) ?_
  refine lv_aload_n hx hb dX1_init_2_8 rfl (lv_at hl 2 rfl) ?_
  refine va_castS (nm := RX3) (cC := G.1 3) hx hb hown (hts _ q128) (hK.1 3 _ rfl).2 (va_recv hK hP (ci := 3) (q0 := 1) rfl rfl) dX1_init_2_9 ?_
  refine rc_cr (wc := [(kp, .inr (3, [.ref w]))]) (wr := [(h, .inr (1, [.null, .int 0, .int 0, .null, .int 0])), (w, rc_ab cB n U)]) [1] [0, 2] rfl rfl rfl (by decide) hP hD hS hA (va_runV (As := []) (rest := [.ref h]) ⟨hx, hb, hml, hown, hts⟩ (metX3_getKey l G cB cI kp w _) (cwV 0 hts (lw_V q129 q130 q131 q12 q132) rfl rfl rfl (by decide +kernel) ⟨Nat.le_of_ble_eq_true rfl, Nat.le_of_ble_eq_true rfl⟩) (rc_preV hK hP hD [1] rfl rfl 3 1 rfl rfl) rfl rfl hl.1 rfl (lv_room (Nat.le_of_ble_eq_true rfl)) dX1_init_2_12 ⟨Nat.le_of_ble_eq_true rfl, Nat.le_of_ble_eq_true rfl⟩) (fun H locs hP hD hS => ?_)
  have hP : va_P G rc_cl [(h, .inr (1, [.null, .int 0, .int 0, .null, .int 0])), (kp, .inr (3, [.ref w])), (w, rc_ab cB n U)] H := hP.sub [0, 2, 1] rfl
  have hD : va_D A [(h, .inr (1, [.null, .int 0, .int 0, .null, .int 0])), (kp, .inr (3, [.ref w])), (w, rc_ab cB n U)] := hD.sub [0, 2, 1] rfl rfl
  refine W.widen (k := 0) (n := 0) (by omega) (by omega) ?_
  refine va_put (D := G) (ci := 1) (v := .ref w) (ty := .array .byte) (C := RX1) (T := TX1) (N := 5) hx hb hts in_X1 tyX1 tyX1_ok nmX1 hown hK hP hD hS 0 rfl rfl 3 (by decide) (hts _ q38) (fun _ h9 => h9) rfl (by decide +kernel) rfl rfl (Nat.le_of_ble_eq_true rfl) dX1_init_2_15 (fun H locs hP hD hS => ?_)
  have hP : va_P G rc_cl [(h, .inr (1, [.null, .int 0, .int 0, .ref w, .int 0])), (kp, .inr (3, [.ref w])), (w, rc_ab cB n U)] H := hP
  have hD : va_D A [(h, .inr (1, [.null, .int 0, .int 0, .ref w, .int 0])), (kp, .inr (3, [.ref w])), (w, rc_ab cB n U)] := hD
  refine lv_aload_n hx hb dX1_init_2_18 rfl (lv_at hl 0 rfl) ?_
  refine lv_iload_n hx hb dX1_init_2_19 rfl (lv_at hl 1 rfl) ?_
  refine va_put (D := G) (ci := 1) (v := .int 1) (ty := .boolean) (C := RX1) (T := TX1) (N := 5) hx hb hts in_X1 tyX1 tyX1_ok nmX1 hown hK hP hD hS 0 rfl rfl 4 (by decide) (hts _ q39) (fun _ h9 => h9) rfl (by decide +kernel) rfl rfl (Nat.le_of_ble_eq_true rfl) dX1_init_2_20 (fun H locs hP hD hS => ?_)
  have hP : va_P G rc_cl [(h, .inr (1, [.null, .int 0, .int 0, .ref w, .int 1])), (kp, .inr (3, [.ref w])), (w, rc_ab cB n U)] H := hP
  have hD : va_D A [(h, .inr (1, [.null, .int 0, .int 0, .ref w, .int 1])), (kp, .inr (3, [.ref w])), (w, rc_ab cB n U)] := hD
  refine lv_aload_n hx hb dX1_init_2_23 rfl (lv_at hl 0 rfl) ?_
  refine lv_aload_n hx hb dX1_init_2_24 rfl (lv_at hl 0 rfl) ?_
  refine va_get (D := G) (ci := 1) (v := .ref w) (C := RX1) (T := TX1) (N := 5) hx hb hts in_X1 hown hK hP 0 rfl rfl 3 (by decide) (hts _ q38) (fun _ h9 => h9) rfl dX1_init_2_25 ?_
  refine rc_cv (wc := [(h, .inr (1, [.null, .int 0, .int 0, .ref w, .int 1])), (w, rc_ab cB n U)]) (wr := [(kp, .inr (3, [.ref w]))]) [0, 2] [1] rfl rfl rfl (by decide) hP hD hS hA (va_runV (As := [.ref w]) (rest := []) ⟨hx, hb, hml, hown, hts⟩ (metX1_setKey_n l G cB cI h w _ n U (.int 0) (.int 0) (.ref w) (.int 1) hn0 hn) (cwV 1 hts (lw_V q133 q135 qs1 q10 q136) rfl rfl rfl (by decide +kernel) ⟨Nat.le_of_ble_eq_true rfl, Nat.le_of_ble_eq_true rfl⟩) (rc_preV hK hP hD [0, 2] rfl rfl 1 0 rfl rfl) rfl rfl hl.1 rfl (lv_room (Nat.le_of_ble_eq_true rfl)) dX1_init_2_28 ⟨Nat.le_of_ble_eq_true rfl, Nat.le_of_ble_eq_true rfl⟩) (fun st H locs hq hP hD hS => ?_)
  have hP : va_P G rc_cl [(h, .inr (1, [.ref st, .int (rc_z 0), .int (rc_z 0), .ref w, .int 1])), (kp, .inr (3, [.ref w])), (w, rc_ab cB n U), (st, rc_ab cB 256 ((rc_ks U n 256).1))] H := hP.sub [1, 0, 2, 3] rfl
  have hD : va_D A [(h, .inr (1, [.ref st, .int (rc_z 0), .int (rc_z 0), .ref w, .int 1])), (kp, .inr (3, [.ref w])), (w, rc_ab cB n U), (st, rc_ab cB 256 ((rc_ks U n 256).1))] := hD.sub [1, 0, 2, 3] rfl rfl
  refine W.widen (k := 1) (n := 256) (by omega) (by omega) ?_
  exact rc_vr hx hb hr hlocks st (trivial) (hP) (hD) hS (by omega) (by omega) dX1_init_2_31

theorem rc_nwb (b : By) : narrow .byte (.int (rc_s b)) = .int (rc_s b) := by
  have h := pk_nb (rc_s b)
  rw [rc_i2b, rc_lo_s] at h
  exact h

set_option maxHeartbeats 4000000 in
set_option maxRecDepth 100000 in
/-- returnByte: one byte of the stream -/
theorem metX1_returnByte (l : Launch) (G : va_G) (cB cI : ClassId) (h st sz : Nat) (S : Nat → By) (i j b : By) (wk fe : Value) : rc_Mi l yX1_returnByte cX1_returnByte 3 .byte 0 0 0 0 G cB cI [(h, .inr (1, [.ref st, .int (rc_z i), .int (rc_z j), wk, fe])), (st, rc_ab cB 256 S)] sz [.ref h, .int (rc_s b)] (fun (r : Int32) (_ : Unit) => r = rc_s (b ^^^ rc_ko (rc_nx (S, i, j)))) (fun _ => [(h, .inr (1, [.ref st, .int (rc_z ((rc_nx (S, i, j)).2.1)), .int (rc_z ((rc_nx (S, i, j)).2.2)), wk, fe])), (st, rc_ab cB 256 ((rc_nx (S, i, j)).1))]) := by
  refine rc_ofi (by decide) (Nat.le_of_ble_eq_true rfl) ?_
  intro p e s m below meth c A ls hx hb hr hlocks hml hown hin hts hP hK hD hA hS hl
  have hown : s.vm.findClass RX1 = some m.cls := hown
  have hl : lv_has ls 3 [(0, .ref h), (1, .int (rc_s b))] := hl
  refine lv_aload_n hx hb dX1_returnByte_0 rfl (lv_at hl 0 rfl) ?_
  refine lv_aload_n hx hb dX1_returnByte_1 rfl (lv_at hl 0 rfl) ?_
  refine va_get (D := G) (ci := 1) (v := .int (rc_z i)) (C := RX1) (T := TX1) (N := 5) hx hb hts in_X1 hown hK hP 0 rfl rfl 1 (by decide) (hts _ q36) (fun _ h9 => h9) rfl dX1_returnByte_2 ?_
  refine lv_iconst (v := 1) hx hb dX1_returnByte_5 (by decide) ?_
  refine lv_iadd hx hb dX1_returnByte_6 ?_
  refine lv_sipush (v := 255) hx hb dX1_returnByte_7 (by decide) ?_
  refine lv_iand hx hb dX1_returnByte_10 ?_
  refine rc_ti (y := rc_z (i + 1)) (rc_inc_and _) ?_
  refine va_put (D := G) (ci := 1) (v := .int (rc_z (i + 1))) (ty := .int) (C := RX1) (T := TX1) (N := 5) hx hb hts in_X1 tyX1 tyX1_ok nmX1 hown hK hP hD hS 0 rfl rfl 1 (by decide) (hts _ q36) (fun _ h9 => h9) rfl (by decide +kernel) rfl rfl (Nat.le_of_ble_eq_true rfl) dX1_returnByte_11 (fun H locs hP hD hS => ?_)
  have hP : va_P G rc_cl [(h, .inr (1, [.ref st, .int (rc_z (i + 1)), .int (rc_z j), wk, fe])), (st, rc_ab cB 256 S)] H := hP
  have hD : va_D A [(h, .inr (1, [.ref st, .int (rc_z (i + 1)), .int (rc_z j), wk, fe])), (st, rc_ab cB 256 S)] := hD
  refine lv_aload_n hx hb dX1_returnByte_14 rfl (lv_at hl 0 rfl) ?_
  refine lv_aload_n hx hb dX1_returnByte_15 rfl (lv_at hl 0 rfl) ?_
  refine va_get (D := G) (ci := 1) (v := .ref st) (C := RX1) (T := TX1) (N := 5) hx hb hts in_X1 hown hK hP 0 rfl rfl 0 (by decide) (hts _ q35) (fun _ h9 => h9) rfl dX1_returnByte_16 ?_
  refine lv_aload_n hx hb dX1_returnByte_19 rfl (lv_at hl 0 rfl) ?_
  refine va_get (D := G) (ci := 1) (v := .int (rc_z (i + 1))) (C := RX1) (T := TX1) (N := 5) hx hb hts in_X1 hown hK hP 0 rfl rfl 1 (by decide) (hts _ q36) (fun _ h9 => h9) rfl dX1_returnByte_20 ?_
  refine rc_bld hx hb hK hP 1 rfl ((i + 1).toNat) (rfl) (rc_z_lt _) (Nat.le_of_ble_eq_true rfl) dX1_returnByte_23 ?_
  refine lv_aload_n hx hb dX1_returnByte_24 rfl (lv_at hl 0 rfl) ?_
  refine va_get (D := G) (ci := 1) (v := .int (rc_z j)) (C := RX1) (T := TX1) (N := 5) hx hb hts in_X1 hown hK hP 0 rfl rfl 2 (by decide) (hts _ q37) (fun _ h9 => h9) rfl dX1_returnByte_25 ?_
  refine lv_iadd hx hb dX1_returnByte_28 ?_
  refine lv_sipush (v := 255) hx hb dX1_returnByte_29 (by decide) ?_
  refine lv_iand hx hb dX1_returnByte_32 ?_
  refine rc_ti (y := rc_z (j + S (i + 1).toNat)) (rc_sz_and _ _) ?_
  refine va_put (D := G) (ci := 1) (v := .int (rc_z (j + S (i + 1).toNat))) (ty := .int) (C := RX1) (T := TX1) (N := 5) hx hb hts in_X1 tyX1 tyX1_ok nmX1 hown hK hP hD hS 0 rfl rfl 2 (by decide) (hts _ q37) (fun _ h9 => h9) rfl (by decide +kernel) rfl rfl (Nat.le_of_ble_eq_true rfl) dX1_returnByte_33 (fun H locs hP hD hS => ?_)
  have hP : va_P G rc_cl [(h, .inr (1, [.ref st, .int (rc_z (i + 1)), .int (rc_z (j + S (i + 1).toNat)), wk, fe])), (st, rc_ab cB 256 S)] H := hP
  have hD : va_D A [(h, .inr (1, [.ref st, .int (rc_z (i + 1)), .int (rc_z (j + S (i + 1).toNat)), wk, fe])), (st, rc_ab cB 256 S)] := hD
  refine lv_aload_n hx hb dX1_returnByte_36 rfl (lv_at hl 0 rfl) ?_
  refine va_get (D := G) (ci := 1) (v := .ref st) (C := RX1) (T := TX1) (N := 5) hx hb hts in_X1 hown hK hP 0 rfl rfl 0 (by decide) (hts _ q35) (fun _ h9 => h9) rfl dX1_returnByte_37 ?_
  refine lv_aload_n hx hb dX1_returnByte_40 rfl (lv_at hl 0 rfl) ?_
  refine va_get (D := G) (ci := 1) (v := .int (rc_z (i + 1))) (C := RX1) (T := TX1) (N := 5) hx hb hts in_X1 hown hK hP 0 rfl rfl 1 (by decide) (hts _ q36) (fun _ h9 => h9) rfl dX1_returnByte_41 ?_
  refine rc_bld hx hb hK hP 1 rfl ((i + 1).toNat) (rfl) (rc_z_lt _) (Nat.le_of_ble_eq_true rfl) dX1_returnByte_44 ?_
  refine lv_istore_n (lv' := [(2, .int (rc_s (S ((i + 1).toNat)))), (0, .ref h), (1, .int (rc_s b))]) hx hb dX1_returnByte_45 rfl hl (by decide) rfl (fun ls hl => ?_)
  refine lv_aload_n hx hb dX1_returnByte_46 rfl (lv_at hl 1 rfl) ?_
  refine va_get (D := G) (ci := 1) (v := .ref st) (C := RX1) (T := TX1) (N := 5) hx hb hts in_X1 hown hK hP 0 rfl rfl 0 (by decide) (hts _ q35) (fun _ h9 => h9) rfl dX1_returnByte_47 ?_
  refine lv_aload_n hx hb dX1_returnByte_50 rfl (lv_at hl 1 rfl) ?_
  refine va_get (D := G) (ci := 1) (v := .int (rc_z (i + 1))) (C := RX1) (T := TX1) (N := 5) hx hb hts in_X1 hown hK hP 0 rfl rfl 1 (by decide) (hts _ q36) (fun _ h9 => h9) rfl dX1_returnByte_51 ?_
  refine lv_aload_n hx hb dX1_returnByte_54 rfl (lv_at hl 1 rfl) ?_
  refine va_get (D := G) (ci := 1) (v := .ref st) (C := RX1) (T := TX1) (N := 5) hx hb hts in_X1 hown hK hP 0 rfl rfl 0 (by decide) (hts _ q35) (fun _ h9 => h9) rfl dX1_returnByte_55 ?_
  refine lv_aload_n hx hb dX1_returnByte_58 rfl (lv_at hl 1 rfl) ?_
  refine va_get (D := G) (ci := 1) (v := .int (rc_z (j + S (i + 1).toNat))) (C := RX1) (T := TX1) (N := 5) hx hb hts in_X1 hown hK hP 0 rfl rfl 2 (by decide) (hts _ q37) (fun _ h9 => h9) rfl dX1_returnByte_59 ?_
  refine rc_bld hx hb hK hP 1 rfl ((j + S (i + 1).toNat).toNat) (rfl) (rc_z_lt _) (Nat.le_of_ble_eq_true rfl) dX1_returnByte_62 ?_
  refine rc_bst hx hb hK hP hD hS 1 rfl ((i + 1).toNat) (rfl) (rc_z_lt _) (Nat.le_of_ble_eq_true rfl) (S (j + S (i + 1).toNat).toNat) (rfl) dX1_returnByte_63 (fun H locs hP hD hS => ?_)
  have hP : va_P G rc_cl [(h, .inr (1, [.ref st, .int (rc_z (i + 1)), .int (rc_z (j + S (i + 1).toNat)), wk, fe])), (st, rc_ab cB 256 (rc_up S ((i + 1).toNat) (S (j + S (i + 1).toNat).toNat)))] H := hP
  have hD : va_D A [(h, .inr (1, [.ref st, .int (rc_z (i + 1)), .int (rc_z (j + S (i + 1).toNat)), wk, fe])), (st, rc_ab cB 256 (rc_up S ((i + 1).toNat) (S (j + S (i + 1).toNat).toNat)))] := hD
  refine lv_aload_n hx hb dX1_returnByte_64 rfl (lv_at hl 1 rfl) ?_
  refine va_get (D := G) (ci := 1) (v := .ref st) (C := RX1) (T := TX1) (N := 5) hx hb hts in_X1 hown hK hP 0 rfl rfl 0 (by decide) (hts _ q35) (fun _ h9 => h9) rfl dX1_returnByte_65 ?_
  refine lv_aload_n hx hb dX1_returnByte_68 rfl (lv_at hl 1 rfl) ?_
  refine va_get (D := G) (ci := 1) (v := .int (rc_z (j + S (i + 1).toNat))) (C := RX1) (T := TX1) (N := 5) hx hb hts in_X1 hown hK hP 0 rfl rfl 2 (by decide) (hts _ q37) (fun _ h9 => h9) rfl dX1_returnByte_69 ?_
  refine lv_iload_n hx hb dX1_returnByte_72 rfl (lv_at hl 0 rfl) ?_
  refine rc_bst hx hb hK hP hD hS 1 rfl ((j + S (i + 1).toNat).toNat) (rfl) (rc_z_lt _) (Nat.le_of_ble_eq_true rfl) (S (i + 1).toNat) (rfl) dX1_returnByte_73 (fun H locs hP hD hS => ?_)
  have hP : va_P G rc_cl [(h, .inr (1, [.ref st, .int (rc_z (i + 1)), .int (rc_z (j + S (i + 1).toNat)), wk, fe])), (st, rc_ab cB 256 (rc_sw S (i + 1).toNat (j + S (i + 1).toNat).toNat))] H := hP
  have hD : va_D A [(h, .inr (1, [.ref st, .int (rc_z (i + 1)), .int (rc_z (j + S (i + 1).toNat)), wk, fe])), (st, rc_ab cB 256 (rc_sw S (i + 1).toNat (j + S (i + 1).toNat).toNat))] := hD
  refine lv_iload_n hx hb dX1_returnByte_74 rfl (lv_at hl 2 rfl) ?_
  refine lv_aload_n hx hb dX1_returnByte_75 rfl (lv_at hl 1 rfl) ?_
  refine va_get (D := G) (ci := 1) (v := .ref st) (C := RX1) (T := TX1) (N := 5) hx hb hts in_X1 hown hK hP 0 rfl rfl 0 (by decide) (hts _ q35) (fun _ h9 => h9) rfl dX1_returnByte_76 ?_
  refine lv_aload_n hx hb dX1_returnByte_79 rfl (lv_at hl 1 rfl) ?_
  refine va_get (D := G) (ci := 1) (v := .ref st) (C := RX1) (T := TX1) (N := 5) hx hb hts in_X1 hown hK hP 0 rfl rfl 0 (by decide) (hts _ q35) (fun _ h9 => h9) rfl dX1_returnByte_80 ?_
  refine lv_aload_n hx hb dX1_returnByte_83 rfl (lv_at hl 1 rfl) ?_
  refine va_get (D := G) (ci := 1) (v := .int (rc_z (i + 1))) (C := RX1) (T := TX1) (N := 5) hx hb hts in_X1 hown hK hP 0 rfl rfl 1 (by decide) (hts _ q36) (fun _ h9 => h9) rfl dX1_returnByte_84 ?_
  refine rc_bld hx hb hK hP 1 rfl ((i + 1).toNat) (rfl) (rc_z_lt _) (Nat.le_of_ble_eq_true rfl) dX1_returnByte_87 ?_
  refine lv_aload_n hx hb dX1_returnByte_88 rfl (lv_at hl 1 rfl) ?_
  refine va_get (D := G) (ci := 1) (v := .ref st) (C := RX1) (T := TX1) (N := 5) hx hb hts in_X1 hown hK hP 0 rfl rfl 0 (by decide) (hts _ q35) (fun _ h9 => h9) rfl dX1_returnByte_89 ?_
  refine lv_aload_n hx hb dX1_returnByte_92 rfl (lv_at hl 1 rfl) ?_
  refine va_get (D := G) (ci := 1) (v := .int (rc_z (j + S (i + 1).toNat))) (C := RX1) (T := TX1) (N := 5) hx hb hts in_X1 hown hK hP 0 rfl rfl 2 (by decide) (hts _ q37) (fun _ h9 => h9) rfl dX1_returnByte_93 ?_
  refine rc_bld hx hb hK hP 1 rfl ((j + S (i + 1).toNat).toNat) (rfl) (rc_z_lt _) (Nat.le_of_ble_eq_true rfl) dX1_returnByte_96 ?_
  refine lv_iadd hx hb dX1_returnByte_97 ?_
  refine lv_sipush (v := 255) hx hb dX1_returnByte_98 (by decide) ?_
  refine lv_iand hx hb dX1_returnByte_101 ?_
  refine rc_ti (y := rc_z ((rc_sw S (i + 1).toNat (j + S (i + 1).toNat).toNat) (i + 1).toNat + (rc_sw S (i + 1).toNat (j + S (i + 1).toNat).toNat) (j + S (i + 1).toNat).toNat)) (rc_ss_and _ _) ?_
  refine rc_bld hx hb hK hP 1 rfl (((rc_sw S (i + 1).toNat (j + S (i + 1).toNat).toNat) (i + 1).toNat + (rc_sw S (i + 1).toNat (j + S (i + 1).toNat).toNat) (j + S (i + 1).toNat).toNat).toNat) (rfl) (rc_z_lt _) (Nat.le_of_ble_eq_true rfl) dX1_returnByte_102 ?_
  refine lv_ixor hx hb dX1_returnByte_103 ?_
  refine lv_i2b (v := rc_s (b ^^^ ((rc_sw S (i + 1).toNat (j + S (i + 1).toNat).toNat) ((rc_sw S (i + 1).toNat (j + S (i + 1).toNat).toNat) (i + 1).toNat + (rc_sw S (i + 1).toNat (j + S (i + 1).toNat).toNat) (j + S (i + 1).toNat).toNat).toNat))) hx hb dX1_returnByte_104 (rc_xor_b _ _) ?_
  exact rc_ir hx hb hr hlocks (rc_nwb _) () (rfl) (hP) (hD) hS (by omega) (by omega) dX1_returnByte_105

set_option maxHeartbeats 4000000 in
set_option maxRecDepth 100000 in
/-- processBytes: one round -/
theorem stX1_pb {p : Program} {l : Launch} {e : Env} {s : State} {m : MethodId} {args : Array Value} {below : List Frame} {meth : Method} {c : Code} {R : Room} {cells slots : Nat} {Q : State → Prop} {G : va_G} {cB cI : ClassId} {A : Nat → Prop} (hx : p.tables.exec = Jvm.exec) (hb : c.code = cX1_processBytes) (hml : c.maxLocals = 8) (hown : s.vm.findClass RX1 = some m.cls) (hts : ∀ w ∈ lw_all, w.before args s = true) (hK : va_K G rc_cl (rc_ty cB cI) s) (hA : ∀ q : Nat, s.heap.size ≤ q → A q) (h st t o f cn : Nat) (T : Nat → By) (wk fe : Value) (hfc : f + cn ≤ 256) (S O : Nat → By) (i j : By) (k : Nat) (hk : k < cn)
    (kk : ∀ (H : Heap) (locs : List Loc) (ls : Array Slot), va_P G rc_cl [(h, .inr (1, [.ref st, .int (rc_z ((rc_nx (S, i, j)).2.1)), .int (rc_z ((rc_nx (S, i, j)).2.2)), wk, fe])), (st, rc_ab cB 256 ((rc_nx (S, i, j)).1)), (t, rc_ab cB 256 T), (o, rc_ab cB cn (rc_up O k (T (f + k) ^^^ rc_ko (rc_nx (S, i, j)))))] H → va_D A [(h, .inr (1, [.ref st, .int (rc_z ((rc_nx (S, i, j)).2.1)), .int (rc_z ((rc_nx (S, i, j)).2.2)), wk, fe])), (st, rc_ab cB 256 ((rc_nx (S, i, j)).1)), (t, rc_ab cB 256 T), (o, rc_ab cB cn (rc_up O k (T (f + k) ^^^ rc_ko (rc_nx (S, i, j)))))] → va_S A s.heap H locs → lv_has ls 8 [(0, .ref h), (1, .ref t), (2, .int (nI f)), (3, .int (nI cn)), (4, .ref o), (5, .int 0), (6, .int (nI (k + 1)))] → W p l e R s m args below meth c H locs cells slots Q (F0 m 41 ls [])) :
    ∀ (H : Heap) (locs : List Loc) (ls : Array Slot), va_P G rc_cl [(h, .inr (1, [.ref st, .int (rc_z i), .int (rc_z j), wk, fe])), (st, rc_ab cB 256 S), (t, rc_ab cB 256 T), (o, rc_ab cB cn O)] H → va_D A [(h, .inr (1, [.ref st, .int (rc_z i), .int (rc_z j), wk, fe])), (st, rc_ab cB 256 S), (t, rc_ab cB 256 T), (o, rc_ab cB cn O)] → va_S A s.heap H locs → lv_has ls 8 [(0, .ref h), (1, .ref t), (2, .int (nI f)), (3, .int (nI cn)), (4, .ref o), (5, .int 0), (6, .int (nI k))] → W p l e R s m args below meth c H locs cells slots Q (F0 m 41 ls []) := by
  intro H locs ls hP hD hS hl
  refine lv_iload hx hb dX1_processBytes_41 (lv_at hl 6 rfl) ?_
  refine lv_iload_n hx hb dX1_processBytes_43 rfl (lv_at hl 3 rfl) ?_
  refine lv_icmp_ge (tgt := 173) hx hb dX1_processBytes_44 (by decide) (fun h9 => absurd h9 (fun h9 => absurd ((rc_nle (by omega) (by omega)).mp h9) (by omega))) (fun _ => ?_)
  refine lv_aload_n hx hb dX1_processBytes_47 rfl (lv_at hl 0 rfl) ?_
  refine lv_aload_n hx hb dX1_processBytes_48 rfl (lv_at hl 0 rfl) ?_
  refine va_get (D := G) (ci := 1) (v := .int (rc_z i)) (C := RX1) (T := TX1) (N := 5) hx hb hts in_X1 hown hK hP 0 rfl rfl 1 (by decide) (hts _ q36) (fun _ h9 => h9) rfl dX1_processBytes_49 ?_
  refine lv_iconst (v := 1) hx hb dX1_processBytes_52 (by decide) ?_
  refine lv_iadd hx hb dX1_processBytes_53 ?_
  refine lv_sipush (v := 255) hx hb dX1_processBytes_54 (by decide) ?_
  refine lv_iand hx hb dX1_processBytes_57 ?_
  refine rc_ti (y := rc_z (i + 1)) (rc_inc_and _) ?_
  refine va_put (D := G) (ci := 1) (v := .int (rc_z (i + 1))) (ty := .int) (C := RX1) (T := TX1) (N := 5) hx hb hts in_X1 tyX1 tyX1_ok nmX1 hown hK hP hD hS 0 rfl rfl 1 (by decide) (hts _ q36) (fun _ h9 => h9) rfl (by decide +kernel) rfl rfl (Nat.le_of_ble_eq_true rfl) dX1_processBytes_58 (fun H locs hP hD hS => ?_)
  have hP : va_P G rc_cl [(h, .inr (1, [.ref st, .int (rc_z (i + 1)), .int (rc_z j), wk, fe])), (st, rc_ab cB 256 S), (t, rc_ab cB 256 T), (o, rc_ab cB cn O)] H := hP
  have hD : va_D A [(h, .inr (1, [.ref st, .int (rc_z (i + 1)), .int (rc_z j), wk, fe])), (st, rc_ab cB 256 S), (t, rc_ab cB 256 T), (o, rc_ab cB cn O)] := hD
  refine lv_aload_n hx hb dX1_processBytes_61 rfl (lv_at hl 0 rfl) ?_
  refine lv_aload_n hx hb dX1_processBytes_62 rfl (lv_at hl 0 rfl) ?_
  refine va_get (D := G) (ci := 1) (v := .ref st) (C := RX1) (T := TX1) (N := 5) hx hb hts in_X1 hown hK hP 0 rfl rfl 0 (by decide) (hts _ q35) (fun _ h9 => h9) rfl dX1_processBytes_63 ?_
  refine lv_aload_n hx hb dX1_processBytes_66 rfl (lv_at hl 0 rfl) ?_
  refine va_get (D := G) (ci := 1) (v := .int (rc_z (i + 1))) (C := RX1) (T := TX1) (N := 5) hx hb hts in_X1 hown hK hP 0 rfl rfl 1 (by decide) (hts _ q36) (fun _ h9 => h9) rfl dX1_processBytes_67 ?_
  refine rc_bld hx hb hK hP 1 rfl ((i + 1).toNat) (rfl) (rc_z_lt _) (Nat.le_of_ble_eq_true rfl) dX1_processBytes_70 ?_
  refine lv_aload_n hx hb dX1_processBytes_71 rfl (lv_at hl 0 rfl) ?_
  refine va_get (D := G) (ci := 1) (v := .int (rc_z j)) (C := RX1) (T := TX1) (N := 5) hx hb hts in_X1 hown hK hP 0 rfl rfl 2 (by decide) (hts _ q37) (fun _ h9 => h9) rfl dX1_processBytes_72 ?_
  refine lv_iadd hx hb dX1_processBytes_75 ?_
  refine lv_sipush (v := 255) hx hb dX1_processBytes_76 (by decide) ?_
  refine lv_iand hx hb dX1_processBytes_79 ?_
  refine rc_ti (y := rc_z (j + S (i + 1).toNat)) (rc_sz_and _ _) ?_
  refine va_put (D := G) (ci := 1) (v := .int (rc_z (j + S (i + 1).toNat))) (ty := .int) (C := RX1) (T := TX1) (N := 5) hx hb hts in_X1 tyX1 tyX1_ok nmX1 hown hK hP hD hS 0 rfl rfl 2 (by decide) (hts _ q37) (fun _ h9 => h9) rfl (by decide +kernel) rfl rfl (Nat.le_of_ble_eq_true rfl) dX1_processBytes_80 (fun H locs hP hD hS => ?_)
  have hP : va_P G rc_cl [(h, .inr (1, [.ref st, .int (rc_z (i + 1)), .int (rc_z (j + S (i + 1).toNat)), wk, fe])), (st, rc_ab cB 256 S), (t, rc_ab cB 256 T), (o, rc_ab cB cn O)] H := hP
  have hD : va_D A [(h, .inr (1, [.ref st, .int (rc_z (i + 1)), .int (rc_z (j + S (i + 1).toNat)), wk, fe])), (st, rc_ab cB 256 S), (t, rc_ab cB 256 T), (o, rc_ab cB cn O)] := hD
  refine lv_aload_n hx hb dX1_processBytes_83 rfl (lv_at hl 0 rfl) ?_
  refine va_get (D := G) (ci := 1) (v := .ref st) (C := RX1) (T := TX1) (N := 5) hx hb hts in_X1 hown hK hP 0 rfl rfl 0 (by decide) (hts _ q35) (fun _ h9 => h9) rfl dX1_processBytes_84 ?_
  refine lv_aload_n hx hb dX1_processBytes_87 rfl (lv_at hl 0 rfl) ?_
  refine va_get (D := G) (ci := 1) (v := .int (rc_z (i + 1))) (C := RX1) (T := TX1) (N := 5) hx hb hts in_X1 hown hK hP 0 rfl rfl 1 (by decide) (hts _ q36) (fun _ h9 => h9) rfl dX1_processBytes_88 ?_
  refine rc_bld hx hb hK hP 1 rfl ((i + 1).toNat) (rfl) (rc_z_lt _) (Nat.le_of_ble_eq_true rfl) dX1_processBytes_91 ?_
  refine lv_istore (lv' := [(7, .int (rc_s (S ((i + 1).toNat)))), (0, .ref h), (1, .ref t), (2, .int (nI f)), (3, .int (nI cn)), (4, .ref o), (5, .int 0), (6, .int (nI k))]) hx hb dX1_processBytes_92 hl (by decide) rfl (fun ls hl => ?_)
  refine lv_aload_n hx hb dX1_processBytes_94 rfl (lv_at hl 1 rfl) ?_
  refine va_get (D := G) (ci := 1) (v := .ref st) (C := RX1) (T := TX1) (N := 5) hx hb hts in_X1 hown hK hP 0 rfl rfl 0 (by decide) (hts _ q35) (fun _ h9 => h9) rfl dX1_processBytes_95 ?_
  refine lv_aload_n hx hb dX1_processBytes_98 rfl (lv_at hl 1 rfl) ?_
  refine va_get (D := G) (ci := 1) (v := .int (rc_z (i + 1))) (C := RX1) (T := TX1) (N := 5) hx hb hts in_X1 hown hK hP 0 rfl rfl 1 (by decide) (hts _ q36) (fun _ h9 => h9) rfl dX1_processBytes_99 ?_
  refine lv_aload_n hx hb dX1_processBytes_102 rfl (lv_at hl 1 rfl) ?_
  refine va_get (D := G) (ci := 1) (v := .ref st) (C := RX1) (T := TX1) (N := 5) hx hb hts in_X1 hown hK hP 0 rfl rfl 0 (by decide) (hts _ q35) (fun _ h9 => h9) rfl dX1_processBytes_103 ?_
  refine lv_aload_n hx hb dX1_processBytes_106 rfl (lv_at hl 1 rfl) ?_
  refine va_get (D := G) (ci := 1) (v := .int (rc_z (j + S (i + 1).toNat))) (C := RX1) (T := TX1) (N := 5) hx hb hts in_X1 hown hK hP 0 rfl rfl 2 (by decide) (hts _ q37) (fun _ h9 => h9) rfl dX1_processBytes_107 ?_
  refine rc_bld hx hb hK hP 1 rfl ((j + S (i + 1).toNat).toNat) (rfl) (rc_z_lt _) (Nat.le_of_ble_eq_true rfl) dX1_processBytes_110 ?_
  refine rc_bst hx hb hK hP hD hS 1 rfl ((i + 1).toNat) (rfl) (rc_z_lt _) (Nat.le_of_ble_eq_true rfl) (S (j + S (i + 1).toNat).toNat) (rfl) dX1_processBytes_111 (fun H locs hP hD hS => ?_)
  have hP : va_P G rc_cl [(h, .inr (1, [.ref st, .int (rc_z (i + 1)), .int (rc_z (j + S (i + 1).toNat)), wk, fe])), (st, rc_ab cB 256 (rc_up S ((i + 1).toNat) (S (j + S (i + 1).toNat).toNat))), (t, rc_ab cB 256 T), (o, rc_ab cB cn O)] H := hP
  have hD : va_D A [(h, .inr (1, [.ref st, .int (rc_z (i + 1)), .int (rc_z (j + S (i + 1).toNat)), wk, fe])), (st, rc_ab cB 256 (rc_up S ((i + 1).toNat) (S (j + S (i + 1).toNat).toNat))), (t, rc_ab cB 256 T), (o, rc_ab cB cn O)] := hD
  refine lv_aload_n hx hb dX1_processBytes_112 rfl (lv_at hl 1 rfl) ?_
  refine va_get (D := G) (ci := 1) (v := .ref st) (C := RX1) (T := TX1) (N := 5) hx hb hts in_X1 hown hK hP 0 rfl rfl 0 (by decide) (hts _ q35) (fun _ h9 => h9) rfl dX1_processBytes_113 ?_
  refine lv_aload_n hx hb dX1_processBytes_116 rfl (lv_at hl 1 rfl) ?_
  refine va_get (D := G) (ci := 1) (v := .int (rc_z (j + S (i + 1).toNat))) (C := RX1) (T := TX1) (N := 5) hx hb hts in_X1 hown hK hP 0 rfl rfl 2 (by decide) (hts _ q37) (fun _ h9 => h9) rfl dX1_processBytes_117 ?_
  refine lv_iload hx hb dX1_processBytes_120 (lv_at hl 0 rfl) ?_
  refine rc_bst hx hb hK hP hD hS 1 rfl ((j + S (i + 1).toNat).toNat) (rfl) (rc_z_lt _) (Nat.le_of_ble_eq_true rfl) (S (i + 1).toNat) (rfl) dX1_processBytes_122 (fun H locs hP hD hS => ?_)
  have hP : va_P G rc_cl [(h, .inr (1, [.ref st, .int (rc_z (i + 1)), .int (rc_z (j + S (i + 1).toNat)), wk, fe])), (st, rc_ab cB 256 (rc_sw S (i + 1).toNat (j + S (i + 1).toNat).toNat)), (t, rc_ab cB 256 T), (o, rc_ab cB cn O)] H := hP
  have hD : va_D A [(h, .inr (1, [.ref st, .int (rc_z (i + 1)), .int (rc_z (j + S (i + 1).toNat)), wk, fe])), (st, rc_ab cB 256 (rc_sw S (i + 1).toNat (j + S (i + 1).toNat).toNat)), (t, rc_ab cB 256 T), (o, rc_ab cB cn O)] := hD
  refine lv_aload hx hb dX1_processBytes_123 (lv_at hl 5 rfl) ?_
  refine lv_iload hx hb dX1_processBytes_125 (lv_at hl 7 rfl) ?_
  refine lv_iload hx hb dX1_processBytes_127 (lv_at hl 6 rfl) ?_
  refine lv_iadd hx hb dX1_processBytes_129 ?_
  refine rc_ti (y := nI k) (Int32.add_zero _) ?_
  refine lv_aload_n hx hb dX1_processBytes_130 rfl (lv_at hl 2 rfl) ?_
  refine lv_iload hx hb dX1_processBytes_131 (lv_at hl 7 rfl) ?_
  refine lv_iload_n hx hb dX1_processBytes_133 rfl (lv_at hl 3 rfl) ?_
  refine lv_iadd hx hb dX1_processBytes_134 ?_
  refine rc_ti (y := nI (f + k)) (by rw [nI_add, Nat.add_comm]) ?_
  refine rc_bld hx hb hK hP 2 rfl (f + k) (rfl) (by omega) (Nat.le_of_ble_eq_true rfl) dX1_processBytes_135 ?_
  refine lv_aload_n hx hb dX1_processBytes_136 rfl (lv_at hl 1 rfl) ?_
  refine va_get (D := G) (ci := 1) (v := .ref st) (C := RX1) (T := TX1) (N := 5) hx hb hts in_X1 hown hK hP 0 rfl rfl 0 (by decide) (hts _ q35) (fun _ h9 => h9) rfl dX1_processBytes_137 ?_
  refine lv_aload_n hx hb dX1_processBytes_140 rfl (lv_at hl 1 rfl) ?_
  refine va_get (D := G) (ci := 1) (v := .ref st) (C := RX1) (T := TX1) (N := 5) hx hb hts in_X1 hown hK hP 0 rfl rfl 0 (by decide) (hts _ q35) (fun _ h9 => h9) rfl dX1_processBytes_141 ?_
  refine lv_aload_n hx hb dX1_processBytes_144 rfl (lv_at hl 1 rfl) ?_
  refine va_get (D := G) (ci := 1) (v := .int (rc_z (i + 1))) (C := RX1) (T := TX1) (N := 5) hx hb hts in_X1 hown hK hP 0 rfl rfl 1 (by decide) (hts _ q36) (fun _ h9 => h9) rfl dX1_processBytes_145 ?_
  refine rc_bld hx hb hK hP 1 rfl ((i + 1).toNat) (rfl) (rc_z_lt _) (Nat.le_of_ble_eq_true rfl) dX1_processBytes_148 ?_
  refine lv_aload_n hx hb dX1_processBytes_149 rfl (lv_at hl 1 rfl) ?_
  refine va_get (D := G) (ci := 1) (v := .ref st) (C := RX1) (T := TX1) (N := 5) hx hb hts in_X1 hown hK hP 0 rfl rfl 0 (by decide) (hts _ q35) (fun _ h9 => h9) rfl dX1_processBytes_150 ?_
  refine lv_aload_n hx hb dX1_processBytes_153 rfl (lv_at hl 1 rfl) ?_
  refine va_get (D := G) (ci := 1) (v := .int (rc_z (j + S (i + 1).toNat))) (C := RX1) (T := TX1) (N := 5) hx hb hts in_X1 hown hK hP 0 rfl rfl 2 (by decide) (hts _ q37) (fun _ h9 => h9) rfl dX1_processBytes_154 ?_
  refine rc_bld hx hb hK hP 1 rfl ((j + S (i + 1).toNat).toNat) (rfl) (rc_z_lt _) (Nat.le_of_ble_eq_true rfl) dX1_processBytes_157 ?_
  refine lv_iadd hx hb dX1_processBytes_158 ?_
  refine lv_sipush (v := 255) hx hb dX1_processBytes_159 (by decide) ?_
  refine lv_iand hx hb dX1_processBytes_162 ?_
  refine rc_ti (y := rc_z ((rc_sw S (i + 1).toNat (j + S (i + 1).toNat).toNat) (i + 1).toNat + (rc_sw S (i + 1).toNat (j + S (i + 1).toNat).toNat) (j + S (i + 1).toNat).toNat)) (rc_ss_and _ _) ?_
  refine rc_bld hx hb hK hP 1 rfl (((rc_sw S (i + 1).toNat (j + S (i + 1).toNat).toNat) (i + 1).toNat + (rc_sw S (i + 1).toNat (j + S (i + 1).toNat).toNat) (j + S (i + 1).toNat).toNat).toNat) (rfl) (rc_z_lt _) (Nat.le_of_ble_eq_true rfl) dX1_processBytes_163 ?_
  refine lv_ixor hx hb dX1_processBytes_164 ?_
  refine lv_i2b (v := rc_s (T (f + k) ^^^ ((rc_sw S (i + 1).toNat (j + S (i + 1).toNat).toNat) ((rc_sw S (i + 1).toNat (j + S (i + 1).toNat).toNat) (i + 1).toNat + (rc_sw S (i + 1).toNat (j + S (i + 1).toNat).toNat) (j + S (i + 1).toNat).toNat).toNat))) hx hb dX1_processBytes_165 (rc_xor_b _ _) ?_
  refine rc_bst hx hb hK hP hD hS 3 rfl k (rfl) (hk) (by omega) (T (f + k) ^^^ ((rc_sw S (i + 1).toNat (j + S (i + 1).toNat).toNat) ((rc_sw S (i + 1).toNat (j + S (i + 1).toNat).toNat) (i + 1).toNat + (rc_sw S (i + 1).toNat (j + S (i + 1).toNat).toNat) (j + S (i + 1).toNat).toNat).toNat)) (rfl) dX1_processBytes_166 (fun H locs hP hD hS => ?_)
  have hP : va_P G rc_cl [(h, .inr (1, [.ref st, .int (rc_z (i + 1)), .int (rc_z (j + S (i + 1).toNat)), wk, fe])), (st, rc_ab cB 256 (rc_sw S (i + 1).toNat (j + S (i + 1).toNat).toNat)), (t, rc_ab cB 256 T), (o, rc_ab cB cn (rc_up O k (T (f + k) ^^^ ((rc_sw S (i + 1).toNat (j + S (i + 1).toNat).toNat) ((rc_sw S (i + 1).toNat (j + S (i + 1).toNat).toNat) (i + 1).toNat + (rc_sw S (i + 1).toNat (j + S (i + 1).toNat).toNat) (j + S (i + 1).toNat).toNat).toNat))))] H := hP
  have hD : va_D A [(h, .inr (1, [.ref st, .int (rc_z (i + 1)), .int (rc_z (j + S (i + 1).toNat)), wk, fe])), (st, rc_ab cB 256 (rc_sw S (i + 1).toNat (j + S (i + 1).toNat).toNat)), (t, rc_ab cB 256 T), (o, rc_ab cB cn (rc_up O k (T (f + k) ^^^ ((rc_sw S (i + 1).toNat (j + S (i + 1).toNat).toNat) ((rc_sw S (i + 1).toNat (j + S (i + 1).toNat).toNat) (i + 1).toNat + (rc_sw S (i + 1).toNat (j + S (i + 1).toNat).toNat) (j + S (i + 1).toNat).toNat).toNat))))] := hD
  refine lv_iinc (v := nI (k + 1)) (lv' := [(6, .int (nI (k + 1))), (7, .int (rc_s (S ((i + 1).toNat)))), (0, .ref h), (1, .ref t), (2, .int (nI f)), (3, .int (nI cn)), (4, .ref o), (5, .int 0)]) hx hb dX1_processBytes_167 hl (k := 7) rfl (nI_1 k) (by decide) rfl (fun ls hl => ?_)
  refine lv_goto (tgt := 41) hx hb dX1_processBytes_170 (by decide) ?_
  exact kk H locs ls hP hD hS (lv_sub hl [2, 3, 4, 5, 6, 7, 0] rfl)

set_option maxHeartbeats 4000000 in
set_option maxRecDepth 100000 in
/-- processBytes: its loop -/
theorem lpX1_pb {p : Program} {l : Launch} {e : Env} {s : State} {m : MethodId} {args : Array Value} {below : List Frame} {meth : Method} {c : Code} {R : Room} {cells slots : Nat} {Q : State → Prop} {G : va_G} {cB cI : ClassId} {A : Nat → Prop} (hx : p.tables.exec = Jvm.exec) (hb : c.code = cX1_processBytes) (hml : c.maxLocals = 8) (hown : s.vm.findClass RX1 = some m.cls) (hts : ∀ w ∈ lw_all, w.before args s = true) (hK : va_K G rc_cl (rc_ty cB cI) s) (hA : ∀ q : Nat, s.heap.size ≤ q → A q) (h st t o f cn : Nat) (T : Nat → By) (wk fe : Value) (hfc : f + cn ≤ 256) (R0 : rc_St) (O : Nat → By)
    (hexit : ∀ (H : Heap) (locs : List Loc) (ls : Array Slot), va_P G rc_cl [(h, .inr (1, [.ref st, .int (rc_z ((rc_rn T f R0 O cn).1.2.1)), .int (rc_z ((rc_rn T f R0 O cn).1.2.2)), wk, fe])), (st, rc_ab cB 256 ((rc_rn T f R0 O cn).1.1)), (t, rc_ab cB 256 T), (o, rc_ab cB cn ((rc_rn T f R0 O cn).2))] H → va_D A [(h, .inr (1, [.ref st, .int (rc_z ((rc_rn T f R0 O cn).1.2.1)), .int (rc_z ((rc_rn T f R0 O cn).1.2.2)), wk, fe])), (st, rc_ab cB 256 ((rc_rn T f R0 O cn).1.1)), (t, rc_ab cB 256 T), (o, rc_ab cB cn ((rc_rn T f R0 O cn).2))] → va_S A s.heap H locs → lv_has ls 8 [(0, .ref h), (1, .ref t), (2, .int (nI f)), (3, .int (nI cn)), (4, .ref o), (5, .int 0), (6, .int (nI cn))] → W p l e R s m args below meth c H locs cells slots Q (F0 m 173 ls [])) :
    ∀ (d k : Nat), k + d = cn → ∀ (H : Heap) (locs : List Loc) (ls : Array Slot), va_P G rc_cl [(h, .inr (1, [.ref st, .int (rc_z ((rc_rn T f R0 O k).1.2.1)), .int (rc_z ((rc_rn T f R0 O k).1.2.2)), wk, fe])), (st, rc_ab cB 256 ((rc_rn T f R0 O k).1.1)), (t, rc_ab cB 256 T), (o, rc_ab cB cn ((rc_rn T f R0 O k).2))] H → va_D A [(h, .inr (1, [.ref st, .int (rc_z ((rc_rn T f R0 O k).1.2.1)), .int (rc_z ((rc_rn T f R0 O k).1.2.2)), wk, fe])), (st, rc_ab cB 256 ((rc_rn T f R0 O k).1.1)), (t, rc_ab cB 256 T), (o, rc_ab cB cn ((rc_rn T f R0 O k).2))] → va_S A s.heap H locs → lv_has ls 8 [(0, .ref h), (1, .ref t), (2, .int (nI f)), (3, .int (nI cn)), (4, .ref o), (5, .int 0), (6, .int (nI k))] → W p l e R s m args below meth c H locs cells slots Q (F0 m 41 ls []) := by
  intro d
  induction d with
  | zero =>
    intro k hk H locs ls hP hD hS hl
    obtain rfl : k = cn := by omega
    refine lv_iload hx hb dX1_processBytes_41 (lv_at hl 6 rfl) ?_
    refine lv_iload_n hx hb dX1_processBytes_43 rfl (lv_at hl 3 rfl) ?_
    refine lv_icmp_ge (tgt := 173) hx hb dX1_processBytes_44 (by decide) (fun _ => ?_) (fun h9 => absurd (Int32.le_refl _) h9)
    exact hexit H locs ls hP hD hS hl
  | succ d ih =>
    intro k hk
    exact stX1_pb hx hb hml hown hts hK hA h st t o f cn T wk fe hfc (rc_rn T f R0 O k).1.1 (rc_rn T f R0 O k).2 (rc_rn T f R0 O k).1.2.1 (rc_rn T f R0 O k).1.2.2 k (by omega) (ih (k + 1) (by omega))

set_option maxHeartbeats 4000000 in
set_option maxRecDepth 100000 in
/-- processBytes -/
theorem metX1_processBytes (l : Launch) (G : va_G) (cB cI : ClassId) (h st t o sz f cn : Nat) (S T O : Nat → By) (i j : By) (wk fe : Value) (hfc : f + cn ≤ 256) : rc_Mi l yX1_processBytes cX1_processBytes 8 .int 0 0 0 0 G cB cI [(h, .inr (1, [.ref st, .int (rc_z i), .int (rc_z j), wk, fe])), (st, rc_ab cB 256 S), (t, rc_ab cB 256 T), (o, rc_ab cB cn O)] sz [.ref h, .ref t, .int (nI f), .int (nI cn), .ref o, .int 0] (fun (r : Int32) (_ : Unit) => r = nI cn) (fun _ => [(h, .inr (1, [.ref st, .int (rc_z ((rc_rn T f (S, i, j) O cn).1.2.1)), .int (rc_z ((rc_rn T f (S, i, j) O cn).1.2.2)), wk, fe])), (st, rc_ab cB 256 ((rc_rn T f (S, i, j) O cn).1.1)), (t, rc_ab cB 256 T), (o, rc_ab cB cn ((rc_rn T f (S, i, j) O cn).2))]) := by
  refine rc_ofi (by decide) (Nat.le_of_ble_eq_true rfl) ?_
  intro p e s m below meth c A ls hx hb hr hlocks hml hown hin hts hP hK hD hA hS hl
  have hown : s.vm.findClass RX1 = some m.cls := hown
  have hl : lv_has ls 8 [(0, .ref h), (1, .ref t), (2, .int (nI f)), (3, .int (nI cn)), (4, .ref o), (5, .int 0)] := hl
  refine lv_iload_n hx hb dX1_processBytes_0 rfl (lv_at hl 2 rfl) ?_
  refine lv_iload_n hx hb dX1_processBytes_1 rfl (lv_at hl 3 rfl) ?_
  refine lv_iadd hx hb dX1_processBytes_2 ?_
  refine rc_ti (y := nI (f + cn)) (nI_add _ _) ?_
  refine lv_aload_n hx hb dX1_processBytes_3 rfl (lv_at hl 1 rfl) ?_
  refine rc_lnB hx hb hK hP 2 rfl dX1_processBytes_4 ?_
  refine lv_icmp_le (tgt := 18) hx hb dX1_processBytes_5 (by decide) (fun _ => ?_) (fun h9 => absurd (nI_le hfc (rc_big (by omega))) h9)
  refine lv_iload hx hb dX1_processBytes_18 (lv_at hl 5 rfl) ?_
  refine lv_iload_n hx hb dX1_processBytes_20 rfl (lv_at hl 3 rfl) ?_
  refine lv_iadd hx hb dX1_processBytes_21 ?_
  refine rc_ti (y := nI cn) (Int32.zero_add _) ?_
  refine lv_aload hx hb dX1_processBytes_22 (lv_at hl 4 rfl) ?_
  refine rc_lnB hx hb hK hP 3 rfl dX1_processBytes_24 ?_
  refine lv_icmp_le (tgt := 38) hx hb dX1_processBytes_25 (by decide) (fun _ => ?_) (fun h9 => absurd (Int32.le_refl _) h9)
  refine lv_iconst (v := 0) hx hb dX1_processBytes_38 (by decide) ?_
  refine rc_ti (y := nI 0) (nI_0.symm) ?_
  refine lv_istore (lv' := [(6, .int (nI 0)), (0, .ref h), (1, .ref t), (2, .int (nI f)), (3, .int (nI cn)), (4, .ref o), (5, .int 0)]) hx hb dX1_processBytes_39 hl (by decide) rfl (fun ls hl => ?_)
  refine lpX1_pb hx hb hml hown hts hK hA h st t o f cn T wk fe hfc (S, i, j) O (fun H locs ls hP hD hS hl => ?_) cn 0 (Nat.zero_add _) _ _ ls hP hD hS (lv_sub hl [1, 2, 3, 4, 5, 6, 0] rfl)
  refine lv_iload_n hx hb dX1_processBytes_173 rfl (lv_at hl 3 rfl) ?_
  exact rc_ir hx hb hr hlocks (rfl) () (rfl) (hP) (hD) hS (by omega) (by omega) dX1_processBytes_174
end
section
/-! RcFourDesk: the small methods -/
theorem rc_m24 : (24 &&& 31 : Int32) = 24 := by decide +kernel
theorem rc_m16 : (16 &&& 31 : Int32) = 16 := by decide +kernel
theorem rc_m8 : (8 &&& 31 : Int32) = 8 := by decide +kernel

set_option maxHeartbeats 4000000 in
set_option maxRecDepth 100000 in
/-- word: four bytes from k on -/
theorem metX0_word (l : Launch) (G : va_G) (cB cI : ClassId) (a sz n k : Nat) (T : Nat → By) (w : Int32) (hk : k + 4 ≤ n) (hn : n ≤ 1000) : rc_Mv l yX0_word cX0_word 3 0 0 0 0 G cB cI [(a, rc_ab cB n T)] sz [.ref a, .int (nI k), .int w] (fun _ : Unit => True) (fun _ => [(a, rc_ab cB n (rc_pw T k w))]) := by
  refine rc_ofv (by decide) (Nat.le_of_ble_eq_true rfl) ?_
  intro p e s m below meth c A ls hx hb hr hlocks hml hown hin hts hP hK hD hA hS hl
  have hown : s.vm.findClass RX0 = some m.cls := hown
  have hl : lv_has ls 3 [(0, .ref a), (1, .int (nI k)), (2, .int w)] := hl
  refine lv_aload_n hx hb dX0_word_0 rfl (lv_at hl 0 rfl) ?_
  refine lv_iload_n hx hb dX0_word_1 rfl (lv_at hl 1 rfl) ?_
  refine lv_iload_n hx hb dX0_word_2 rfl (lv_at hl 2 rfl) ?_
  refine lv_bipush (v := 24) hx hb dX0_word_3 (by decide) ?_
  refine lv_ishr hx hb dX0_word_5 ?_
  refine rc_ti (y := w >>> 24) (by rw [rc_m24]) ?_
  refine lv_i2b (v := rc_s (rc_lo (w >>> 24))) hx hb dX0_word_6 (rc_i2b _) ?_
  refine rc_bst hx hb hK hP hD hS 0 rfl k (rfl) (by omega) (by omega) (rc_lo (w >>> 24)) (rfl) dX0_word_7 (fun H locs hP hD hS => ?_)
  have hP : va_P G rc_cl [(a, rc_ab cB n (rc_up T k (rc_lo (w >>> 24))))] H := hP
  have hD : va_D A [(a, rc_ab cB n (rc_up T k (rc_lo (w >>> 24))))] := hD
  refine lv_aload_n hx hb dX0_word_8 rfl (lv_at hl 0 rfl) ?_
  refine lv_iload_n hx hb dX0_word_9 rfl (lv_at hl 1 rfl) ?_
  refine lv_iconst (v := 1) hx hb dX0_word_10 (by decide) ?_
  refine lv_iadd hx hb dX0_word_11 ?_
  refine rc_ti (y := nI (k + 1)) (nI_1 _) ?_
  refine lv_iload_n hx hb dX0_word_12 rfl (lv_at hl 2 rfl) ?_
  refine lv_bipush (v := 16) hx hb dX0_word_13 (by decide) ?_
  refine lv_ishr hx hb dX0_word_15 ?_
  refine rc_ti (y := w >>> 16) (by rw [rc_m16]) ?_
  refine lv_i2b (v := rc_s (rc_lo (w >>> 16))) hx hb dX0_word_16 (rc_i2b _) ?_
  refine rc_bst hx hb hK hP hD hS 0 rfl (k + 1) (rfl) (by omega) (by omega) (rc_lo (w >>> 16)) (rfl) dX0_word_17 (fun H locs hP hD hS => ?_)
  have hP : va_P G rc_cl [(a, rc_ab cB n (rc_up (rc_up T k (rc_lo (w >>> 24))) (k + 1) (rc_lo (w >>> 16))))] H := hP
  have hD : va_D A [(a, rc_ab cB n (rc_up (rc_up T k (rc_lo (w >>> 24))) (k + 1) (rc_lo (w >>> 16))))] := hD
  refine lv_aload_n hx hb dX0_word_18 rfl (lv_at hl 0 rfl) ?_
  refine lv_iload_n hx hb dX0_word_19 rfl (lv_at hl 1 rfl) ?_
  refine lv_iconst (v := 2) hx hb dX0_word_20 (by decide) ?_
  refine lv_iadd hx hb dX0_word_21 ?_
  refine rc_ti (y := nI (k + 2)) (nI_add k 2) ?_
  refine lv_iload_n hx hb dX0_word_22 rfl (lv_at hl 2 rfl) ?_
  refine lv_bipush (v := 8) hx hb dX0_word_23 (by decide) ?_
  refine lv_ishr hx hb dX0_word_25 ?_
  refine rc_ti (y := w >>> 8) (by rw [rc_m8]) ?_
  refine lv_i2b (v := rc_s (rc_lo (w >>> 8))) hx hb dX0_word_26 (rc_i2b _) ?_
  refine rc_bst hx hb hK hP hD hS 0 rfl (k + 2) (rfl) (by omega) (by omega) (rc_lo (w >>> 8)) (rfl) dX0_word_27 (fun H locs hP hD hS => ?_)
  have hP : va_P G rc_cl [(a, rc_ab cB n (rc_up (rc_up (rc_up T k (rc_lo (w >>> 24))) (k + 1) (rc_lo (w >>> 16))) (k + 2) (rc_lo (w >>> 8))))] H := hP
  have hD : va_D A [(a, rc_ab cB n (rc_up (rc_up (rc_up T k (rc_lo (w >>> 24))) (k + 1) (rc_lo (w >>> 16))) (k + 2) (rc_lo (w >>> 8))))] := hD
  refine lv_aload_n hx hb dX0_word_28 rfl (lv_at hl 0 rfl) ?_
  refine lv_iload_n hx hb dX0_word_29 rfl (lv_at hl 1 rfl) ?_
  refine lv_iconst (v := 3) hx hb dX0_word_30 (by decide) ?_
  refine lv_iadd hx hb dX0_word_31 ?_
  refine rc_ti (y := nI (k + 3)) (nI_add k 3) ?_
  refine lv_iload_n hx hb dX0_word_32 rfl (lv_at hl 2 rfl) ?_
  refine lv_i2b (v := rc_s (rc_lo w)) hx hb dX0_word_33 (rc_i2b _) ?_
  refine rc_bst hx hb hK hP hD hS 0 rfl (k + 3) (rfl) (by omega) (by omega) (rc_lo w) (rfl) dX0_word_34 (fun H locs hP hD hS => ?_)
  have hP : va_P G rc_cl [(a, rc_ab cB n (rc_pw T k w))] H := hP
  have hD : va_D A [(a, rc_ab cB n (rc_pw T k w))] := hD
  exact rc_vr hx hb hr hlocks () (trivial) (hP) (hD) hS (by omega) (by omega) dX0_word_35

set_option maxHeartbeats 4000000 in
set_option maxRecDepth 100000 in
/-- from -/
theorem metX0_from (l : Launch) (G : va_G) (cB cI : ClassId) (h sz z : Nat) (x : Int32) (v0 v1 v2 v3 v4 v5 v7 : Value) (hz : z ≤ 256) : rc_Mi l yX0_from cX0_from 2 .int 0 0 0 0 G cB cI [(h, .inr (0, [v0, v1, v2, v3, v4, v5, .int (nI z), v7]))] sz [.ref h, .int x] (fun (r : Int32) (_ : Unit) => r = nI (rc_ps x % (z + 1))) (fun _ => [(h, .inr (0, [v0, v1, v2, v3, v4, v5, .int (nI z), v7]))]) := by
  refine rc_ofi (by decide) (Nat.le_of_ble_eq_true rfl) ?_
  intro p e s m below meth c A ls hx hb hr hlocks hml hown hin hts hP hK hD hA hS hl
  have hown : s.vm.findClass RX0 = some m.cls := hown
  have hl : lv_has ls 2 [(0, .ref h), (1, .int x)] := hl
  refine lv_iload_n hx hb dX0_from_0 rfl (lv_at hl 1 rfl) ?_
  refine lv_ldc (v := 2147483647) hx hb hown (hts _ q92) dX0_from_1 ?_
  refine lv_iand hx hb dX0_from_3 ?_
  refine rc_ti (y := nI (rc_ps x)) (rc_ps_and _) ?_
  refine lv_aload_n hx hb dX0_from_4 rfl (lv_at hl 0 rfl) ?_
  refine va_get (D := G) (ci := 0) (v := .int (nI z)) (C := RX0) (T := TX0) (N := 8) hx hb hts in_X0 hown hK hP 0 rfl rfl 6 (by decide) (hts _ q57) (fun _ h9 => h9) rfl dX0_from_5 ?_
  refine lv_iconst (v := 1) hx hb dX0_from_8 (by decide) ?_
  refine lv_iadd hx hb dX0_from_9 ?_
  refine rc_ti (y := nI (z + 1)) (nI_1 _) ?_
  refine lv_irem hx hb dX0_from_10 (nI_ne0 (Nat.succ_pos z) (rc_big (by omega))) ?_
  refine rc_ti (y := nI (rc_ps x % (z + 1))) (rc_ps_rem x (Nat.succ_pos z) (by omega)) ?_
  exact rc_ir hx hb hr hlocks (rfl) () (rfl) (hP) (hD) hS (by omega) (by omega) dX0_from_11

set_option maxHeartbeats 4000000 in
set_option maxRecDepth 100000 in
/-- trim -/
theorem metX0_trim (l : Launch) (G : va_G) (cB cI : ClassId) (h sz z : Nat) (x : Int32) (v0 v1 v2 v3 v4 v5 v7 : Value) (hz : z ≤ 256) : rc_Mv l yX0_trim cX0_trim 2 1 0 0 21 G cB cI [(h, .inr (0, [v0, v1, v2, v3, v4, v5, .int (nI z), v7]))] sz [.ref h, .int x] (fun _ : Unit => True) (fun _ => [(h, .inr (0, [v0, v1, v2, v3, v4, v5, .int (nI (rc_ps x % (z + 1))), v7]))]) := by
  refine rc_ofv (by decide) (Nat.le_of_ble_eq_true rfl) ?_
  intro p e s m below meth c A ls hx hb hr hlocks hml hown hin hts hP hK hD hA hS hl
  have hown : s.vm.findClass RX0 = some m.cls := hown
  have hl : lv_has ls 2 [(0, .ref h), (1, .int x)] := hl
  refine lv_aload_n hx hb dX0_trim_0 rfl (lv_at hl 0 rfl) ?_
  refine lv_aload_n hx hb dX0_trim_1 rfl (lv_at hl 0 rfl) ?_
  refine lv_iload_n hx hb dX0_trim_2 rfl (lv_at hl 1 rfl) ?_
  refine rc_ci (wc := [(h, .inr (0, [v0, v1, v2, v3, v4, v5, .int (nI z), v7]))]) (wr := []) [0] [] rfl rfl rfl (by decide) hP hD hS hA (va_runV (As := [.int x]) (rest := [.ref h]) ⟨hx, hb, hml, hown, hts⟩ (metX0_from l G cB cI h _ z x v0 v1 v2 v3 v4 v5 v7 hz) (cwV 1 hts (lw_V q88 q90 qs0 q9 q91) rfl rfl rfl (by decide +kernel) ⟨Nat.le_of_ble_eq_true rfl, Nat.le_of_ble_eq_true rfl⟩) (rc_preV hK hP hD [0] rfl rfl 0 0 rfl rfl) rfl rfl hl.1 rfl (lv_room (Nat.le_of_ble_eq_true rfl)) dX0_trim_3 ⟨Nat.le_of_ble_eq_true rfl, Nat.le_of_ble_eq_true rfl⟩) (fun r u H locs hq hP hD hS => ?_)
  have hP : va_P G rc_cl [(h, .inr (0, [v0, v1, v2, v3, v4, v5, .int (nI z), v7]))] H := hP
  have hD : va_D A [(h, .inr (0, [v0, v1, v2, v3, v4, v5, .int (nI z), v7]))] := hD
  refine W.widen (k := 0) (n := 0) (by omega) (by omega) ?_
  refine rc_ti (y := nI (rc_ps x % (z + 1))) (hq) ?_
  refine va_put (D := G) (ci := 0) (v := .int (nI (rc_ps x % (z + 1)))) (ty := .int) (C := RX0) (T := TX0) (N := 8) hx hb hts in_X0 tyX0 tyX0_ok nmX0 hown hK hP hD hS 0 rfl rfl 6 (by decide) (hts _ q57) (fun _ h9 => h9) rfl (by decide +kernel) rfl rfl (Nat.le_of_ble_eq_true rfl) dX0_trim_6 (fun H locs hP hD hS => ?_)
  have hP : va_P G rc_cl [(h, .inr (0, [v0, v1, v2, v3, v4, v5, .int (nI (rc_ps x % (z + 1))), v7]))] H := hP
  have hD : va_D A [(h, .inr (0, [v0, v1, v2, v3, v4, v5, .int (nI (rc_ps x % (z + 1))), v7]))] := hD
  exact rc_vr hx hb hr hlocks () (trivial) (hP) (hD) hS (by omega) (by omega) dX0_trim_9

set_option maxHeartbeats 4000000 in
set_option maxRecDepth 100000 in
/-- count -/
theorem metX0_count (l : Launch) (G : va_G) (cB cI : ClassId) (h sz z f : Nat) (y : Int32) (v0 v1 v2 v3 v4 v5 v7 : Value) (hz : z ≤ 256) (hf : f ≤ z) : rc_Mi l yX0_count cX0_count 3 .int 0 0 0 0 G cB cI [(h, .inr (0, [v0, v1, v2, v3, v4, v5, .int (nI z), v7]))] sz [.ref h, .int (nI f), .int y] (fun (r : Int32) (_ : Unit) => r = nI (rc_ps y % (z - f + 1))) (fun _ => [(h, .inr (0, [v0, v1, v2, v3, v4, v5, .int (nI z), v7]))]) := by
  refine rc_ofi (by decide) (Nat.le_of_ble_eq_true rfl) ?_
  intro p e s m below meth c A ls hx hb hr hlocks hml hown hin hts hP hK hD hA hS hl
  have hown : s.vm.findClass RX0 = some m.cls := hown
  have hl : lv_has ls 3 [(0, .ref h), (1, .int (nI f)), (2, .int y)] := hl
  refine lv_iload_n hx hb dX0_count_0 rfl (lv_at hl 2 rfl) ?_
  refine lv_ldc (v := 2147483647) hx hb hown (hts _ q92) dX0_count_1 ?_
  refine lv_iand hx hb dX0_count_3 ?_
  refine rc_ti (y := nI (rc_ps y)) (rc_ps_and _) ?_
  refine lv_aload_n hx hb dX0_count_4 rfl (lv_at hl 0 rfl) ?_
  refine va_get (D := G) (ci := 0) (v := .int (nI z)) (C := RX0) (T := TX0) (N := 8) hx hb hts in_X0 hown hK hP 0 rfl rfl 6 (by decide) (hts _ q57) (fun _ h9 => h9) rfl dX0_count_5 ?_
  refine lv_iload_n hx hb dX0_count_8 rfl (lv_at hl 1 rfl) ?_
  refine lv_isub hx hb dX0_count_9 ?_
  refine rc_ti (y := nI (z - f)) (pk_sub hf) ?_
  refine lv_iconst (v := 1) hx hb dX0_count_10 (by decide) ?_
  refine lv_iadd hx hb dX0_count_11 ?_
  refine rc_ti (y := nI (z - f + 1)) (nI_1 _) ?_
  refine lv_irem hx hb dX0_count_12 (nI_ne0 (Nat.succ_pos _) (rc_big (by omega))) ?_
  refine rc_ti (y := nI (rc_ps y % (z - f + 1))) (rc_ps_rem y (Nat.succ_pos _) (by omega)) ?_
  exact rc_ir hx hb hr hlocks (rfl) () (rfl) (hP) (hD) hS (by omega) (by omega) dX0_count_13

def rc_pr (z : Nat) : Int32 := if z ≤ 240 then 1 else 0
def rc_psz (z : Nat) : Nat := if z ≤ 240 then z + 16 else z
def rc_pT (T : Nat → By) (z : Nat) (a b d g : Int32) : Nat → By := if z ≤ 240 then rc_p4 T z a b d g else T
def rc_at (x : Int32) : Nat := x.toBitVec.toNat % 2 * 16
theorem rc_at_le (x : Int32) : rc_at x ≤ 16 := by
  have h : x.toBitVec.toNat % 2 < 2 := Nat.mod_lt _ (by decide)
  show x.toBitVec.toNat % 2 * 16 ≤ 16
  omega
theorem rc_at_shl (x : Int32) : nI (x.toBitVec.toNat % 2) <<< (4 &&& 31 : Int32) = nI (rc_at x) := by
  have h : x.toBitVec.toNat % 2 < 2 := Nat.mod_lt _ (by decide)
  exact pk_shlN (4 &&& 31) 4 (by decide +kernel) (Nat.lt_of_le_of_lt (show x.toBitVec.toNat % 2 * 2 ^ 4 ≤ 16 by omega) (Nat.le_of_ble_eq_true rfl))

set_option maxHeartbeats 4000000 in
set_option maxRecDepth 100000 in
/-- put -/
theorem metX0_put (l : Launch) (G : va_G) (cB cI : ClassId) (h t sz z : Nat) (T : Nat → By) (a b d g : Int32) (v0 v1 v2 v3 v4 v7 : Value) (hz : z ≤ 256) : rc_Mi l yX0_put cX0_put 5 .boolean 1 0 0 22 G cB cI [(h, .inr (0, [v0, v1, v2, v3, v4, .ref t, .int (nI z), v7])), (t, rc_ab cB 256 T)] sz [.ref h, .int a, .int b, .int d, .int g] (fun (r : Int32) (_ : Unit) => r = rc_pr z) (fun _ => [(h, .inr (0, [v0, v1, v2, v3, v4, .ref t, .int (nI (rc_psz z)), v7])), (t, rc_ab cB 256 (rc_pT T z a b d g))]) := by
  refine rc_ofi (by decide) (Nat.le_of_ble_eq_true rfl) ?_
  intro p e s m below meth c A ls hx hb hr hlocks hml hown hin hts hP hK hD hA hS hl
  have hown : s.vm.findClass RX0 = some m.cls := hown
  have hl : lv_has ls 5 [(0, .ref h), (1, .int a), (2, .int b), (3, .int d), (4, .int g)] := hl
  refine lv_aload_n hx hb dX0_put_0 rfl (lv_at hl 0 rfl) ?_
  refine va_get (D := G) (ci := 0) (v := .int (nI z)) (C := RX0) (T := TX0) (N := 8) hx hb hts in_X0 hown hK hP 0 rfl rfl 6 (by decide) (hts _ q57) (fun _ h9 => h9) rfl dX0_put_1 ?_
  refine lv_aload_n hx hb dX0_put_4 rfl (lv_at hl 0 rfl) ?_
  refine va_get (D := G) (ci := 0) (v := .ref t) (C := RX0) (T := TX0) (N := 8) hx hb hts in_X0 hown hK hP 0 rfl rfl 5 (by decide) (hts _ q56) (fun _ h9 => h9) rfl dX0_put_5 ?_
  refine rc_lnB hx hb hK hP 1 rfl dX0_put_8 ?_
  refine lv_bipush (v := 16) hx hb dX0_put_9 (by decide) ?_
  refine lv_isub hx hb dX0_put_11 ?_
  refine rc_ti (y := nI 240) (by decide +kernel) ?_
  refine lv_icmp_le (tgt := 17) hx hb dX0_put_12 (by decide) (fun c1 => ?_) (fun c1 => ?_)
  · have c2 : z ≤ 240 := (rc_nle (by omega) (by omega)).mp c1
    refine lv_aload_n hx hb dX0_put_17 rfl (lv_at hl 0 rfl) ?_
    refine va_get (D := G) (ci := 0) (v := .ref t) (C := RX0) (T := TX0) (N := 8) hx hb hts in_X0 hown hK hP 0 rfl rfl 5 (by decide) (hts _ q56) (fun _ h9 => h9) rfl dX0_put_18 ?_
    refine lv_aload_n hx hb dX0_put_21 rfl (lv_at hl 0 rfl) ?_
    refine va_get (D := G) (ci := 0) (v := .int (nI z)) (C := RX0) (T := TX0) (N := 8) hx hb hts in_X0 hown hK hP 0 rfl rfl 6 (by decide) (hts _ q57) (fun _ h9 => h9) rfl dX0_put_22 ?_
    refine lv_iload_n hx hb dX0_put_25 rfl (lv_at hl 1 rfl) ?_
    refine rc_cv (wc := [(t, rc_ab cB 256 T)]) (wr := [(h, .inr (0, [v0, v1, v2, v3, v4, .ref t, .int (nI z), v7]))]) [1] [0] rfl rfl rfl (by decide) hP hD hS hA (va_runS (As := [.ref t, .int (nI z), .int a]) (rest := []) ⟨hx, hb, hml, hown, hts⟩ (metX0_word l G cB cI t _ 256 z T a (by omega) (by omega)) (va_cwS 3 hts (lw_S q81 q82 q9 q83) rfl rfl rfl (by decide +kernel) ⟨Nat.le_of_ble_eq_true rfl, Nat.le_of_ble_eq_true rfl⟩) (rc_pre hK hP hD [1] rfl rfl) rfl rfl hl.1 rfl (lv_room (Nat.le_of_ble_eq_true rfl)) dX0_put_26 ⟨Nat.le_of_ble_eq_true rfl, Nat.le_of_ble_eq_true rfl⟩) (fun u H locs hq hP hD hS => ?_)
    have hP : va_P G rc_cl [(h, .inr (0, [v0, v1, v2, v3, v4, .ref t, .int (nI z), v7])), (t, rc_ab cB 256 (rc_pw T z a))] H := hP.sub [0, 1] rfl
    have hD : va_D A [(h, .inr (0, [v0, v1, v2, v3, v4, .ref t, .int (nI z), v7])), (t, rc_ab cB 256 (rc_pw T z a))] := hD.sub [0, 1] rfl rfl
    refine W.widen (k := 0) (n := 0) (by omega) (by omega) ?_
    refine lv_aload_n hx hb dX0_put_29 rfl (lv_at hl 0 rfl) ?_
    refine va_get (D := G) (ci := 0) (v := .ref t) (C := RX0) (T := TX0) (N := 8) hx hb hts in_X0 hown hK hP 0 rfl rfl 5 (by decide) (hts _ q56) (fun _ h9 => h9) rfl dX0_put_30 ?_
    refine lv_aload_n hx hb dX0_put_33 rfl (lv_at hl 0 rfl) ?_
    refine va_get (D := G) (ci := 0) (v := .int (nI z)) (C := RX0) (T := TX0) (N := 8) hx hb hts in_X0 hown hK hP 0 rfl rfl 6 (by decide) (hts _ q57) (fun _ h9 => h9) rfl dX0_put_34 ?_
    refine lv_iconst (v := 4) hx hb dX0_put_37 (by decide) ?_
    refine lv_iadd hx hb dX0_put_38 ?_
    refine rc_ti (y := nI (z + 4)) (nI_add z 4) ?_
    refine lv_iload_n hx hb dX0_put_39 rfl (lv_at hl 2 rfl) ?_
    refine rc_cv (wc := [(t, rc_ab cB 256 (rc_pw T z a))]) (wr := [(h, .inr (0, [v0, v1, v2, v3, v4, .ref t, .int (nI z), v7]))]) [1] [0] rfl rfl rfl (by decide) hP hD hS hA (va_runS (As := [.ref t, .int (nI (z + 4)), .int b]) (rest := []) ⟨hx, hb, hml, hown, hts⟩ (metX0_word l G cB cI t _ 256 (z + 4) (rc_pw T z a) b (by omega) (by omega)) (va_cwS 3 hts (lw_S q81 q82 q9 q83) rfl rfl rfl (by decide +kernel) ⟨Nat.le_of_ble_eq_true rfl, Nat.le_of_ble_eq_true rfl⟩) (rc_pre hK hP hD [1] rfl rfl) rfl rfl hl.1 rfl (lv_room (Nat.le_of_ble_eq_true rfl)) dX0_put_40 ⟨Nat.le_of_ble_eq_true rfl, Nat.le_of_ble_eq_true rfl⟩) (fun u H locs hq hP hD hS => ?_)
    have hP : va_P G rc_cl [(h, .inr (0, [v0, v1, v2, v3, v4, .ref t, .int (nI z), v7])), (t, rc_ab cB 256 (rc_pw (rc_pw T z a) (z + 4) b))] H := hP.sub [0, 1] rfl
    have hD : va_D A [(h, .inr (0, [v0, v1, v2, v3, v4, .ref t, .int (nI z), v7])), (t, rc_ab cB 256 (rc_pw (rc_pw T z a) (z + 4) b))] := hD.sub [0, 1] rfl rfl
    refine W.widen (k := 0) (n := 0) (by omega) (by omega) ?_
    refine lv_aload_n hx hb dX0_put_43 rfl (lv_at hl 0 rfl) ?_
    refine va_get (D := G) (ci := 0) (v := .ref t) (C := RX0) (T := TX0) (N := 8) hx hb hts in_X0 hown hK hP 0 rfl rfl 5 (by decide) (hts _ q56) (fun _ h9 => h9) rfl dX0_put_44 ?_
    refine lv_aload_n hx hb dX0_put_47 rfl (lv_at hl 0 rfl) ?_
    refine va_get (D := G) (ci := 0) (v := .int (nI z)) (C := RX0) (T := TX0) (N := 8) hx hb hts in_X0 hown hK hP 0 rfl rfl 6 (by decide) (hts _ q57) (fun _ h9 => h9) rfl dX0_put_48 ?_
    refine lv_bipush (v := 8) hx hb dX0_put_51 (by decide) ?_
    refine lv_iadd hx hb dX0_put_53 ?_
    refine rc_ti (y := nI (z + 8)) (nI_add z 8) ?_
    refine lv_iload_n hx hb dX0_put_54 rfl (lv_at hl 3 rfl) ?_
    refine rc_cv (wc := [(t, rc_ab cB 256 (rc_pw (rc_pw T z a) (z + 4) b))]) (wr := [(h, .inr (0, [v0, v1, v2, v3, v4, .ref t, .int (nI z), v7]))]) [1] [0] rfl rfl rfl (by decide) hP hD hS hA (va_runS (As := [.ref t, .int (nI (z + 8)), .int d]) (rest := []) ⟨hx, hb, hml, hown, hts⟩ (metX0_word l G cB cI t _ 256 (z + 8) (rc_pw (rc_pw T z a) (z + 4) b) d (by omega) (by omega)) (va_cwS 3 hts (lw_S q81 q82 q9 q83) rfl rfl rfl (by decide +kernel) ⟨Nat.le_of_ble_eq_true rfl, Nat.le_of_ble_eq_true rfl⟩) (rc_pre hK hP hD [1] rfl rfl) rfl rfl hl.1 rfl (lv_room (Nat.le_of_ble_eq_true rfl)) dX0_put_55 ⟨Nat.le_of_ble_eq_true rfl, Nat.le_of_ble_eq_true rfl⟩) (fun u H locs hq hP hD hS => ?_)
    have hP : va_P G rc_cl [(h, .inr (0, [v0, v1, v2, v3, v4, .ref t, .int (nI z), v7])), (t, rc_ab cB 256 (rc_pw (rc_pw (rc_pw T z a) (z + 4) b) (z + 8) d))] H := hP.sub [0, 1] rfl
    have hD : va_D A [(h, .inr (0, [v0, v1, v2, v3, v4, .ref t, .int (nI z), v7])), (t, rc_ab cB 256 (rc_pw (rc_pw (rc_pw T z a) (z + 4) b) (z + 8) d))] := hD.sub [0, 1] rfl rfl
    refine W.widen (k := 0) (n := 0) (by omega) (by omega) ?_
    refine lv_aload_n hx hb dX0_put_58 rfl (lv_at hl 0 rfl) ?_
    refine va_get (D := G) (ci := 0) (v := .ref t) (C := RX0) (T := TX0) (N := 8) hx hb hts in_X0 hown hK hP 0 rfl rfl 5 (by decide) (hts _ q56) (fun _ h9 => h9) rfl dX0_put_59 ?_
    refine lv_aload_n hx hb dX0_put_62 rfl (lv_at hl 0 rfl) ?_
    refine va_get (D := G) (ci := 0) (v := .int (nI z)) (C := RX0) (T := TX0) (N := 8) hx hb hts in_X0 hown hK hP 0 rfl rfl 6 (by decide) (hts _ q57) (fun _ h9 => h9) rfl dX0_put_63 ?_
    refine lv_bipush (v := 12) hx hb dX0_put_66 (by decide) ?_
    refine lv_iadd hx hb dX0_put_68 ?_
    refine rc_ti (y := nI (z + 12)) (nI_add z 12) ?_
    refine lv_iload hx hb dX0_put_69 (lv_at hl 4 rfl) ?_
    refine rc_cv (wc := [(t, rc_ab cB 256 (rc_pw (rc_pw (rc_pw T z a) (z + 4) b) (z + 8) d))]) (wr := [(h, .inr (0, [v0, v1, v2, v3, v4, .ref t, .int (nI z), v7]))]) [1] [0] rfl rfl rfl (by decide) hP hD hS hA (va_runS (As := [.ref t, .int (nI (z + 12)), .int g]) (rest := []) ⟨hx, hb, hml, hown, hts⟩ (metX0_word l G cB cI t _ 256 (z + 12) (rc_pw (rc_pw (rc_pw T z a) (z + 4) b) (z + 8) d) g (by omega) (by omega)) (va_cwS 3 hts (lw_S q81 q82 q9 q83) rfl rfl rfl (by decide +kernel) ⟨Nat.le_of_ble_eq_true rfl, Nat.le_of_ble_eq_true rfl⟩) (rc_pre hK hP hD [1] rfl rfl) rfl rfl hl.1 rfl (lv_room (Nat.le_of_ble_eq_true rfl)) dX0_put_71 ⟨Nat.le_of_ble_eq_true rfl, Nat.le_of_ble_eq_true rfl⟩) (fun u H locs hq hP hD hS => ?_)
    have hP : va_P G rc_cl [(h, .inr (0, [v0, v1, v2, v3, v4, .ref t, .int (nI z), v7])), (t, rc_ab cB 256 (rc_pw (rc_pw (rc_pw (rc_pw T z a) (z + 4) b) (z + 8) d) (z + 12) g))] H := hP.sub [0, 1] rfl
    have hD : va_D A [(h, .inr (0, [v0, v1, v2, v3, v4, .ref t, .int (nI z), v7])), (t, rc_ab cB 256 (rc_pw (rc_pw (rc_pw (rc_pw T z a) (z + 4) b) (z + 8) d) (z + 12) g))] := hD.sub [0, 1] rfl rfl
    refine W.widen (k := 0) (n := 0) (by omega) (by omega) ?_
    refine lv_aload_n hx hb dX0_put_74 rfl (lv_at hl 0 rfl) ?_
    refine lv_dup hx hb dX0_put_75 rfl ?_
    refine va_get (D := G) (ci := 0) (v := .int (nI z)) (C := RX0) (T := TX0) (N := 8) hx hb hts in_X0 hown hK hP 0 rfl rfl 6 (by decide) (hts _ q57) (fun _ h9 => h9) rfl dX0_put_76 ?_
    refine lv_bipush (v := 16) hx hb dX0_put_79 (by decide) ?_
    refine lv_iadd hx hb dX0_put_81 ?_
    refine rc_ti (y := nI (z + 16)) (nI_add z 16) ?_
    refine va_put (D := G) (ci := 0) (v := .int (nI (z + 16))) (ty := .int) (C := RX0) (T := TX0) (N := 8) hx hb hts in_X0 tyX0 tyX0_ok nmX0 hown hK hP hD hS 0 rfl rfl 6 (by decide) (hts _ q57) (fun _ h9 => h9) rfl (by decide +kernel) rfl rfl (Nat.le_of_ble_eq_true rfl) dX0_put_82 (fun H locs hP hD hS => ?_)
    have hP : va_P G rc_cl [(h, .inr (0, [v0, v1, v2, v3, v4, .ref t, .int (nI (z + 16)), v7])), (t, rc_ab cB 256 (rc_pw (rc_pw (rc_pw (rc_pw T z a) (z + 4) b) (z + 8) d) (z + 12) g))] H := hP
    have hD : va_D A [(h, .inr (0, [v0, v1, v2, v3, v4, .ref t, .int (nI (z + 16)), v7])), (t, rc_ab cB 256 (rc_pw (rc_pw (rc_pw (rc_pw T z a) (z + 4) b) (z + 8) d) (z + 12) g))] := hD
    refine lv_iconst (v := 1) hx hb dX0_put_85 (by decide) ?_
    exact rc_ir hx hb hr hlocks (rfl) () (if_pos c2 |>.symm) (by rw [show rc_psz z = z + 16 from if_pos c2, show rc_pT T z a b d g = rc_p4 T z a b d g from if_pos c2]; exact hP) (by rw [show rc_psz z = z + 16 from if_pos c2, show rc_pT T z a b d g = rc_p4 T z a b d g from if_pos c2]; exact hD) hS (by omega) (by omega) dX0_put_86
  · have c2 : ¬ z ≤ 240 := fun q => c1 ((rc_nle (by omega) (by omega)).mpr q)
    refine lv_iconst (v := 0) hx hb dX0_put_15 (by decide) ?_
    exact rc_ir hx hb hr hlocks (rfl) () (if_neg c2 |>.symm) (by rw [show rc_psz z = z from if_neg c2, show rc_pT T z a b d g = T from if_neg c2]; exact hP) (by rw [show rc_psz z = z from if_neg c2, show rc_pT T z a b d g = T from if_neg c2]; exact hD) hS (by omega) (by omega) dX0_put_16

set_option maxHeartbeats 4000000 in
set_option maxRecDepth 100000 in
/-- key -/
theorem metX0_key (l : Launch) (G : va_G) (cB cI : ClassId) (h k sz : Nat) (K : Nat → By) (x a b d g : Int32) (v0 v1 v2 v4 v5 v6 v7 : Value) : rc_Mv l yX0_key cX0_key 7 1 0 0 22 G cB cI [(h, .inr (0, [v0, v1, v2, .ref k, v4, v5, v6, v7])), (k, rc_ab cB 32 K)] sz [.ref h, .int x, .int a, .int b, .int d, .int g] (fun _ : Unit => True) (fun _ => [(h, .inr (0, [v0, v1, v2, .ref k, v4, v5, v6, v7])), (k, rc_ab cB 32 (rc_p4 K (rc_at x) a b d g))]) := by
  refine rc_ofv (by decide) (Nat.le_of_ble_eq_true rfl) ?_
  intro p e s m below meth c A ls hx hb hr hlocks hml hown hin hts hP hK hD hA hS hl
  have hown : s.vm.findClass RX0 = some m.cls := hown
  have hl : lv_has ls 7 [(0, .ref h), (1, .int x), (2, .int a), (3, .int b), (4, .int d), (5, .int g)] := hl
  have hat := rc_at_le x
  refine lv_iload_n hx hb dX0_key_0 rfl (lv_at hl 1 rfl) ?_
  refine lv_iconst (v := 1) hx hb dX0_key_1 (by decide) ?_
  refine lv_iand hx hb dX0_key_2 ?_
  refine rc_ti (y := nI (x.toBitVec.toNat % 2)) (rc_and1 _) ?_
  refine lv_iconst (v := 4) hx hb dX0_key_3 (by decide) ?_
  refine lv_ishl hx hb dX0_key_4 ?_
  refine rc_ti (y := nI (rc_at x)) (rc_at_shl _) ?_
  refine lv_istore (lv' := [(6, .int (nI (rc_at x))), (0, .ref h), (1, .int x), (2, .int a), (3, .int b), (4, .int d), (5, .int g)]) hx hb dX0_key_5 hl (by decide) rfl (fun ls hl => ?_)
  refine lv_aload_n hx hb dX0_key_7 rfl (lv_at hl 1 rfl) ?_
  refine va_get (D := G) (ci := 0) (v := .ref k) (C := RX0) (T := TX0) (N := 8) hx hb hts in_X0 hown hK hP 0 rfl rfl 3 (by decide) (hts _ q54) (fun _ h9 => h9) rfl dX0_key_8 ?_
  refine lv_iload hx hb dX0_key_11 (lv_at hl 0 rfl) ?_
  refine lv_iload_n hx hb dX0_key_13 rfl (lv_at hl 3 rfl) ?_
  refine rc_cv (wc := [(k, rc_ab cB 32 K)]) (wr := [(h, .inr (0, [v0, v1, v2, .ref k, v4, v5, v6, v7]))]) [1] [0] rfl rfl rfl (by decide) hP hD hS hA (va_runS (As := [.ref k, .int (nI (rc_at x)), .int a]) (rest := []) ⟨hx, hb, hml, hown, hts⟩ (metX0_word l G cB cI k _ 32 (rc_at x) K a (by omega) (by omega)) (va_cwS 3 hts (lw_S q81 q82 q9 q83) rfl rfl rfl (by decide +kernel) ⟨Nat.le_of_ble_eq_true rfl, Nat.le_of_ble_eq_true rfl⟩) (rc_pre hK hP hD [1] rfl rfl) rfl rfl hl.1 rfl (lv_room (Nat.le_of_ble_eq_true rfl)) dX0_key_14 ⟨Nat.le_of_ble_eq_true rfl, Nat.le_of_ble_eq_true rfl⟩) (fun u H locs hq hP hD hS => ?_)
  have hP : va_P G rc_cl [(h, .inr (0, [v0, v1, v2, .ref k, v4, v5, v6, v7])), (k, rc_ab cB 32 (rc_pw K (rc_at x) a))] H := hP.sub [0, 1] rfl
  have hD : va_D A [(h, .inr (0, [v0, v1, v2, .ref k, v4, v5, v6, v7])), (k, rc_ab cB 32 (rc_pw K (rc_at x) a))] := hD.sub [0, 1] rfl rfl
  refine W.widen (k := 0) (n := 0) (by omega) (by omega) ?_
  refine lv_aload_n hx hb dX0_key_17 rfl (lv_at hl 1 rfl) ?_
  refine va_get (D := G) (ci := 0) (v := .ref k) (C := RX0) (T := TX0) (N := 8) hx hb hts in_X0 hown hK hP 0 rfl rfl 3 (by decide) (hts _ q54) (fun _ h9 => h9) rfl dX0_key_18 ?_
  refine lv_iload hx hb dX0_key_21 (lv_at hl 0 rfl) ?_
  refine lv_iconst (v := 4) hx hb dX0_key_23 (by decide) ?_
  refine lv_iadd hx hb dX0_key_24 ?_
  refine rc_ti (y := nI (rc_at x + 4)) (nI_add _ 4) ?_
  refine lv_iload_n hx hb dX0_key_25 rfl (lv_at hl 4 rfl) ?_
  refine rc_cv (wc := [(k, rc_ab cB 32 (rc_pw K (rc_at x) a))]) (wr := [(h, .inr (0, [v0, v1, v2, .ref k, v4, v5, v6, v7]))]) [1] [0] rfl rfl rfl (by decide) hP hD hS hA (va_runS (As := [.ref k, .int (nI (rc_at x + 4)), .int b]) (rest := []) ⟨hx, hb, hml, hown, hts⟩ (metX0_word l G cB cI k _ 32 (rc_at x + 4) (rc_pw K (rc_at x) a) b (by omega) (by omega)) (va_cwS 3 hts (lw_S q81 q82 q9 q83) rfl rfl rfl (by decide +kernel) ⟨Nat.le_of_ble_eq_true rfl, Nat.le_of_ble_eq_true rfl⟩) (rc_pre hK hP hD [1] rfl rfl) rfl rfl hl.1 rfl (lv_room (Nat.le_of_ble_eq_true rfl)) dX0_key_26 ⟨Nat.le_of_ble_eq_true rfl, Nat.le_of_ble_eq_true rfl⟩) (fun u H locs hq hP hD hS => ?_)
  have hP : va_P G rc_cl [(h, .inr (0, [v0, v1, v2, .ref k, v4, v5, v6, v7])), (k, rc_ab cB 32 (rc_pw (rc_pw K (rc_at x) a) (rc_at x + 4) b))] H := hP.sub [0, 1] rfl
  have hD : va_D A [(h, .inr (0, [v0, v1, v2, .ref k, v4, v5, v6, v7])), (k, rc_ab cB 32 (rc_pw (rc_pw K (rc_at x) a) (rc_at x + 4) b))] := hD.sub [0, 1] rfl rfl
  refine W.widen (k := 0) (n := 0) (by omega) (by omega) ?_
  refine lv_aload_n hx hb dX0_key_29 rfl (lv_at hl 1 rfl) ?_
  refine va_get (D := G) (ci := 0) (v := .ref k) (C := RX0) (T := TX0) (N := 8) hx hb hts in_X0 hown hK hP 0 rfl rfl 3 (by decide) (hts _ q54) (fun _ h9 => h9) rfl dX0_key_30 ?_
  refine lv_iload hx hb dX0_key_33 (lv_at hl 0 rfl) ?_
  refine lv_bipush (v := 8) hx hb dX0_key_35 (by decide) ?_
  refine lv_iadd hx hb dX0_key_37 ?_
  refine rc_ti (y := nI (rc_at x + 8)) (nI_add _ 8) ?_
  refine lv_iload hx hb dX0_key_38 (lv_at hl 5 rfl) ?_
  refine rc_cv (wc := [(k, rc_ab cB 32 (rc_pw (rc_pw K (rc_at x) a) (rc_at x + 4) b))]) (wr := [(h, .inr (0, [v0, v1, v2, .ref k, v4, v5, v6, v7]))]) [1] [0] rfl rfl rfl (by decide) hP hD hS hA (va_runS (As := [.ref k, .int (nI (rc_at x + 8)), .int d]) (rest := []) ⟨hx, hb, hml, hown, hts⟩ (metX0_word l G cB cI k _ 32 (rc_at x + 8) (rc_pw (rc_pw K (rc_at x) a) (rc_at x + 4) b) d (by omega) (by omega)) (va_cwS 3 hts (lw_S q81 q82 q9 q83) rfl rfl rfl (by decide +kernel) ⟨Nat.le_of_ble_eq_true rfl, Nat.le_of_ble_eq_true rfl⟩) (rc_pre hK hP hD [1] rfl rfl) rfl rfl hl.1 rfl (lv_room (Nat.le_of_ble_eq_true rfl)) dX0_key_40 ⟨Nat.le_of_ble_eq_true rfl, Nat.le_of_ble_eq_true rfl⟩) (fun u H locs hq hP hD hS => ?_)
  have hP : va_P G rc_cl [(h, .inr (0, [v0, v1, v2, .ref k, v4, v5, v6, v7])), (k, rc_ab cB 32 (rc_pw (rc_pw (rc_pw K (rc_at x) a) (rc_at x + 4) b) (rc_at x + 8) d))] H := hP.sub [0, 1] rfl
  have hD : va_D A [(h, .inr (0, [v0, v1, v2, .ref k, v4, v5, v6, v7])), (k, rc_ab cB 32 (rc_pw (rc_pw (rc_pw K (rc_at x) a) (rc_at x + 4) b) (rc_at x + 8) d))] := hD.sub [0, 1] rfl rfl
  refine W.widen (k := 0) (n := 0) (by omega) (by omega) ?_
  refine lv_aload_n hx hb dX0_key_43 rfl (lv_at hl 1 rfl) ?_
  refine va_get (D := G) (ci := 0) (v := .ref k) (C := RX0) (T := TX0) (N := 8) hx hb hts in_X0 hown hK hP 0 rfl rfl 3 (by decide) (hts _ q54) (fun _ h9 => h9) rfl dX0_key_44 ?_
  refine lv_iload hx hb dX0_key_47 (lv_at hl 0 rfl) ?_
  refine lv_bipush (v := 12) hx hb dX0_key_49 (by decide) ?_
  refine lv_iadd hx hb dX0_key_51 ?_
  refine rc_ti (y := nI (rc_at x + 12)) (nI_add _ 12) ?_
  refine lv_iload hx hb dX0_key_52 (lv_at hl 6 rfl) ?_
  refine rc_cv (wc := [(k, rc_ab cB 32 (rc_pw (rc_pw (rc_pw K (rc_at x) a) (rc_at x + 4) b) (rc_at x + 8) d))]) (wr := [(h, .inr (0, [v0, v1, v2, .ref k, v4, v5, v6, v7]))]) [1] [0] rfl rfl rfl (by decide) hP hD hS hA (va_runS (As := [.ref k, .int (nI (rc_at x + 12)), .int g]) (rest := []) ⟨hx, hb, hml, hown, hts⟩ (metX0_word l G cB cI k _ 32 (rc_at x + 12) (rc_pw (rc_pw (rc_pw K (rc_at x) a) (rc_at x + 4) b) (rc_at x + 8) d) g (by omega) (by omega)) (va_cwS 3 hts (lw_S q81 q82 q9 q83) rfl rfl rfl (by decide +kernel) ⟨Nat.le_of_ble_eq_true rfl, Nat.le_of_ble_eq_true rfl⟩) (rc_pre hK hP hD [1] rfl rfl) rfl rfl hl.1 rfl (lv_room (Nat.le_of_ble_eq_true rfl)) dX0_key_54 ⟨Nat.le_of_ble_eq_true rfl, Nat.le_of_ble_eq_true rfl⟩) (fun u H locs hq hP hD hS => ?_)
  have hP : va_P G rc_cl [(h, .inr (0, [v0, v1, v2, .ref k, v4, v5, v6, v7])), (k, rc_ab cB 32 (rc_pw (rc_pw (rc_pw (rc_pw K (rc_at x) a) (rc_at x + 4) b) (rc_at x + 8) d) (rc_at x + 12) g))] H := hP.sub [0, 1] rfl
  have hD : va_D A [(h, .inr (0, [v0, v1, v2, .ref k, v4, v5, v6, v7])), (k, rc_ab cB 32 (rc_pw (rc_pw (rc_pw (rc_pw K (rc_at x) a) (rc_at x + 4) b) (rc_at x + 8) d) (rc_at x + 12) g))] := hD.sub [0, 1] rfl rfl
  refine W.widen (k := 0) (n := 0) (by omega) (by omega) ?_
  exact rc_vr hx hb hr hlocks () (trivial) (hP) (hD) hS (by omega) (by omega) dX0_key_57

set_option maxHeartbeats 4000000 in
set_option maxRecDepth 100000 in
/-- nonce -/
theorem metX0_nonce (l : Launch) (G : va_G) (cB cI : ClassId) (h n sz : Nat) (N : Nat → By) (a b d g : Int32) (v0 v1 v2 v3 v5 v6 v7 : Value) : rc_Mv l yX0_nonce cX0_nonce 5 1 0 0 22 G cB cI [(h, .inr (0, [v0, v1, v2, v3, .ref n, v5, v6, v7])), (n, rc_ab cB 16 N)] sz [.ref h, .int a, .int b, .int d, .int g] (fun _ : Unit => True) (fun _ => [(h, .inr (0, [v0, v1, v2, v3, .ref n, v5, v6, v7])), (n, rc_ab cB 16 (rc_pw (rc_pw (rc_pw (rc_pw N 0 a) 4 b) 8 d) 12 g))]) := by
  refine rc_ofv (by decide) (Nat.le_of_ble_eq_true rfl) ?_
  intro p e s m below meth c A ls hx hb hr hlocks hml hown hin hts hP hK hD hA hS hl
  have hown : s.vm.findClass RX0 = some m.cls := hown
  have hl : lv_has ls 5 [(0, .ref h), (1, .int a), (2, .int b), (3, .int d), (4, .int g)] := hl
  refine lv_aload_n hx hb dX0_nonce_0 rfl (lv_at hl 0 rfl) ?_
  refine va_get (D := G) (ci := 0) (v := .ref n) (C := RX0) (T := TX0) (N := 8) hx hb hts in_X0 hown hK hP 0 rfl rfl 4 (by decide) (hts _ q55) (fun _ h9 => h9) rfl dX0_nonce_1 ?_
  refine lv_iconst (v := 0) hx hb dX0_nonce_4 (by decide) ?_
  refine rc_ti (y := nI 0) (nI_0.symm) ?_
  refine lv_iload_n hx hb dX0_nonce_5 rfl (lv_at hl 1 rfl) ?_
  refine rc_cv (wc := [(n, rc_ab cB 16 N)]) (wr := [(h, .inr (0, [v0, v1, v2, v3, .ref n, v5, v6, v7]))]) [1] [0] rfl rfl rfl (by decide) hP hD hS hA (va_runS (As := [.ref n, .int (nI 0), .int a]) (rest := []) ⟨hx, hb, hml, hown, hts⟩ (metX0_word l G cB cI n _ 16 0 N a (by omega) (by omega)) (va_cwS 3 hts (lw_S q81 q82 q9 q83) rfl rfl rfl (by decide +kernel) ⟨Nat.le_of_ble_eq_true rfl, Nat.le_of_ble_eq_true rfl⟩) (rc_pre hK hP hD [1] rfl rfl) rfl rfl hl.1 rfl (lv_room (Nat.le_of_ble_eq_true rfl)) dX0_nonce_6 ⟨Nat.le_of_ble_eq_true rfl, Nat.le_of_ble_eq_true rfl⟩) (fun u H locs hq hP hD hS => ?_)
  have hP : va_P G rc_cl [(h, .inr (0, [v0, v1, v2, v3, .ref n, v5, v6, v7])), (n, rc_ab cB 16 (rc_pw N 0 a))] H := hP.sub [0, 1] rfl
  have hD : va_D A [(h, .inr (0, [v0, v1, v2, v3, .ref n, v5, v6, v7])), (n, rc_ab cB 16 (rc_pw N 0 a))] := hD.sub [0, 1] rfl rfl
  refine W.widen (k := 0) (n := 0) (by omega) (by omega) ?_
  refine lv_aload_n hx hb dX0_nonce_9 rfl (lv_at hl 0 rfl) ?_
  refine va_get (D := G) (ci := 0) (v := .ref n) (C := RX0) (T := TX0) (N := 8) hx hb hts in_X0 hown hK hP 0 rfl rfl 4 (by decide) (hts _ q55) (fun _ h9 => h9) rfl dX0_nonce_10 ?_
  refine lv_iconst (v := 4) hx hb dX0_nonce_13 (by decide) ?_
  refine rc_ti (y := nI 4) (by decide +kernel) ?_
  refine lv_iload_n hx hb dX0_nonce_14 rfl (lv_at hl 2 rfl) ?_
  refine rc_cv (wc := [(n, rc_ab cB 16 (rc_pw N 0 a))]) (wr := [(h, .inr (0, [v0, v1, v2, v3, .ref n, v5, v6, v7]))]) [1] [0] rfl rfl rfl (by decide) hP hD hS hA (va_runS (As := [.ref n, .int (nI 4), .int b]) (rest := []) ⟨hx, hb, hml, hown, hts⟩ (metX0_word l G cB cI n _ 16 4 (rc_pw N 0 a) b (by omega) (by omega)) (va_cwS 3 hts (lw_S q81 q82 q9 q83) rfl rfl rfl (by decide +kernel) ⟨Nat.le_of_ble_eq_true rfl, Nat.le_of_ble_eq_true rfl⟩) (rc_pre hK hP hD [1] rfl rfl) rfl rfl hl.1 rfl (lv_room (Nat.le_of_ble_eq_true rfl)) dX0_nonce_15 ⟨Nat.le_of_ble_eq_true rfl, Nat.le_of_ble_eq_true rfl⟩) (fun u H locs hq hP hD hS => ?_)
  have hP : va_P G rc_cl [(h, .inr (0, [v0, v1, v2, v3, .ref n, v5, v6, v7])), (n, rc_ab cB 16 (rc_pw (rc_pw N 0 a) 4 b))] H := hP.sub [0, 1] rfl
  have hD : va_D A [(h, .inr (0, [v0, v1, v2, v3, .ref n, v5, v6, v7])), (n, rc_ab cB 16 (rc_pw (rc_pw N 0 a) 4 b))] := hD.sub [0, 1] rfl rfl
  refine W.widen (k := 0) (n := 0) (by omega) (by omega) ?_
  refine lv_aload_n hx hb dX0_nonce_18 rfl (lv_at hl 0 rfl) ?_
  refine va_get (D := G) (ci := 0) (v := .ref n) (C := RX0) (T := TX0) (N := 8) hx hb hts in_X0 hown hK hP 0 rfl rfl 4 (by decide) (hts _ q55) (fun _ h9 => h9) rfl dX0_nonce_19 ?_
  refine lv_bipush (v := 8) hx hb dX0_nonce_22 (by decide) ?_
  refine rc_ti (y := nI 8) (by decide +kernel) ?_
  refine lv_iload_n hx hb dX0_nonce_24 rfl (lv_at hl 3 rfl) ?_
  refine rc_cv (wc := [(n, rc_ab cB 16 (rc_pw (rc_pw N 0 a) 4 b))]) (wr := [(h, .inr (0, [v0, v1, v2, v3, .ref n, v5, v6, v7]))]) [1] [0] rfl rfl rfl (by decide) hP hD hS hA (va_runS (As := [.ref n, .int (nI 8), .int d]) (rest := []) ⟨hx, hb, hml, hown, hts⟩ (metX0_word l G cB cI n _ 16 8 (rc_pw (rc_pw N 0 a) 4 b) d (by omega) (by omega)) (va_cwS 3 hts (lw_S q81 q82 q9 q83) rfl rfl rfl (by decide +kernel) ⟨Nat.le_of_ble_eq_true rfl, Nat.le_of_ble_eq_true rfl⟩) (rc_pre hK hP hD [1] rfl rfl) rfl rfl hl.1 rfl (lv_room (Nat.le_of_ble_eq_true rfl)) dX0_nonce_25 ⟨Nat.le_of_ble_eq_true rfl, Nat.le_of_ble_eq_true rfl⟩) (fun u H locs hq hP hD hS => ?_)
  have hP : va_P G rc_cl [(h, .inr (0, [v0, v1, v2, v3, .ref n, v5, v6, v7])), (n, rc_ab cB 16 (rc_pw (rc_pw (rc_pw N 0 a) 4 b) 8 d))] H := hP.sub [0, 1] rfl
  have hD : va_D A [(h, .inr (0, [v0, v1, v2, v3, .ref n, v5, v6, v7])), (n, rc_ab cB 16 (rc_pw (rc_pw (rc_pw N 0 a) 4 b) 8 d))] := hD.sub [0, 1] rfl rfl
  refine W.widen (k := 0) (n := 0) (by omega) (by omega) ?_
  refine lv_aload_n hx hb dX0_nonce_28 rfl (lv_at hl 0 rfl) ?_
  refine va_get (D := G) (ci := 0) (v := .ref n) (C := RX0) (T := TX0) (N := 8) hx hb hts in_X0 hown hK hP 0 rfl rfl 4 (by decide) (hts _ q55) (fun _ h9 => h9) rfl dX0_nonce_29 ?_
  refine lv_bipush (v := 12) hx hb dX0_nonce_32 (by decide) ?_
  refine rc_ti (y := nI 12) (by decide +kernel) ?_
  refine lv_iload hx hb dX0_nonce_34 (lv_at hl 4 rfl) ?_
  refine rc_cv (wc := [(n, rc_ab cB 16 (rc_pw (rc_pw (rc_pw N 0 a) 4 b) 8 d))]) (wr := [(h, .inr (0, [v0, v1, v2, v3, .ref n, v5, v6, v7]))]) [1] [0] rfl rfl rfl (by decide) hP hD hS hA (va_runS (As := [.ref n, .int (nI 12), .int g]) (rest := []) ⟨hx, hb, hml, hown, hts⟩ (metX0_word l G cB cI n _ 16 12 (rc_pw (rc_pw (rc_pw N 0 a) 4 b) 8 d) g (by omega) (by omega)) (va_cwS 3 hts (lw_S q81 q82 q9 q83) rfl rfl rfl (by decide +kernel) ⟨Nat.le_of_ble_eq_true rfl, Nat.le_of_ble_eq_true rfl⟩) (rc_pre hK hP hD [1] rfl rfl) rfl rfl hl.1 rfl (lv_room (Nat.le_of_ble_eq_true rfl)) dX0_nonce_36 ⟨Nat.le_of_ble_eq_true rfl, Nat.le_of_ble_eq_true rfl⟩) (fun u H locs hq hP hD hS => ?_)
  have hP : va_P G rc_cl [(h, .inr (0, [v0, v1, v2, v3, .ref n, v5, v6, v7])), (n, rc_ab cB 16 (rc_pw (rc_pw (rc_pw (rc_pw N 0 a) 4 b) 8 d) 12 g))] H := hP.sub [0, 1] rfl
  have hD : va_D A [(h, .inr (0, [v0, v1, v2, v3, .ref n, v5, v6, v7])), (n, rc_ab cB 16 (rc_pw (rc_pw (rc_pw (rc_pw N 0 a) 4 b) 8 d) 12 g))] := hD.sub [0, 1] rfl rfl
  refine W.widen (k := 0) (n := 0) (by omega) (by omega) ?_
  exact rc_vr hx hb hr hlocks () (trivial) (hP) (hD) hS (by omega) (by omega) dX0_nonce_39

def rc_or (no : Nat) (O : Nat → By) (x : Int32) : Int32 := if no = 0 then -1 else rc_z (O (rc_ps x % no))

set_option maxHeartbeats 4000000 in
set_option maxRecDepth 100000 in
/-- out -/
theorem metX0_out (l : Launch) (G : va_G) (cB cI : ClassId) (h o sz no : Nat) (O : Nat → By) (x : Int32) (v0 v1 v2 v3 v4 v5 v6 : Value) (ho : no ≤ 256) : rc_Mi l yX0_out cX0_out 2 .int 0 0 0 0 G cB cI [(h, .inr (0, [v0, v1, v2, v3, v4, v5, v6, .ref o])), (o, rc_ab cB no O)] sz [.ref h, .int x] (fun (r : Int32) (_ : Unit) => r = rc_or no O x) (fun _ => [(h, .inr (0, [v0, v1, v2, v3, v4, v5, v6, .ref o])), (o, rc_ab cB no O)]) := by
  refine rc_ofi (by decide) (Nat.le_of_ble_eq_true rfl) ?_
  intro p e s m below meth c A ls hx hb hr hlocks hml hown hin hts hP hK hD hA hS hl
  have hown : s.vm.findClass RX0 = some m.cls := hown
  have hl : lv_has ls 2 [(0, .ref h), (1, .int x)] := hl
  refine lv_aload_n hx hb dX0_out_0 rfl (lv_at hl 0 rfl) ?_
  refine va_get (D := G) (ci := 0) (v := .ref o) (C := RX0) (T := TX0) (N := 8) hx hb hts in_X0 hown hK hP 0 rfl rfl 7 (by decide) (hts _ q58) (fun _ h9 => h9) rfl dX0_out_1 ?_
  refine rc_lnB hx hb hK hP 1 rfl dX0_out_4 ?_
  refine lv_if_ne (tgt := 12) hx hb dX0_out_5 (by decide) (fun c1 => ?_) (fun c1 => ?_)
  · have c2 : 0 < no := Nat.pos_of_ne_zero (fun q => c1 (by rw [q]; exact nI_0))
    refine lv_aload_n hx hb dX0_out_12 rfl (lv_at hl 0 rfl) ?_
    refine va_get (D := G) (ci := 0) (v := .ref o) (C := RX0) (T := TX0) (N := 8) hx hb hts in_X0 hown hK hP 0 rfl rfl 7 (by decide) (hts _ q58) (fun _ h9 => h9) rfl dX0_out_13 ?_
    refine lv_iload_n hx hb dX0_out_16 rfl (lv_at hl 1 rfl) ?_
    refine lv_ldc (v := 2147483647) hx hb hown (hts _ q92) dX0_out_17 ?_
    refine lv_iand hx hb dX0_out_19 ?_
    refine rc_ti (y := nI (rc_ps x)) (rc_ps_and _) ?_
    refine lv_aload_n hx hb dX0_out_20 rfl (lv_at hl 0 rfl) ?_
    refine va_get (D := G) (ci := 0) (v := .ref o) (C := RX0) (T := TX0) (N := 8) hx hb hts in_X0 hown hK hP 0 rfl rfl 7 (by decide) (hts _ q58) (fun _ h9 => h9) rfl dX0_out_21 ?_
    refine rc_lnB hx hb hK hP 1 rfl dX0_out_24 ?_
    refine lv_irem hx hb dX0_out_25 (c1) ?_
    refine rc_ti (y := nI (rc_ps x % no)) (rc_ps_rem x c2 (by omega)) ?_
    refine rc_bld hx hb hK hP 1 rfl (rc_ps x % no) (rfl) (Nat.mod_lt _ c2) (by omega) dX0_out_26 ?_
    refine lv_sipush (v := 255) hx hb dX0_out_27 (by decide) ?_
    refine lv_iand hx hb dX0_out_30 ?_
    refine rc_ti (y := rc_z (O (rc_ps x % no))) (rc_s_and _) ?_
    exact rc_ir hx hb hr hlocks (rfl) () (if_neg (Nat.pos_iff_ne_zero.mp c2) |>.symm) (hP) (hD) hS (by omega) (by omega) dX0_out_31
  · have c2 : no = 0 := (rc_neq (b := 0) (by omega) (by omega)).mp c1
    refine lv_iconst (v := -1) hx hb dX0_out_8 (by decide) ?_
    refine lv_goto (tgt := 31) hx hb dX0_out_9 (by decide) ?_
    exact rc_ir hx hb hr hlocks (rfl) () (if_pos c2 |>.symm) (hP) (hD) hS (by omega) (by omega) dX0_out_31
end
section
/-! RcFourDesk: its constructor, begin -/
set_option maxHeartbeats 4000000 in
set_option maxRecDepth 100000 in
/-- RcFourDesk(): no key yet -/
theorem metX0_init (l : Launch) (G : va_G) (cB cI : ClassId) (h sz : Nat) : rc_Mv l yX0_init cX0_init 1 2 5 309 32 G cB cI [(h, .inr (0, [.null, .int 0, .int 0, .null, .null, .null, .int 0, .null]))] sz [.ref h] (fun _ : Nat × Nat × Nat × Nat × Nat => True) (fun u => [(h, .inr (0, [.ref u.1, .int 0, .int 0, .ref u.2.1, .ref u.2.2.1, .ref u.2.2.2.1, .int 0, .ref u.2.2.2.2])), (u.2.1, rc_ab cB 32 (fun _ => 0)), (u.2.2.1, rc_ab cB 16 (fun _ => 0)), (u.2.2.2.1, rc_ab cB 256 (fun _ => 0)), (u.2.2.2.2, rc_ab cB 0 (fun _ => 0))]) := by
  refine rc_ofv (by decide) (Nat.le_of_ble_eq_true rfl) ?_
  intro p e s m below meth c A ls hx hb hr hlocks hml hown hin hts hP hK hD hA hS hl
  have hown : s.vm.findClass RX0 = some m.cls := hown
  have hin : meth.name = "<init>" := hin
  have hl : lv_has ls 1 [(0, .ref h)] := hl
  refine lv_aload_n hx hb dX0_init_0 rfl (lv_at hl 0 rfl) ?_
  refine W.objInit hx hb hown (hts _ q26) (hts _ q27) (hts _ q28) rfl (by rw [hml]; exact hl.1) rfl dX0_init_1 (Nat.le_of_ble_eq_true rfl) (Nat.le_of_ble_eq_true rfl) ?_
  refine W.eq (g2 := F0 m 4 ls []) rfl ?_
  refine lv_aload_n hx hb dX0_init_4 rfl (lv_at hl 0 rfl) ?_
  refine va_new (ci := 1) (fs := [.null, .int 0, .int 0, .null, .int 0]) (C := RX1) (T := TX1) (N := 5) hx hb hts in_X1 tyX1 tyX1_ok hown (hts _ q29) (hts _ q30) (hts _ q10) hK hP hD hS hA rfl (fun j hj => by rcases (show j = 0 ∨ j = 1 ∨ j = 2 ∨ j = 3 ∨ j = 4 by omega) with rfl | rfl | rfl | rfl | rfl <;> rfl) (Nat.le_of_ble_eq_true rfl) (Nat.le_of_ble_eq_true rfl) dX0_init_5 (fun e1 H hP hD hS => ?_)
  have hP : va_P G rc_cl [(h, .inr (0, [.null, .int 0, .int 0, .null, .null, .null, .int 0, .null])), (e1, .inr (1, [.null, .int 0, .int 0, .null, .int 0]))] H := hP
  have hD : va_D A [(h, .inr (0, [.null, .int 0, .int 0, .null, .null, .null, .int 0, .null])), (e1, .inr (1, [.null, .int 0, .int 0, .null, .int 0]))] := hD
  refine W.widen (k := 1) (n := 5) (by omega) (by omega) ?_
  refine lv_dup hx hb dX0_init_8 rfl ?_
  refine rc_cv (wc := [(e1, .inr (1, [.null, .int 0, .int 0, .null, .int 0]))]) (wr := [(h, .inr (0, [.null, .int 0, .int 0, .null, .null, .null, .int 0, .null]))]) [1] [0] rfl rfl rfl (by decide) hP hD hS hA (va_runI (As := []) (rest := [.ref e1, .ref h]) ⟨hx, hb, hml, hown, hts⟩ (metX1_init l G cB cI e1 _) (cwI 0 hts (lw_meth q33) rfl rfl rfl (hts _ q10) (hts _ q31) (hts _ q32) rfl (by decide +kernel) ⟨Nat.le_of_ble_eq_true rfl, Nat.le_of_ble_eq_true rfl⟩) (rc_pre hK hP hD [1] rfl rfl) rfl rfl hl.1 rfl (lv_room (Nat.le_of_ble_eq_true rfl)) dX0_init_9 ⟨Nat.le_of_ble_eq_true rfl, Nat.le_of_ble_eq_true rfl⟩) (fun u H locs hq hP hD hS => ?_)
  have hP : va_P G rc_cl [(h, .inr (0, [.null, .int 0, .int 0, .null, .null, .null, .int 0, .null])), (e1, .inr (1, [.null, .int 0, .int 0, .null, .int 0]))] H := hP
  have hD : va_D A [(h, .inr (0, [.null, .int 0, .int 0, .null, .null, .null, .int 0, .null])), (e1, .inr (1, [.null, .int 0, .int 0, .null, .int 0]))] := hD
  refine W.widen (k := 1) (n := 5) (by omega) (by omega) ?_
  refine va_put (D := G) (ci := 0) (v := .ref e1) (ty := .object "RC4Engine") (C := RX0) (T := TX0) (N := 8) hx hb hts in_X0 tyX0 tyX0_ok nmX0 hown hK hP hD hS 0 rfl rfl 0 (by decide) (hts _ q51) (fun _ h9 => h9) rfl (by decide +kernel) rfl rfl (Nat.le_of_ble_eq_true rfl) dX0_init_12 (fun H locs hP hD hS => ?_)
  have hP : va_P G rc_cl [(h, .inr (0, [.ref e1, .int 0, .int 0, .null, .null, .null, .int 0, .null])), (e1, .inr (1, [.null, .int 0, .int 0, .null, .int 0]))] H := hP
  have hD : va_D A [(h, .inr (0, [.ref e1, .int 0, .int 0, .null, .null, .null, .int 0, .null])), (e1, .inr (1, [.null, .int 0, .int 0, .null, .int 0]))] := hD
  refine lv_aload_n hx hb dX0_init_15 rfl (lv_at hl 0 rfl) ?_
  refine lv_bipush (v := 32) hx hb dX0_init_16 (by decide) ?_
  refine rc_nwB hx hb (hts _ q76) hK hP hD hS hA 32 (by decide +kernel) (Nat.le_of_ble_eq_true rfl) (Nat.le_of_ble_eq_true rfl) (Nat.le_of_ble_eq_true rfl) dX0_init_18 (fun k H hP hD hS => ?_)
  have hP : va_P G rc_cl [(h, .inr (0, [.ref e1, .int 0, .int 0, .null, .null, .null, .int 0, .null])), (e1, .inr (1, [.null, .int 0, .int 0, .null, .int 0])), (k, rc_ab cB 32 (fun _ => 0))] H := hP
  have hD : va_D A [(h, .inr (0, [.ref e1, .int 0, .int 0, .null, .null, .null, .int 0, .null])), (e1, .inr (1, [.null, .int 0, .int 0, .null, .int 0])), (k, rc_ab cB 32 (fun _ => 0))] := hD
  refine W.widen (k := 2) (n := 37) (by omega) (by omega) ?_
  refine va_putF (D := G) (ci := 0) (v := .ref k) (ty := .array .byte) (C := RX0) (T := TX0) (N := 8) hx hb hts in_X0 tyX0 tyX0_ok nmX0 hown hK hP hD hS 0 rfl rfl 3 (by decide) (hts _ q54) (fun _ h9 => h9) rfl hin rfl (by decide +kernel) rfl rfl (Nat.le_of_ble_eq_true rfl) dX0_init_20 (fun H locs hP hD hS => ?_)
  have hP : va_P G rc_cl [(h, .inr (0, [.ref e1, .int 0, .int 0, .ref k, .null, .null, .int 0, .null])), (e1, .inr (1, [.null, .int 0, .int 0, .null, .int 0])), (k, rc_ab cB 32 (fun _ => 0))] H := hP
  have hD : va_D A [(h, .inr (0, [.ref e1, .int 0, .int 0, .ref k, .null, .null, .int 0, .null])), (e1, .inr (1, [.null, .int 0, .int 0, .null, .int 0])), (k, rc_ab cB 32 (fun _ => 0))] := hD
  refine lv_aload_n hx hb dX0_init_23 rfl (lv_at hl 0 rfl) ?_
  refine lv_bipush (v := 16) hx hb dX0_init_24 (by decide) ?_
  refine rc_nwB hx hb (hts _ q76) hK hP hD hS hA 16 (by decide +kernel) (Nat.le_of_ble_eq_true rfl) (Nat.le_of_ble_eq_true rfl) (Nat.le_of_ble_eq_true rfl) dX0_init_26 (fun n H hP hD hS => ?_)
  have hP : va_P G rc_cl [(h, .inr (0, [.ref e1, .int 0, .int 0, .ref k, .null, .null, .int 0, .null])), (e1, .inr (1, [.null, .int 0, .int 0, .null, .int 0])), (k, rc_ab cB 32 (fun _ => 0)), (n, rc_ab cB 16 (fun _ => 0))] H := hP
  have hD : va_D A [(h, .inr (0, [.ref e1, .int 0, .int 0, .ref k, .null, .null, .int 0, .null])), (e1, .inr (1, [.null, .int 0, .int 0, .null, .int 0])), (k, rc_ab cB 32 (fun _ => 0)), (n, rc_ab cB 16 (fun _ => 0))] := hD
  refine W.widen (k := 3) (n := 53) (by omega) (by omega) ?_
  refine va_putF (D := G) (ci := 0) (v := .ref n) (ty := .array .byte) (C := RX0) (T := TX0) (N := 8) hx hb hts in_X0 tyX0 tyX0_ok nmX0 hown hK hP hD hS 0 rfl rfl 4 (by decide) (hts _ q55) (fun _ h9 => h9) rfl hin rfl (by decide +kernel) rfl rfl (Nat.le_of_ble_eq_true rfl) dX0_init_28 (fun H locs hP hD hS => ?_)
  have hP : va_P G rc_cl [(h, .inr (0, [.ref e1, .int 0, .int 0, .ref k, .ref n, .null, .int 0, .null])), (e1, .inr (1, [.null, .int 0, .int 0, .null, .int 0])), (k, rc_ab cB 32 (fun _ => 0)), (n, rc_ab cB 16 (fun _ => 0))] H := hP
  have hD : va_D A [(h, .inr (0, [.ref e1, .int 0, .int 0, .ref k, .ref n, .null, .int 0, .null])), (e1, .inr (1, [.null, .int 0, .int 0, .null, .int 0])), (k, rc_ab cB 32 (fun _ => 0)), (n, rc_ab cB 16 (fun _ => 0))] := hD
  refine lv_aload_n hx hb dX0_init_31 rfl (lv_at hl 0 rfl) ?_
  refine lv_sipush (v := 256) hx hb dX0_init_32 (by decide) ?_
  refine rc_nwB hx hb (hts _ q76) hK hP hD hS hA 256 (by decide +kernel) (Nat.le_of_ble_eq_true rfl) (Nat.le_of_ble_eq_true rfl) (Nat.le_of_ble_eq_true rfl) dX0_init_35 (fun t H hP hD hS => ?_)
  have hP : va_P G rc_cl [(h, .inr (0, [.ref e1, .int 0, .int 0, .ref k, .ref n, .null, .int 0, .null])), (e1, .inr (1, [.null, .int 0, .int 0, .null, .int 0])), (k, rc_ab cB 32 (fun _ => 0)), (n, rc_ab cB 16 (fun _ => 0)), (t, rc_ab cB 256 (fun _ => 0))] H := hP
  have hD : va_D A [(h, .inr (0, [.ref e1, .int 0, .int 0, .ref k, .ref n, .null, .int 0, .null])), (e1, .inr (1, [.null, .int 0, .int 0, .null, .int 0])), (k, rc_ab cB 32 (fun _ => 0)), (n, rc_ab cB 16 (fun _ => 0)), (t, rc_ab cB 256 (fun _ => 0))] := hD
  refine W.widen (k := 4) (n := 309) (by omega) (by omega) ?_
  refine va_putF (D := G) (ci := 0) (v := .ref t) (ty := .array .byte) (C := RX0) (T := TX0) (N := 8) hx hb hts in_X0 tyX0 tyX0_ok nmX0 hown hK hP hD hS 0 rfl rfl 5 (by decide) (hts _ q56) (fun _ h9 => h9) rfl hin rfl (by decide +kernel) rfl rfl (Nat.le_of_ble_eq_true rfl) dX0_init_37 (fun H locs hP hD hS => ?_)
  have hP : va_P G rc_cl [(h, .inr (0, [.ref e1, .int 0, .int 0, .ref k, .ref n, .ref t, .int 0, .null])), (e1, .inr (1, [.null, .int 0, .int 0, .null, .int 0])), (k, rc_ab cB 32 (fun _ => 0)), (n, rc_ab cB 16 (fun _ => 0)), (t, rc_ab cB 256 (fun _ => 0))] H := hP
  have hD : va_D A [(h, .inr (0, [.ref e1, .int 0, .int 0, .ref k, .ref n, .ref t, .int 0, .null])), (e1, .inr (1, [.null, .int 0, .int 0, .null, .int 0])), (k, rc_ab cB 32 (fun _ => 0)), (n, rc_ab cB 16 (fun _ => 0)), (t, rc_ab cB 256 (fun _ => 0))] := hD
  refine lv_aload_n hx hb dX0_init_40 rfl (lv_at hl 0 rfl) ?_
  refine lv_iconst (v := 0) hx hb dX0_init_41 (by decide) ?_
  refine rc_nwB hx hb (hts _ q76) hK hP hD hS hA 0 (by decide +kernel) (Nat.le_of_ble_eq_true rfl) (Nat.le_of_ble_eq_true rfl) (Nat.le_of_ble_eq_true rfl) dX0_init_42 (fun o H hP hD hS => ?_)
  have hP : va_P G rc_cl [(h, .inr (0, [.ref e1, .int 0, .int 0, .ref k, .ref n, .ref t, .int 0, .null])), (e1, .inr (1, [.null, .int 0, .int 0, .null, .int 0])), (k, rc_ab cB 32 (fun _ => 0)), (n, rc_ab cB 16 (fun _ => 0)), (t, rc_ab cB 256 (fun _ => 0)), (o, rc_ab cB 0 (fun _ => 0))] H := hP
  have hD : va_D A [(h, .inr (0, [.ref e1, .int 0, .int 0, .ref k, .ref n, .ref t, .int 0, .null])), (e1, .inr (1, [.null, .int 0, .int 0, .null, .int 0])), (k, rc_ab cB 32 (fun _ => 0)), (n, rc_ab cB 16 (fun _ => 0)), (t, rc_ab cB 256 (fun _ => 0)), (o, rc_ab cB 0 (fun _ => 0))] := hD
  refine W.widen (k := 5) (n := 309) (by omega) (by omega) ?_
  refine va_put (D := G) (ci := 0) (v := .ref o) (ty := .array .byte) (C := RX0) (T := TX0) (N := 8) hx hb hts in_X0 tyX0 tyX0_ok nmX0 hown hK hP hD hS 0 rfl rfl 7 (by decide) (hts _ q58) (fun _ h9 => h9) rfl (by decide +kernel) rfl rfl (Nat.le_of_ble_eq_true rfl) dX0_init_44 (fun H locs hP hD hS => ?_)
  have hP : va_P G rc_cl [(h, .inr (0, [.ref e1, .int 0, .int 0, .ref k, .ref n, .ref t, .int 0, .ref o])), (e1, .inr (1, [.null, .int 0, .int 0, .null, .int 0])), (k, rc_ab cB 32 (fun _ => 0)), (n, rc_ab cB 16 (fun _ => 0)), (t, rc_ab cB 256 (fun _ => 0)), (o, rc_ab cB 0 (fun _ => 0))] H := hP
  have hD : va_D A [(h, .inr (0, [.ref e1, .int 0, .int 0, .ref k, .ref n, .ref t, .int 0, .ref o])), (e1, .inr (1, [.null, .int 0, .int 0, .null, .int 0])), (k, rc_ab cB 32 (fun _ => 0)), (n, rc_ab cB 16 (fun _ => 0)), (t, rc_ab cB 256 (fun _ => 0)), (o, rc_ab cB 0 (fun _ => 0))] := hD
  exact rc_vr hx hb hr hlocks (e1, k, n, t, o) (trivial) (hP.sub [0, 2, 3, 4, 5] rfl) (hD.sub [0, 2, 3, 4, 5] rfl rfl) hS (by omega) (by omega) dX0_init_47

def rc_un (x : Int32) : Nat := x.toBitVec.toNat % 32 + 1
theorem rc_un_le (x : Int32) : rc_un x ≤ 32 := by
  have h : x.toBitVec.toNat % 32 < 32 := Nat.mod_lt _ (by decide)
  show x.toBitVec.toNat % 32 + 1 ≤ 32
  omega
theorem rc_un_pos (x : Int32) : 0 < rc_un x := Nat.succ_pos _
theorem rc_un_nI (x : Int32) : 1 + nI (x.toBitVec.toNat % 32) = nI (rc_un x) := (Int32.add_comm _ _).trans (nI_1 _)

set_option maxHeartbeats 4000000 in
set_option maxRecDepth 100000 in
/-- begin: its loop copies the key -/
theorem lpX0_cp {p : Program} {l : Launch} {e : Env} {s : State} {m : MethodId} {args : Array Value} {below : List Frame} {meth : Method} {c : Code} {R : Room} {cells slots : Nat} {Q : State → Prop} {G : va_G} {cB cI : ClassId} {A : Nat → Prop} (hx : p.tables.exec = Jvm.exec) (hb : c.code = cX0_begin) (hml : c.maxLocals = 4) (hown : s.vm.findClass RX0 = some m.cls) (hts : ∀ w ∈ lw_all, w.before args s = true) (hK : va_K G rc_cl (rc_ty cB cI) s) (hA : ∀ q : Nat, s.heap.size ≤ q → A q) (h k b n : Nat) (K : Nat → By) (x : Int32) (v0 v1 v2 v4 v5 v6 v7 : Value) (hn : n ≤ 32)
    (hexit : ∀ (H : Heap) (locs : List Loc) (ls : Array Slot), va_P G rc_cl [(h, .inr (0, [v0, v1, v2, .ref k, v4, v5, v6, v7])), (k, rc_ab cB 32 K), (b, rc_ab cB n (rc_cp K n))] H → va_D A [(h, .inr (0, [v0, v1, v2, .ref k, v4, v5, v6, v7])), (k, rc_ab cB 32 K), (b, rc_ab cB n (rc_cp K n))] → va_S A s.heap H locs → lv_has ls 4 [(0, .ref h), (1, .int x), (2, .ref b), (3, .int (nI n))] → W p l e R s m args below meth c H locs cells slots Q (F0 m 32 ls [])) :
    ∀ (d i : Nat), i + d = n → ∀ (H : Heap) (locs : List Loc) (ls : Array Slot), va_P G rc_cl [(h, .inr (0, [v0, v1, v2, .ref k, v4, v5, v6, v7])), (k, rc_ab cB 32 K), (b, rc_ab cB n (rc_cp K i))] H → va_D A [(h, .inr (0, [v0, v1, v2, .ref k, v4, v5, v6, v7])), (k, rc_ab cB 32 K), (b, rc_ab cB n (rc_cp K i))] → va_S A s.heap H locs → lv_has ls 4 [(0, .ref h), (1, .int x), (2, .ref b), (3, .int (nI i))] → W p l e R s m args below meth c H locs cells slots Q (F0 m 11 ls []) := by
  intro d
  induction d with
  | zero =>
    intro i hi H locs ls hP hD hS hl
    obtain rfl : i = n := by omega
    refine lv_iload_n hx hb dX0_begin_11 rfl (lv_at hl 3 rfl) ?_
    refine lv_aload_n hx hb dX0_begin_12 rfl (lv_at hl 2 rfl) ?_
    refine rc_lnB hx hb hK hP 2 rfl dX0_begin_13 ?_
    refine lv_icmp_ge (tgt := 32) hx hb dX0_begin_14 (by decide) (fun _ => ?_) (fun h9 => absurd (Int32.le_refl _) h9)
    exact hexit H locs ls hP hD hS hl
  | succ d ih =>
    intro i hi H locs ls hP hD hS hl
    refine lv_iload_n hx hb dX0_begin_11 rfl (lv_at hl 3 rfl) ?_
    refine lv_aload_n hx hb dX0_begin_12 rfl (lv_at hl 2 rfl) ?_
    refine rc_lnB hx hb hK hP 2 rfl dX0_begin_13 ?_
    refine lv_icmp_ge (tgt := 32) hx hb dX0_begin_14 (by decide) (fun h9 => absurd h9 (fun h9 => absurd ((rc_nle (by omega) (by omega)).mp h9) (by omega))) (fun _ => ?_)
    refine lv_aload_n hx hb dX0_begin_17 rfl (lv_at hl 2 rfl) ?_
    refine lv_iload_n hx hb dX0_begin_18 rfl (lv_at hl 3 rfl) ?_
    refine lv_aload_n hx hb dX0_begin_19 rfl (lv_at hl 0 rfl) ?_
    refine va_get (D := G) (ci := 0) (v := .ref k) (C := RX0) (T := TX0) (N := 8) hx hb hts in_X0 hown hK hP 0 rfl rfl 3 (by decide) (hts _ q54) (fun _ h9 => h9) rfl dX0_begin_20 ?_
    refine lv_iload_n hx hb dX0_begin_23 rfl (lv_at hl 3 rfl) ?_
    refine rc_bld hx hb hK hP 1 rfl i (rfl) (by omega) (Nat.le_of_ble_eq_true rfl) dX0_begin_24 ?_
    refine rc_bst hx hb hK hP hD hS 2 rfl i (rfl) (by omega) (by omega) (K i) (rfl) dX0_begin_25 (fun H locs hP hD hS => ?_)
    have hP : va_P G rc_cl [(h, .inr (0, [v0, v1, v2, .ref k, v4, v5, v6, v7])), (k, rc_ab cB 32 K), (b, rc_ab cB n (rc_up (rc_cp K i) i (K i)))] H := hP
    have hD : va_D A [(h, .inr (0, [v0, v1, v2, .ref k, v4, v5, v6, v7])), (k, rc_ab cB 32 K), (b, rc_ab cB n (rc_up (rc_cp K i) i (K i)))] := hD
    rw [rc_cp_up] at hP hD
    have hP : va_P G rc_cl [(h, .inr (0, [v0, v1, v2, .ref k, v4, v5, v6, v7])), (k, rc_ab cB 32 K), (b, rc_ab cB n (rc_cp K (i + 1)))] H := hP
    have hD : va_D A [(h, .inr (0, [v0, v1, v2, .ref k, v4, v5, v6, v7])), (k, rc_ab cB 32 K), (b, rc_ab cB n (rc_cp K (i + 1)))] := hD
    refine lv_iinc (v := nI (i + 1)) (lv' := [(3, .int (nI (i + 1))), (0, .ref h), (1, .int x), (2, .ref b)]) hx hb dX0_begin_26 hl (k := 3) rfl (nI_1 i) (by decide) rfl (fun ls hl => ?_)
    refine lv_goto (tgt := 11) hx hb dX0_begin_29 (by decide) ?_
    exact ih (i + 1) (by omega) H locs ls hP hD hS (lv_sub hl [1, 2, 3, 0] rfl)

set_option maxHeartbeats 4000000 in
set_option maxRecDepth 100000 in
/-- begin: a new engine with its state laid -/
theorem metX0_begin (l : Launch) (G : va_G) (cB cI : ClassId) (h k sz : Nat) (K : Nat → By) (x : Int32) (v0 v1 v2 v4 v5 v6 v7 : Value) : rc_Mv l yX0_begin cX0_begin 4 4 5 326 77 G cB cI [(h, .inr (0, [v0, v1, v2, .ref k, v4, v5, v6, v7])), (k, rc_ab cB 32 K)] sz [.ref h, .int x] (fun _ : Nat × Nat × Nat => True) (fun u => [(h, .inr (0, [.ref u.1, .int 1, .int (nI 0), .ref k, v4, v5, v6, v7])), (k, rc_ab cB 32 K), (u.1, .inr (1, [.ref u.2.1, .int (rc_z 0), .int (rc_z 0), .ref u.2.2, .int 1])), (u.2.1, rc_ab cB 256 ((rc_ks (rc_cp K (rc_un x)) (rc_un x) 256).1)), (u.2.2, rc_ab cB (rc_un x) (rc_cp K (rc_un x)))]) := by
  refine rc_ofv (by decide) (Nat.le_of_ble_eq_true rfl) ?_
  intro p e s m below meth c A ls hx hb hr hlocks hml hown hin hts hP hK hD hA hS hl
  have hown : s.vm.findClass RX0 = some m.cls := hown
  have hl : lv_has ls 4 [(0, .ref h), (1, .int x)] := hl
  have hun := rc_un_le x
  refine lv_iconst (v := 1) hx hb dX0_begin_0 (by decide) ?_
  refine lv_iload_n hx hb dX0_begin_1 rfl (lv_at hl 1 rfl) ?_
  refine lv_bipush (v := 31) hx hb dX0_begin_2 (by decide) ?_
  refine lv_iand hx hb dX0_begin_4 ?_
  refine rc_ti (y := nI (x.toBitVec.toNat % 32)) (rc_and31 _) ?_
  refine lv_iadd hx hb dX0_begin_5 ?_
  refine rc_ti (y := nI (rc_un x)) (rc_un_nI _) ?_
  refine rc_nwB hx hb (hts _ q76) hK hP hD hS hA (rc_un x) (rfl) (by omega) (Nat.le_of_ble_eq_true rfl) (by show 0 + rc_un x ≤ 326; omega) dX0_begin_6 (fun b H hP hD hS => ?_)
  have hP : va_P G rc_cl [(h, .inr (0, [v0, v1, v2, .ref k, v4, v5, v6, v7])), (k, rc_ab cB 32 K), (b, rc_ab cB (rc_un x) (fun _ => 0))] H := hP
  have hD : va_D A [(h, .inr (0, [v0, v1, v2, .ref k, v4, v5, v6, v7])), (k, rc_ab cB 32 K), (b, rc_ab cB (rc_un x) (fun _ => 0))] := hD
  refine W.widen (k := 1) (n := 32) (by omega) (by omega) ?_
  refine lv_astore_n (lv' := [(2, .ref b), (0, .ref h), (1, .int x)]) hx hb dX0_begin_8 rfl hl (by decide) rfl (fun ls hl => ?_)
  refine lv_iconst (v := 0) hx hb dX0_begin_9 (by decide) ?_
  refine rc_ti (y := nI 0) (nI_0.symm) ?_
  refine lv_istore_n (lv' := [(3, .int (nI 0)), (2, .ref b), (0, .ref h), (1, .int x)]) hx hb dX0_begin_10 rfl hl (by decide) rfl (fun ls hl => ?_)
  refine lpX0_cp (cells := 1) (slots := 32) hx hb hml hown hts hK hA h k b (rc_un x) K x v0 v1 v2 v4 v5 v6 v7 hun (fun H locs ls hP hD hS hl => ?_) (rc_un x) 0 (Nat.zero_add _) _ _ ls (by rw [rc_cp_0]; exact hP) (by rw [rc_cp_0]; exact hD) hS (lv_sub hl [2, 3, 1, 0] rfl)
  refine va_new (ci := 3) (fs := [.null]) (C := RX3) (T := TX3) (N := 1) hx hb hts in_X3 tyX3 tyX3_ok hown (hts _ q105) (hts _ q106) (hts _ q12) hK hP hD hS hA rfl (fun j hj => by rcases (show j = 0 by omega) with rfl <;> rfl) (Nat.le_of_ble_eq_true rfl) (Nat.le_of_ble_eq_true rfl) dX0_begin_32 (fun kp H hP hD hS => ?_)
  have hP : va_P G rc_cl [(h, .inr (0, [v0, v1, v2, .ref k, v4, v5, v6, v7])), (k, rc_ab cB 32 K), (b, rc_ab cB (rc_un x) (rc_cp K (rc_un x))), (kp, .inr (3, [.null]))] H := hP
  have hD : va_D A [(h, .inr (0, [v0, v1, v2, .ref k, v4, v5, v6, v7])), (k, rc_ab cB 32 K), (b, rc_ab cB (rc_un x) (rc_cp K (rc_un x))), (kp, .inr (3, [.null]))] := hD
  refine W.widen (k := 2) (n := 33) (by omega) (by omega) ?_
  refine lv_dup hx hb dX0_begin_35 rfl ?_
  refine lv_aload_n hx hb dX0_begin_36 rfl (lv_at hl 2 rfl) ?_
  refine rc_cv (wc := [(kp, .inr (3, [.null])), (b, rc_ab cB (rc_un x) (rc_cp K (rc_un x)))]) (wr := [(h, .inr (0, [v0, v1, v2, .ref k, v4, v5, v6, v7])), (k, rc_ab cB 32 K)]) [3, 2] [0, 1] rfl rfl rfl (by decide) hP hD hS hA (va_runI (As := [.ref b]) (rest := [.ref kp]) ⟨hx, hb, hml, hown, hts⟩ (metX3_init l G cB cI kp b _ (rc_un x) (rc_cp K (rc_un x)) hun) (cwI 1 hts (lw_meth q109) rfl rfl rfl (hts _ q12) (hts _ q107) (hts _ q108) rfl (by decide +kernel) ⟨Nat.le_of_ble_eq_true rfl, Nat.le_of_ble_eq_true rfl⟩) (rc_pre hK hP hD [3, 2] rfl rfl) rfl rfl hl.1 rfl (lv_room (Nat.le_of_ble_eq_true rfl)) dX0_begin_37 ⟨Nat.le_of_ble_eq_true rfl, Nat.le_of_ble_eq_true rfl⟩) (fun w H locs hq hP hD hS => ?_)
  have hP : va_P G rc_cl [(h, .inr (0, [v0, v1, v2, .ref k, v4, v5, v6, v7])), (k, rc_ab cB 32 K), (b, rc_ab cB (rc_un x) (rc_cp K (rc_un x))), (kp, .inr (3, [.ref w])), (w, rc_ab cB (rc_un x) (rc_cp (rc_cp K (rc_un x)) (rc_un x)))] H := hP.sub [0, 1, 3, 2, 4] rfl
  have hD : va_D A [(h, .inr (0, [v0, v1, v2, .ref k, v4, v5, v6, v7])), (k, rc_ab cB 32 K), (b, rc_ab cB (rc_un x) (rc_cp K (rc_un x))), (kp, .inr (3, [.ref w])), (w, rc_ab cB (rc_un x) (rc_cp (rc_cp K (rc_un x)) (rc_un x)))] := hD.sub [0, 1, 3, 2, 4] rfl rfl
  refine W.widen (k := 3) (n := 65) (by omega) (by omega) ?_
  rw [rc_cp_cp] at hP hD
  have hP : va_P G rc_cl [(h, .inr (0, [v0, v1, v2, .ref k, v4, v5, v6, v7])), (k, rc_ab cB 32 K), (b, rc_ab cB (rc_un x) (rc_cp K (rc_un x))), (kp, .inr (3, [.ref w])), (w, rc_ab cB (rc_un x) (rc_cp K (rc_un x)))] H := hP
  have hD : va_D A [(h, .inr (0, [v0, v1, v2, .ref k, v4, v5, v6, v7])), (k, rc_ab cB 32 K), (b, rc_ab cB (rc_un x) (rc_cp K (rc_un x))), (kp, .inr (3, [.ref w])), (w, rc_ab cB (rc_un x) (rc_cp K (rc_un x)))] := hD
  refine lv_astore_n (lv' := [(3, .ref kp), (0, .ref h), (1, .int x), (2, .ref b)]) hx hb dX0_begin_40 rfl hl (by decide) rfl (fun ls hl => ?_)
  refine lv_aload_n hx hb dX0_begin_41 rfl (lv_at hl 1 rfl) ?_
  refine va_new (ci := 1) (fs := [.null, .int 0, .int 0, .null, .int 0]) (C := RX1) (T := TX1) (N := 5) hx hb hts in_X1 tyX1 tyX1_ok hown (hts _ q29) (hts _ q30) (hts _ q10) hK hP hD hS hA rfl (fun j hj => by rcases (show j = 0 ∨ j = 1 ∨ j = 2 ∨ j = 3 ∨ j = 4 by omega) with rfl | rfl | rfl | rfl | rfl <;> rfl) (Nat.le_of_ble_eq_true rfl) (Nat.le_of_ble_eq_true rfl) dX0_begin_42 (fun e1 H hP hD hS => ?_)
  have hP : va_P G rc_cl [(h, .inr (0, [v0, v1, v2, .ref k, v4, v5, v6, v7])), (k, rc_ab cB 32 K), (b, rc_ab cB (rc_un x) (rc_cp K (rc_un x))), (kp, .inr (3, [.ref w])), (w, rc_ab cB (rc_un x) (rc_cp K (rc_un x))), (e1, .inr (1, [.null, .int 0, .int 0, .null, .int 0]))] H := hP
  have hD : va_D A [(h, .inr (0, [v0, v1, v2, .ref k, v4, v5, v6, v7])), (k, rc_ab cB 32 K), (b, rc_ab cB (rc_un x) (rc_cp K (rc_un x))), (kp, .inr (3, [.ref w])), (w, rc_ab cB (rc_un x) (rc_cp K (rc_un x))), (e1, .inr (1, [.null, .int 0, .int 0, .null, .int 0]))] := hD
  refine W.widen (k := 4) (n := 70) (by omega) (by omega) ?_
  refine lv_dup hx hb dX0_begin_45 rfl ?_
  refine rc_cv (wc := [(e1, .inr (1, [.null, .int 0, .int 0, .null, .int 0]))]) (wr := [(h, .inr (0, [v0, v1, v2, .ref k, v4, v5, v6, v7])), (k, rc_ab cB 32 K), (b, rc_ab cB (rc_un x) (rc_cp K (rc_un x))), (kp, .inr (3, [.ref w])), (w, rc_ab cB (rc_un x) (rc_cp K (rc_un x)))]) [5] [0, 1, 2, 3, 4] rfl rfl rfl (by decide) hP hD hS hA (va_runI (As := []) (rest := [.ref e1, .ref h]) ⟨hx, hb, hml, hown, hts⟩ (metX1_init l G cB cI e1 _) (cwI 0 hts (lw_meth q33) rfl rfl rfl (hts _ q10) (hts _ q31) (hts _ q32) rfl (by decide +kernel) ⟨Nat.le_of_ble_eq_true rfl, Nat.le_of_ble_eq_true rfl⟩) (rc_pre hK hP hD [5] rfl rfl) rfl rfl hl.1 rfl (lv_room (Nat.le_of_ble_eq_true rfl)) dX0_begin_46 ⟨Nat.le_of_ble_eq_true rfl, Nat.le_of_ble_eq_true rfl⟩) (fun u H locs hq hP hD hS => ?_)
  have hP : va_P G rc_cl [(h, .inr (0, [v0, v1, v2, .ref k, v4, v5, v6, v7])), (k, rc_ab cB 32 K), (b, rc_ab cB (rc_un x) (rc_cp K (rc_un x))), (kp, .inr (3, [.ref w])), (w, rc_ab cB (rc_un x) (rc_cp K (rc_un x))), (e1, .inr (1, [.null, .int 0, .int 0, .null, .int 0]))] H := hP
  have hD : va_D A [(h, .inr (0, [v0, v1, v2, .ref k, v4, v5, v6, v7])), (k, rc_ab cB 32 K), (b, rc_ab cB (rc_un x) (rc_cp K (rc_un x))), (kp, .inr (3, [.ref w])), (w, rc_ab cB (rc_un x) (rc_cp K (rc_un x))), (e1, .inr (1, [.null, .int 0, .int 0, .null, .int 0]))] := hD
  refine W.widen (k := 4) (n := 70) (by omega) (by omega) ?_
  refine va_put (D := G) (ci := 0) (v := .ref e1) (ty := .object "RC4Engine") (C := RX0) (T := TX0) (N := 8) hx hb hts in_X0 tyX0 tyX0_ok nmX0 hown hK hP hD hS 0 rfl rfl 0 (by decide) (hts _ q51) (fun _ h9 => h9) rfl (by decide +kernel) rfl rfl (Nat.le_of_ble_eq_true rfl) dX0_begin_49 (fun H locs hP hD hS => ?_)
  have hP : va_P G rc_cl [(h, .inr (0, [.ref e1, v1, v2, .ref k, v4, v5, v6, v7])), (k, rc_ab cB 32 K), (b, rc_ab cB (rc_un x) (rc_cp K (rc_un x))), (kp, .inr (3, [.ref w])), (w, rc_ab cB (rc_un x) (rc_cp K (rc_un x))), (e1, .inr (1, [.null, .int 0, .int 0, .null, .int 0]))] H := hP
  have hD : va_D A [(h, .inr (0, [.ref e1, v1, v2, .ref k, v4, v5, v6, v7])), (k, rc_ab cB 32 K), (b, rc_ab cB (rc_un x) (rc_cp K (rc_un x))), (kp, .inr (3, [.ref w])), (w, rc_ab cB (rc_un x) (rc_cp K (rc_un x))), (e1, .inr (1, [.null, .int 0, .int 0, .null, .int 0]))] := hD
  refine lv_aload_n hx hb dX0_begin_52 rfl (lv_at hl 1 rfl) ?_
  refine va_get (D := G) (ci := 0) (v := .ref e1) (C := RX0) (T := TX0) (N := 8) hx hb hts in_X0 hown hK hP 0 rfl rfl 0 (by decide) (hts _ q51) (fun _ h9 => h9) rfl dX0_begin_53 ?_
  refine lv_iconst (v := 1) hx hb dX0_begin_56 (by decide) ?_
  refine lv_aload_n hx hb dX0_begin_57 rfl (lv_at hl 0 rfl) ?_
  refine rc_cv (wc := [(e1, .inr (1, [.null, .int 0, .int 0, .null, .int 0])), (kp, .inr (3, [.ref w])), (w, rc_ab cB (rc_un x) (rc_cp K (rc_un x)))]) (wr := [(h, .inr (0, [.ref e1, v1, v2, .ref k, v4, v5, v6, v7])), (k, rc_ab cB 32 K), (b, rc_ab cB (rc_un x) (rc_cp K (rc_un x)))]) [5, 3, 4] [0, 1, 2] rfl rfl rfl (by decide) hP hD hS hA (va_runV (As := [.int 1, .ref kp]) (rest := []) ⟨hx, hb, hml, hown, hts⟩ (metX1_init_2 l G cB cI e1 kp w _ (rc_un x) (rc_cp K (rc_un x)) (rc_un_pos x) hun) (cwV 2 hts (lw_V q124 q125 q126 q10 q127) rfl rfl rfl (by decide +kernel) ⟨Nat.le_of_ble_eq_true rfl, Nat.le_of_ble_eq_true rfl⟩) (rc_preV hK hP hD [5, 3, 4] rfl rfl 1 5 rfl rfl) rfl rfl hl.1 rfl (lv_room (Nat.le_of_ble_eq_true rfl)) dX0_begin_58 ⟨Nat.le_of_ble_eq_true rfl, Nat.le_of_ble_eq_true rfl⟩) (fun st H locs hq hP hD hS => ?_)
  have hP : va_P G rc_cl [(h, .inr (0, [.ref e1, v1, v2, .ref k, v4, v5, v6, v7])), (k, rc_ab cB 32 K), (b, rc_ab cB (rc_un x) (rc_cp K (rc_un x))), (e1, .inr (1, [.ref st, .int (rc_z 0), .int (rc_z 0), .ref w, .int 1])), (kp, .inr (3, [.ref w])), (w, rc_ab cB (rc_un x) (rc_cp K (rc_un x))), (st, rc_ab cB 256 ((rc_ks (rc_cp K (rc_un x)) (rc_un x) 256).1))] H := hP
  have hD : va_D A [(h, .inr (0, [.ref e1, v1, v2, .ref k, v4, v5, v6, v7])), (k, rc_ab cB 32 K), (b, rc_ab cB (rc_un x) (rc_cp K (rc_un x))), (e1, .inr (1, [.ref st, .int (rc_z 0), .int (rc_z 0), .ref w, .int 1])), (kp, .inr (3, [.ref w])), (w, rc_ab cB (rc_un x) (rc_cp K (rc_un x))), (st, rc_ab cB 256 ((rc_ks (rc_cp K (rc_un x)) (rc_un x) 256).1))] := hD
  refine W.widen (k := 5) (n := 326) (by omega) (by omega) ?_
  refine lv_aload_n hx hb dX0_begin_61 rfl (lv_at hl 1 rfl) ?_
  refine lv_iconst (v := 1) hx hb dX0_begin_62 (by decide) ?_
  refine va_put (D := G) (ci := 0) (v := .int 1) (ty := .boolean) (C := RX0) (T := TX0) (N := 8) hx hb hts in_X0 tyX0 tyX0_ok nmX0 hown hK hP hD hS 0 rfl rfl 1 (by decide) (hts _ q52) (fun _ h9 => h9) rfl (by decide +kernel) rfl rfl (Nat.le_of_ble_eq_true rfl) dX0_begin_63 (fun H locs hP hD hS => ?_)
  have hP : va_P G rc_cl [(h, .inr (0, [.ref e1, .int 1, v2, .ref k, v4, v5, v6, v7])), (k, rc_ab cB 32 K), (b, rc_ab cB (rc_un x) (rc_cp K (rc_un x))), (e1, .inr (1, [.ref st, .int (rc_z 0), .int (rc_z 0), .ref w, .int 1])), (kp, .inr (3, [.ref w])), (w, rc_ab cB (rc_un x) (rc_cp K (rc_un x))), (st, rc_ab cB 256 ((rc_ks (rc_cp K (rc_un x)) (rc_un x) 256).1))] H := hP
  have hD : va_D A [(h, .inr (0, [.ref e1, .int 1, v2, .ref k, v4, v5, v6, v7])), (k, rc_ab cB 32 K), (b, rc_ab cB (rc_un x) (rc_cp K (rc_un x))), (e1, .inr (1, [.ref st, .int (rc_z 0), .int (rc_z 0), .ref w, .int 1])), (kp, .inr (3, [.ref w])), (w, rc_ab cB (rc_un x) (rc_cp K (rc_un x))), (st, rc_ab cB 256 ((rc_ks (rc_cp K (rc_un x)) (rc_un x) 256).1))] := hD
  refine lv_aload_n hx hb dX0_begin_66 rfl (lv_at hl 1 rfl) ?_
  refine lv_iconst (v := 0) hx hb dX0_begin_67 (by decide) ?_
  refine rc_ti (y := nI 0) (nI_0.symm) ?_
  refine va_put (D := G) (ci := 0) (v := .int (nI 0)) (ty := .int) (C := RX0) (T := TX0) (N := 8) hx hb hts in_X0 tyX0 tyX0_ok nmX0 hown hK hP hD hS 0 rfl rfl 2 (by decide) (hts _ q53) (fun _ h9 => h9) rfl (by decide +kernel) rfl rfl (Nat.le_of_ble_eq_true rfl) dX0_begin_68 (fun H locs hP hD hS => ?_)
  have hP : va_P G rc_cl [(h, .inr (0, [.ref e1, .int 1, .int (nI 0), .ref k, v4, v5, v6, v7])), (k, rc_ab cB 32 K), (b, rc_ab cB (rc_un x) (rc_cp K (rc_un x))), (e1, .inr (1, [.ref st, .int (rc_z 0), .int (rc_z 0), .ref w, .int 1])), (kp, .inr (3, [.ref w])), (w, rc_ab cB (rc_un x) (rc_cp K (rc_un x))), (st, rc_ab cB 256 ((rc_ks (rc_cp K (rc_un x)) (rc_un x) 256).1))] H := hP
  have hD : va_D A [(h, .inr (0, [.ref e1, .int 1, .int (nI 0), .ref k, v4, v5, v6, v7])), (k, rc_ab cB 32 K), (b, rc_ab cB (rc_un x) (rc_cp K (rc_un x))), (e1, .inr (1, [.ref st, .int (rc_z 0), .int (rc_z 0), .ref w, .int 1])), (kp, .inr (3, [.ref w])), (w, rc_ab cB (rc_un x) (rc_cp K (rc_un x))), (st, rc_ab cB 256 ((rc_ks (rc_cp K (rc_un x)) (rc_un x) 256).1))] := hD
  exact rc_vr hx hb hr hlocks (e1, st, w) (trivial) (hP.sub [0, 1, 3, 6, 5] rfl) (hD.sub [0, 1, 3, 6, 5] rfl rfl) hS (by omega) (by omega) dX0_begin_71
end
section
/-! RcFourDesk: run, one, again -/
def rc_rf (z : Nat) (x : Int32) : Nat := rc_ps x % (z + 1)
def rc_rc (z : Nat) (x y : Int32) : Nat := rc_ps y % (z - rc_rf z x + 1)
theorem rc_rf_le (z : Nat) (x : Int32) : rc_rf z x ≤ z := Nat.le_of_lt_succ (Nat.mod_lt _ (Nat.succ_pos z))
theorem rc_rc_le (z : Nat) (x y : Int32) : rc_rf z x + rc_rc z x y ≤ z := by
  have h1 := rc_rf_le z x
  have h2 : rc_rc z x y ≤ z - rc_rf z x := Nat.le_of_lt_succ (Nat.mod_lt _ (Nat.succ_pos _))
  omega

set_option maxHeartbeats 4000000 in
set_option maxRecDepth 100000 in
/-- run without a key: -1 -/
theorem metX0_run_n (l : Launch) (G : va_G) (cB cI : ClassId) (h sz : Nat) (x y : Int32) (v0 v2 v3 v4 v5 v6 v7 : Value) : rc_Mi l yX0_run cX0_run 6 .int 1 1 256 27 G cB cI [(h, .inr (0, [v0, .int 0, v2, v3, v4, v5, v6, v7]))] sz [.ref h, .int x, .int y] (fun (r : Int32) (_ : Unit) => r = -1) (fun _ => [(h, .inr (0, [v0, .int 0, v2, v3, v4, v5, v6, v7]))]) := by
  refine rc_ofi (by decide) (Nat.le_of_ble_eq_true rfl) ?_
  intro p e s m below meth c A ls hx hb hr hlocks hml hown hin hts hP hK hD hA hS hl
  have hown : s.vm.findClass RX0 = some m.cls := hown
  have hl : lv_has ls 6 [(0, .ref h), (1, .int x), (2, .int y)] := hl
  refine lv_aload_n hx hb dX0_run_0 rfl (lv_at hl 0 rfl) ?_
  refine va_get (D := G) (ci := 0) (v := .int 0) (C := RX0) (T := TX0) (N := 8) hx hb hts in_X0 hown hK hP 0 rfl rfl 1 (by decide) (hts _ q52) (fun _ h9 => h9) rfl dX0_run_1 ?_
  refine lv_if_ne (tgt := 9) hx hb dX0_run_4 (by decide) (fun h9 => absurd (rfl) h9) (fun _ => ?_)
  refine lv_iconst (v := -1) hx hb dX0_run_7 (by decide) ?_
  exact rc_ir hx hb hr hlocks (rfl) () (rfl) (hP) (hD) hS (by omega) (by omega) dX0_run_8

set_option maxHeartbeats 4000000 in
set_option maxRecDepth 100000 in
/-- one without a key: -1 -/
theorem metX0_one_n (l : Launch) (G : va_G) (cB cI : ClassId) (h sz : Nat) (x : Int32) (v0 v2 v3 v4 v5 v6 v7 : Value) : rc_Mi l yX0_one cX0_one 2 .int 1 0 0 22 G cB cI [(h, .inr (0, [v0, .int 0, v2, v3, v4, v5, v6, v7]))] sz [.ref h, .int x] (fun (r : Int32) (_ : Unit) => r = -1) (fun _ => [(h, .inr (0, [v0, .int 0, v2, v3, v4, v5, v6, v7]))]) := by
  refine rc_ofi (by decide) (Nat.le_of_ble_eq_true rfl) ?_
  intro p e s m below meth c A ls hx hb hr hlocks hml hown hin hts hP hK hD hA hS hl
  have hown : s.vm.findClass RX0 = some m.cls := hown
  have hl : lv_has ls 2 [(0, .ref h), (1, .int x)] := hl
  refine lv_aload_n hx hb dX0_one_0 rfl (lv_at hl 0 rfl) ?_
  refine va_get (D := G) (ci := 0) (v := .int 0) (C := RX0) (T := TX0) (N := 8) hx hb hts in_X0 hown hK hP 0 rfl rfl 1 (by decide) (hts _ q52) (fun _ h9 => h9) rfl dX0_one_1 ?_
  refine lv_if_ne (tgt := 9) hx hb dX0_one_4 (by decide) (fun h9 => absurd (rfl) h9) (fun _ => ?_)
  refine lv_iconst (v := -1) hx hb dX0_one_7 (by decide) ?_
  exact rc_ir hx hb hr hlocks (rfl) () (rfl) (hP) (hD) hS (by omega) (by omega) dX0_one_8

set_option maxHeartbeats 4000000 in
set_option maxRecDepth 100000 in
/-- again without a key: nothing -/
theorem metX0_again_n (l : Launch) (G : va_G) (cB cI : ClassId) (h sz : Nat) (v0 v2 v3 v4 v5 v6 v7 : Value) : rc_Mv l yX0_again cX0_again 1 2 0 0 45 G cB cI [(h, .inr (0, [v0, .int 0, v2, v3, v4, v5, v6, v7]))] sz [.ref h] (fun _ : Unit => True) (fun _ => [(h, .inr (0, [v0, .int 0, v2, v3, v4, v5, v6, v7]))]) := by
  refine rc_ofv (by decide) (Nat.le_of_ble_eq_true rfl) ?_
  intro p e s m below meth c A ls hx hb hr hlocks hml hown hin hts hP hK hD hA hS hl
  have hown : s.vm.findClass RX0 = some m.cls := hown
  have hl : lv_has ls 1 [(0, .ref h)] := hl
  refine lv_aload_n hx hb dX0_again_0 rfl (lv_at hl 0 rfl) ?_
  refine va_get (D := G) (ci := 0) (v := .int 0) (C := RX0) (T := TX0) (N := 8) hx hb hts in_X0 hown hK hP 0 rfl rfl 1 (by decide) (hts _ q52) (fun _ h9 => h9) rfl dX0_again_1 ?_
  refine lv_if_eq (tgt := 19) hx hb dX0_again_4 (by decide) (fun _ => ?_) (fun h9 => absurd (rfl) h9)
  exact rc_vr hx hb hr hlocks () (trivial) (hP) (hD) hS (by omega) (by omega) dX0_again_19

set_option maxHeartbeats 4000000 in
set_option maxRecDepth 100000 in
/-- again -/
theorem metX0_again_s (l : Launch) (G : va_G) (cB cI : ClassId) (h e1 w st sz n : Nat) (U S : Nat → By) (x y fe : Value) (v2 v3 v4 v5 v6 v7 : Value) (hn0 : 0 < n) (hn : n ≤ 32) : rc_Mv l yX0_again cX0_again 1 2 0 0 45 G cB cI [(h, .inr (0, [.ref e1, .int 1, v2, v3, v4, v5, v6, v7])), (e1, .inr (1, [.ref st, x, y, .ref w, fe])), (w, rc_ab cB n U), (st, rc_ab cB 256 S)] sz [.ref h] (fun _ : Unit => True) (fun _ => [(h, .inr (0, [.ref e1, .int 1, .int (nI 0), v3, v4, v5, v6, v7])), (e1, .inr (1, [.ref st, .int (rc_z 0), .int (rc_z 0), .ref w, fe])), (w, rc_ab cB n U), (st, rc_ab cB 256 ((rc_ks U n 256).1))]) := by
  refine rc_ofv (by decide) (Nat.le_of_ble_eq_true rfl) ?_
  intro p e s m below meth c A ls hx hb hr hlocks hml hown hin hts hP hK hD hA hS hl
  have hown : s.vm.findClass RX0 = some m.cls := hown
  have hl : lv_has ls 1 [(0, .ref h)] := hl
  refine lv_aload_n hx hb dX0_again_0 rfl (lv_at hl 0 rfl) ?_
  refine va_get (D := G) (ci := 0) (v := .int 1) (C := RX0) (T := TX0) (N := 8) hx hb hts in_X0 hown hK hP 0 rfl rfl 1 (by decide) (hts _ q52) (fun _ h9 => h9) rfl dX0_again_1 ?_
  refine lv_if_eq (tgt := 19) hx hb dX0_again_4 (by decide) (fun h9 => absurd h9 (by decide)) (fun _ => ?_)
  refine lv_aload_n hx hb dX0_again_7 rfl (lv_at hl 0 rfl) ?_
  refine va_get (D := G) (ci := 0) (v := .ref e1) (C := RX0) (T := TX0) (N := 8) hx hb hts in_X0 hown hK hP 0 rfl rfl 0 (by decide) (hts _ q51) (fun _ h9 => h9) rfl dX0_again_8 ?_
  refine rc_cv (wc := [(e1, .inr (1, [.ref st, x, y, .ref w, fe])), (w, rc_ab cB n U), (st, rc_ab cB 256 S)]) (wr := [(h, .inr (0, [.ref e1, .int 1, v2, v3, v4, v5, v6, v7]))]) [1, 2, 3] [0] rfl rfl rfl (by decide) hP hD hS hA (va_runV (As := []) (rest := []) ⟨hx, hb, hml, hown, hts⟩ (metX1_reset l G cB cI e1 w st _ n U S x y fe hn0 hn) (cwV 0 hts (lw_V q265 q266 q267 q10 q268) rfl rfl rfl (by decide +kernel) ⟨Nat.le_of_ble_eq_true rfl, Nat.le_of_ble_eq_true rfl⟩) (rc_preV hK hP hD [1, 2, 3] rfl rfl 1 1 rfl rfl) rfl rfl hl.1 rfl (lv_room (Nat.le_of_ble_eq_true rfl)) dX0_again_11 ⟨Nat.le_of_ble_eq_true rfl, Nat.le_of_ble_eq_true rfl⟩) (fun u H locs hq hP hD hS => ?_)
  have hP : va_P G rc_cl [(h, .inr (0, [.ref e1, .int 1, v2, v3, v4, v5, v6, v7])), (e1, .inr (1, [.ref st, .int (rc_z 0), .int (rc_z 0), .ref w, fe])), (w, rc_ab cB n U), (st, rc_ab cB 256 ((rc_ks U n 256).1))] H := hP
  have hD : va_D A [(h, .inr (0, [.ref e1, .int 1, v2, v3, v4, v5, v6, v7])), (e1, .inr (1, [.ref st, .int (rc_z 0), .int (rc_z 0), .ref w, fe])), (w, rc_ab cB n U), (st, rc_ab cB 256 ((rc_ks U n 256).1))] := hD
  refine W.widen (k := 0) (n := 0) (by omega) (by omega) ?_
  refine lv_aload_n hx hb dX0_again_14 rfl (lv_at hl 0 rfl) ?_
  refine lv_iconst (v := 0) hx hb dX0_again_15 (by decide) ?_
  refine rc_ti (y := nI 0) (nI_0.symm) ?_
  refine va_put (D := G) (ci := 0) (v := .int (nI 0)) (ty := .int) (C := RX0) (T := TX0) (N := 8) hx hb hts in_X0 tyX0 tyX0_ok nmX0 hown hK hP hD hS 0 rfl rfl 2 (by decide) (hts _ q53) (fun _ h9 => h9) rfl (by decide +kernel) rfl rfl (Nat.le_of_ble_eq_true rfl) dX0_again_16 (fun H locs hP hD hS => ?_)
  have hP : va_P G rc_cl [(h, .inr (0, [.ref e1, .int 1, .int (nI 0), v3, v4, v5, v6, v7])), (e1, .inr (1, [.ref st, .int (rc_z 0), .int (rc_z 0), .ref w, fe])), (w, rc_ab cB n U), (st, rc_ab cB 256 ((rc_ks U n 256).1))] H := hP
  have hD : va_D A [(h, .inr (0, [.ref e1, .int 1, .int (nI 0), v3, v4, v5, v6, v7])), (e1, .inr (1, [.ref st, .int (rc_z 0), .int (rc_z 0), .ref w, fe])), (w, rc_ab cB n U), (st, rc_ab cB 256 ((rc_ks U n 256).1))] := hD
  exact rc_vr hx hb hr hlocks () (trivial) (hP) (hD) hS (by omega) (by omega) dX0_again_19

set_option maxHeartbeats 4000000 in
set_option maxRecDepth 100000 in
/-- one -/
theorem metX0_one_s (l : Launch) (G : va_G) (cB cI : ClassId) (h e1 st sz gv : Nat) (S : Nat → By) (i j : By) (x : Int32) (v3 v4 v5 v6 v7 wk fe : Value) (hg : gv ≤ 1024) : rc_Mi l yX0_one cX0_one 2 .int 1 0 0 22 G cB cI [(h, .inr (0, [.ref e1, .int 1, .int (nI gv), v3, v4, v5, v6, v7])), (e1, .inr (1, [.ref st, .int (rc_z i), .int (rc_z j), wk, fe])), (st, rc_ab cB 256 S)] sz [.ref h, .int x] (fun (r : Int32) (u : Nat × rc_St) => (gv < 1024 ∧ r = rc_z (rc_lo x ^^^ rc_ko (rc_nx (S, i, j))) ∧ u = (gv + 1, rc_nx (S, i, j))) ∨ (¬ gv < 1024 ∧ r = -2 ∧ u = (gv, S, i, j))) (fun u => [(h, .inr (0, [.ref e1, .int 1, .int (nI u.1), v3, v4, v5, v6, v7])), (e1, .inr (1, [.ref st, .int (rc_z u.2.2.1), .int (rc_z u.2.2.2), wk, fe])), (st, rc_ab cB 256 u.2.1)]) := by
  refine rc_ofi (by decide) (Nat.le_of_ble_eq_true rfl) ?_
  intro p e s m below meth c A ls hx hb hr hlocks hml hown hin hts hP hK hD hA hS hl
  have hown : s.vm.findClass RX0 = some m.cls := hown
  have hl : lv_has ls 2 [(0, .ref h), (1, .int x)] := hl
  refine lv_aload_n hx hb dX0_one_0 rfl (lv_at hl 0 rfl) ?_
  refine va_get (D := G) (ci := 0) (v := .int 1) (C := RX0) (T := TX0) (N := 8) hx hb hts in_X0 hown hK hP 0 rfl rfl 1 (by decide) (hts _ q52) (fun _ h9 => h9) rfl dX0_one_1 ?_
  refine lv_if_ne (tgt := 9) hx hb dX0_one_4 (by decide) (fun _ => ?_) (fun h9 => absurd h9 (by decide))
  refine lv_aload_n hx hb dX0_one_9 rfl (lv_at hl 0 rfl) ?_
  refine va_get (D := G) (ci := 0) (v := .int (nI gv)) (C := RX0) (T := TX0) (N := 8) hx hb hts in_X0 hown hK hP 0 rfl rfl 2 (by decide) (hts _ q53) (fun _ h9 => h9) rfl dX0_one_10 ?_
  refine lv_sipush (v := 1024) hx hb dX0_one_13 (by decide) ?_
  refine lv_icmp_lt (tgt := 22) hx hb dX0_one_16 (by decide) (fun c1 => ?_) (fun c1 => ?_)
  · refine lv_aload_n hx hb dX0_one_22 rfl (lv_at hl 0 rfl) ?_
    refine lv_dup hx hb dX0_one_23 rfl ?_
    refine va_get (D := G) (ci := 0) (v := .int (nI gv)) (C := RX0) (T := TX0) (N := 8) hx hb hts in_X0 hown hK hP 0 rfl rfl 2 (by decide) (hts _ q53) (fun _ h9 => h9) rfl dX0_one_24 ?_
    refine lv_iconst (v := 1) hx hb dX0_one_27 (by decide) ?_
    refine lv_iadd hx hb dX0_one_28 ?_
    refine rc_ti (y := nI (gv + 1)) (nI_1 _) ?_
    refine va_put (D := G) (ci := 0) (v := .int (nI (gv + 1))) (ty := .int) (C := RX0) (T := TX0) (N := 8) hx hb hts in_X0 tyX0 tyX0_ok nmX0 hown hK hP hD hS 0 rfl rfl 2 (by decide) (hts _ q53) (fun _ h9 => h9) rfl (by decide +kernel) rfl rfl (Nat.le_of_ble_eq_true rfl) dX0_one_29 (fun H locs hP hD hS => ?_)
    have hP : va_P G rc_cl [(h, .inr (0, [.ref e1, .int 1, .int (nI (gv + 1)), v3, v4, v5, v6, v7])), (e1, .inr (1, [.ref st, .int (rc_z i), .int (rc_z j), wk, fe])), (st, rc_ab cB 256 S)] H := hP
    have hD : va_D A [(h, .inr (0, [.ref e1, .int 1, .int (nI (gv + 1)), v3, v4, v5, v6, v7])), (e1, .inr (1, [.ref st, .int (rc_z i), .int (rc_z j), wk, fe])), (st, rc_ab cB 256 S)] := hD
    refine lv_aload_n hx hb dX0_one_32 rfl (lv_at hl 0 rfl) ?_
    refine va_get (D := G) (ci := 0) (v := .ref e1) (C := RX0) (T := TX0) (N := 8) hx hb hts in_X0 hown hK hP 0 rfl rfl 0 (by decide) (hts _ q51) (fun _ h9 => h9) rfl dX0_one_33 ?_
    refine lv_iload_n hx hb dX0_one_36 rfl (lv_at hl 1 rfl) ?_
    refine lv_i2b (v := rc_s (rc_lo x)) hx hb dX0_one_37 (rc_i2b _) ?_
    refine rc_ci (wc := [(e1, .inr (1, [.ref st, .int (rc_z i), .int (rc_z j), wk, fe])), (st, rc_ab cB 256 S)]) (wr := [(h, .inr (0, [.ref e1, .int 1, .int (nI (gv + 1)), v3, v4, v5, v6, v7]))]) [1, 2] [0] rfl rfl rfl (by decide) hP hD hS hA (va_runV (As := [.int (rc_s (rc_lo x))]) (rest := []) ⟨hx, hb, hml, hown, hts⟩ (metX1_returnByte l G cB cI e1 st _ S i j (rc_lo x) wk fe) (cwV 1 hts (lw_V q257 q258 q259 q10 q260) rfl rfl rfl (by decide +kernel) ⟨Nat.le_of_ble_eq_true rfl, Nat.le_of_ble_eq_true rfl⟩) (rc_preV hK hP hD [1, 2] rfl rfl 1 1 rfl rfl) rfl rfl hl.1 rfl (lv_room (Nat.le_of_ble_eq_true rfl)) dX0_one_38 ⟨Nat.le_of_ble_eq_true rfl, Nat.le_of_ble_eq_true rfl⟩) (fun r u H locs hq hP hD hS => ?_)
    have hP : va_P G rc_cl [(h, .inr (0, [.ref e1, .int 1, .int (nI (gv + 1)), v3, v4, v5, v6, v7])), (e1, .inr (1, [.ref st, .int (rc_z ((rc_nx (S, i, j)).2.1)), .int (rc_z ((rc_nx (S, i, j)).2.2)), wk, fe])), (st, rc_ab cB 256 ((rc_nx (S, i, j)).1))] H := hP
    have hD : va_D A [(h, .inr (0, [.ref e1, .int 1, .int (nI (gv + 1)), v3, v4, v5, v6, v7])), (e1, .inr (1, [.ref st, .int (rc_z ((rc_nx (S, i, j)).2.1)), .int (rc_z ((rc_nx (S, i, j)).2.2)), wk, fe])), (st, rc_ab cB 256 ((rc_nx (S, i, j)).1))] := hD
    refine W.widen (k := 0) (n := 0) (by omega) (by omega) ?_
    refine rc_ti (y := rc_s (rc_lo x ^^^ rc_ko (rc_nx (S, i, j)))) (hq) ?_
    refine lv_sipush (v := 255) hx hb dX0_one_41 (by decide) ?_
    refine lv_iand hx hb dX0_one_44 ?_
    refine rc_ti (y := rc_z (rc_lo x ^^^ rc_ko (rc_nx (S, i, j)))) (rc_s_and _) ?_
    exact rc_ir hx hb hr hlocks (rfl) (gv + 1, rc_nx (S, i, j)) (Or.inl ⟨(rc_nlt (b := 1024) (by omega) (by omega)).mp c1, rfl, rfl⟩) (hP) (hD) hS (by omega) (by omega) dX0_one_45
  · refine lv_bipush (v := -2) hx hb dX0_one_19 (by decide) ?_
    exact rc_ir hx hb hr hlocks (rfl) (gv, S, i, j) (Or.inr ⟨fun q => c1 ((rc_nlt (b := 1024) (by omega) (by omega)).mpr q), rfl, rfl⟩) (hP) (hD) hS (by omega) (by omega) dX0_one_21

set_option maxHeartbeats 4000000 in
set_option maxRecDepth 100000 in
/-- run -/
theorem metX0_run_s (l : Launch) (G : va_G) (cB cI : ClassId) (h e1 st t o sz gv z no : Nat) (S T O : Nat → By) (i j : By) (x y : Int32) (v3 v4 wk fe : Value) (hg : gv ≤ 1024) (hz : z ≤ 256) : rc_Mi l yX0_run cX0_run 6 .int 1 1 256 27 G cB cI [(h, .inr (0, [.ref e1, .int 1, .int (nI gv), v3, v4, .ref t, .int (nI z), .ref o])), (t, rc_ab cB 256 T), (e1, .inr (1, [.ref st, .int (rc_z i), .int (rc_z j), wk, fe])), (st, rc_ab cB 256 S), (o, rc_ab cB no O)] sz [.ref h, .int x, .int y] (fun (r : Int32) (u : Nat × Nat × rc_St × Nat × (Nat → By)) => (gv + rc_rc z x y ≤ 1024 ∧ r = nI (rc_rc z x y) ∧ u.2 = (gv + rc_rc z x y, (rc_rn T (rc_rf z x) (S, i, j) (fun _ => 0) (rc_rc z x y)).1, rc_rc z x y, (rc_rn T (rc_rf z x) (S, i, j) (fun _ => 0) (rc_rc z x y)).2)) ∨ (¬ gv + rc_rc z x y ≤ 1024 ∧ r = -2 ∧ u = (o, gv, (S, i, j), no, O))) (fun u => [(h, .inr (0, [.ref e1, .int 1, .int (nI u.2.1), v3, v4, .ref t, .int (nI z), .ref u.1])), (t, rc_ab cB 256 T), (e1, .inr (1, [.ref st, .int (rc_z u.2.2.1.2.1), .int (rc_z u.2.2.1.2.2), wk, fe])), (st, rc_ab cB 256 u.2.2.1.1), (u.1, rc_ab cB u.2.2.2.1 u.2.2.2.2)]) := by
  refine rc_ofi (by decide) (Nat.le_of_ble_eq_true rfl) ?_
  intro p e s m below meth c A ls hx hb hr hlocks hml hown hin hts hP hK hD hA hS hl
  have hown : s.vm.findClass RX0 = some m.cls := hown
  have hl : lv_has ls 6 [(0, .ref h), (1, .int x), (2, .int y)] := hl
  have hrc := rc_rc_le z x y
  refine lv_aload_n hx hb dX0_run_0 rfl (lv_at hl 0 rfl) ?_
  refine va_get (D := G) (ci := 0) (v := .int 1) (C := RX0) (T := TX0) (N := 8) hx hb hts in_X0 hown hK hP 0 rfl rfl 1 (by decide) (hts _ q52) (fun _ h9 => h9) rfl dX0_run_1 ?_
  refine lv_if_ne (tgt := 9) hx hb dX0_run_4 (by decide) (fun _ => ?_) (fun h9 => absurd h9 (by decide))
  refine lv_aload_n hx hb dX0_run_9 rfl (lv_at hl 0 rfl) ?_
  refine lv_iload_n hx hb dX0_run_10 rfl (lv_at hl 1 rfl) ?_
  refine rc_ci (wc := [(h, .inr (0, [.ref e1, .int 1, .int (nI gv), v3, v4, .ref t, .int (nI z), .ref o]))]) (wr := [(t, rc_ab cB 256 T), (e1, .inr (1, [.ref st, .int (rc_z i), .int (rc_z j), wk, fe])), (st, rc_ab cB 256 S), (o, rc_ab cB no O)]) [0] [1, 2, 3, 4] rfl rfl rfl (by decide) hP hD hS hA (va_runV (As := [.int x]) (rest := []) ⟨hx, hb, hml, hown, hts⟩ (metX0_from l G cB cI h _ z x (.ref e1) (.int 1) (.int (nI gv)) v3 v4 (.ref t) (.ref o) hz) (cwV 1 hts (lw_V q88 q90 qs0 q9 q91) rfl rfl rfl (by decide +kernel) ⟨Nat.le_of_ble_eq_true rfl, Nat.le_of_ble_eq_true rfl⟩) (rc_preV hK hP hD [0] rfl rfl 0 0 rfl rfl) rfl rfl hl.1 rfl (lv_room (Nat.le_of_ble_eq_true rfl)) dX0_run_11 ⟨Nat.le_of_ble_eq_true rfl, Nat.le_of_ble_eq_true rfl⟩) (fun r u H locs hq hP hD hS => ?_)
  have hP : va_P G rc_cl [(h, .inr (0, [.ref e1, .int 1, .int (nI gv), v3, v4, .ref t, .int (nI z), .ref o])), (t, rc_ab cB 256 T), (e1, .inr (1, [.ref st, .int (rc_z i), .int (rc_z j), wk, fe])), (st, rc_ab cB 256 S), (o, rc_ab cB no O)] H := hP.sub [4, 0, 1, 2, 3] rfl
  have hD : va_D A [(h, .inr (0, [.ref e1, .int 1, .int (nI gv), v3, v4, .ref t, .int (nI z), .ref o])), (t, rc_ab cB 256 T), (e1, .inr (1, [.ref st, .int (rc_z i), .int (rc_z j), wk, fe])), (st, rc_ab cB 256 S), (o, rc_ab cB no O)] := hD.sub [4, 0, 1, 2, 3] rfl rfl
  refine W.widen (k := 0) (n := 0) (by omega) (by omega) ?_
  refine rc_ti (y := nI (rc_rf z x)) (hq) ?_
  refine lv_istore_n (lv' := [(3, .int (nI (rc_rf z x))), (0, .ref h), (1, .int x), (2, .int y)]) hx hb dX0_run_14 rfl hl (by decide) rfl (fun ls hl => ?_)
  refine lv_aload_n hx hb dX0_run_15 rfl (lv_at hl 1 rfl) ?_
  refine lv_iload_n hx hb dX0_run_16 rfl (lv_at hl 0 rfl) ?_
  refine lv_iload_n hx hb dX0_run_17 rfl (lv_at hl 3 rfl) ?_
  refine rc_ci (wc := [(h, .inr (0, [.ref e1, .int 1, .int (nI gv), v3, v4, .ref t, .int (nI z), .ref o]))]) (wr := [(t, rc_ab cB 256 T), (e1, .inr (1, [.ref st, .int (rc_z i), .int (rc_z j), wk, fe])), (st, rc_ab cB 256 S), (o, rc_ab cB no O)]) [0] [1, 2, 3, 4] rfl rfl rfl (by decide) hP hD hS hA (va_runV (As := [.int (nI (rc_rf z x)), .int y]) (rest := []) ⟨hx, hb, hml, hown, hts⟩ (metX0_count l G cB cI h _ z (rc_rf z x) y (.ref e1) (.int 1) (.int (nI gv)) v3 v4 (.ref t) (.ref o) hz (rc_rf_le z x)) (cwV 2 hts (lw_V q208 q210 qs3 q9 q211) rfl rfl rfl (by decide +kernel) ⟨Nat.le_of_ble_eq_true rfl, Nat.le_of_ble_eq_true rfl⟩) (rc_preV hK hP hD [0] rfl rfl 0 0 rfl rfl) rfl rfl hl.1 rfl (lv_room (Nat.le_of_ble_eq_true rfl)) dX0_run_18 ⟨Nat.le_of_ble_eq_true rfl, Nat.le_of_ble_eq_true rfl⟩) (fun r u H locs hq hP hD hS => ?_)
  have hP : va_P G rc_cl [(h, .inr (0, [.ref e1, .int 1, .int (nI gv), v3, v4, .ref t, .int (nI z), .ref o])), (t, rc_ab cB 256 T), (e1, .inr (1, [.ref st, .int (rc_z i), .int (rc_z j), wk, fe])), (st, rc_ab cB 256 S), (o, rc_ab cB no O)] H := hP.sub [4, 0, 1, 2, 3] rfl
  have hD : va_D A [(h, .inr (0, [.ref e1, .int 1, .int (nI gv), v3, v4, .ref t, .int (nI z), .ref o])), (t, rc_ab cB 256 T), (e1, .inr (1, [.ref st, .int (rc_z i), .int (rc_z j), wk, fe])), (st, rc_ab cB 256 S), (o, rc_ab cB no O)] := hD.sub [4, 0, 1, 2, 3] rfl rfl
  refine W.widen (k := 0) (n := 0) (by omega) (by omega) ?_
  refine rc_ti (y := nI (rc_rc z x y)) (hq) ?_
  refine lv_istore (lv' := [(4, .int (nI (rc_rc z x y))), (3, .int (nI (rc_rf z x))), (0, .ref h), (1, .int x), (2, .int y)]) hx hb dX0_run_21 hl (by decide) rfl (fun ls hl => ?_)
  refine lv_aload_n hx hb dX0_run_23 rfl (lv_at hl 2 rfl) ?_
  refine va_get (D := G) (ci := 0) (v := .int (nI gv)) (C := RX0) (T := TX0) (N := 8) hx hb hts in_X0 hown hK hP 0 rfl rfl 2 (by decide) (hts _ q53) (fun _ h9 => h9) rfl dX0_run_24 ?_
  refine lv_iload hx hb dX0_run_27 (lv_at hl 0 rfl) ?_
  refine lv_iadd hx hb dX0_run_29 ?_
  refine rc_ti (y := nI (gv + rc_rc z x y)) (nI_add _ _) ?_
  refine lv_sipush (v := 1024) hx hb dX0_run_30 (by decide) ?_
  refine lv_icmp_le (tgt := 39) hx hb dX0_run_33 (by decide) (fun c1 => ?_) (fun c1 => ?_)
  · refine lv_aload_n hx hb dX0_run_39 rfl (lv_at hl 2 rfl) ?_
    refine lv_dup hx hb dX0_run_40 rfl ?_
    refine va_get (D := G) (ci := 0) (v := .int (nI gv)) (C := RX0) (T := TX0) (N := 8) hx hb hts in_X0 hown hK hP 0 rfl rfl 2 (by decide) (hts _ q53) (fun _ h9 => h9) rfl dX0_run_41 ?_
    refine lv_iload hx hb dX0_run_44 (lv_at hl 0 rfl) ?_
    refine lv_iadd hx hb dX0_run_46 ?_
    refine rc_ti (y := nI (gv + rc_rc z x y)) (nI_add _ _) ?_
    refine va_put (D := G) (ci := 0) (v := .int (nI (gv + rc_rc z x y))) (ty := .int) (C := RX0) (T := TX0) (N := 8) hx hb hts in_X0 tyX0 tyX0_ok nmX0 hown hK hP hD hS 0 rfl rfl 2 (by decide) (hts _ q53) (fun _ h9 => h9) rfl (by decide +kernel) rfl rfl (Nat.le_of_ble_eq_true rfl) dX0_run_47 (fun H locs hP hD hS => ?_)
    have hP : va_P G rc_cl [(h, .inr (0, [.ref e1, .int 1, .int (nI (gv + rc_rc z x y)), v3, v4, .ref t, .int (nI z), .ref o])), (t, rc_ab cB 256 T), (e1, .inr (1, [.ref st, .int (rc_z i), .int (rc_z j), wk, fe])), (st, rc_ab cB 256 S), (o, rc_ab cB no O)] H := hP
    have hD : va_D A [(h, .inr (0, [.ref e1, .int 1, .int (nI (gv + rc_rc z x y)), v3, v4, .ref t, .int (nI z), .ref o])), (t, rc_ab cB 256 T), (e1, .inr (1, [.ref st, .int (rc_z i), .int (rc_z j), wk, fe])), (st, rc_ab cB 256 S), (o, rc_ab cB no O)] := hD
    refine lv_iload hx hb dX0_run_50 (lv_at hl 0 rfl) ?_
    refine rc_nwB hx hb (hts _ q76) hK hP hD hS hA (rc_rc z x y) (rfl) (by omega) (Nat.le_of_ble_eq_true rfl) (by show 0 + rc_rc z x y ≤ 256; omega) dX0_run_52 (fun q H hP hD hS => ?_)
    have hP : va_P G rc_cl [(h, .inr (0, [.ref e1, .int 1, .int (nI (gv + rc_rc z x y)), v3, v4, .ref t, .int (nI z), .ref o])), (t, rc_ab cB 256 T), (e1, .inr (1, [.ref st, .int (rc_z i), .int (rc_z j), wk, fe])), (st, rc_ab cB 256 S), (o, rc_ab cB no O), (q, rc_ab cB (rc_rc z x y) (fun _ => 0))] H := hP
    have hD : va_D A [(h, .inr (0, [.ref e1, .int 1, .int (nI (gv + rc_rc z x y)), v3, v4, .ref t, .int (nI z), .ref o])), (t, rc_ab cB 256 T), (e1, .inr (1, [.ref st, .int (rc_z i), .int (rc_z j), wk, fe])), (st, rc_ab cB 256 S), (o, rc_ab cB no O), (q, rc_ab cB (rc_rc z x y) (fun _ => 0))] := hD
    refine W.widen (k := 1) (n := 256) (by omega) (by omega) ?_
    refine lv_astore (lv' := [(5, .ref q), (4, .int (nI (rc_rc z x y))), (3, .int (nI (rc_rf z x))), (0, .ref h), (1, .int x), (2, .int y)]) hx hb dX0_run_54 hl (by decide) rfl (fun ls hl => ?_)
    refine lv_aload_n hx hb dX0_run_56 rfl (lv_at hl 3 rfl) ?_
    refine va_get (D := G) (ci := 0) (v := .ref e1) (C := RX0) (T := TX0) (N := 8) hx hb hts in_X0 hown hK hP 0 rfl rfl 0 (by decide) (hts _ q51) (fun _ h9 => h9) rfl dX0_run_57 ?_
    refine lv_aload_n hx hb dX0_run_60 rfl (lv_at hl 3 rfl) ?_
    refine va_get (D := G) (ci := 0) (v := .ref t) (C := RX0) (T := TX0) (N := 8) hx hb hts in_X0 hown hK hP 0 rfl rfl 5 (by decide) (hts _ q56) (fun _ h9 => h9) rfl dX0_run_61 ?_
    refine lv_iload_n hx hb dX0_run_64 rfl (lv_at hl 2 rfl) ?_
    refine lv_iload hx hb dX0_run_65 (lv_at hl 1 rfl) ?_
    refine lv_aload hx hb dX0_run_67 (lv_at hl 0 rfl) ?_
    refine lv_iconst (v := 0) hx hb dX0_run_69 (by decide) ?_
    refine rc_ci (wc := [(e1, .inr (1, [.ref st, .int (rc_z i), .int (rc_z j), wk, fe])), (st, rc_ab cB 256 S), (t, rc_ab cB 256 T), (q, rc_ab cB (rc_rc z x y) (fun _ => 0))]) (wr := [(h, .inr (0, [.ref e1, .int 1, .int (nI (gv + rc_rc z x y)), v3, v4, .ref t, .int (nI z), .ref o])), (o, rc_ab cB no O)]) [2, 3, 1, 5] [0, 4] rfl rfl rfl (by decide) hP hD hS hA (va_runV (As := [.ref t, .int (nI (rc_rf z x)), .int (nI (rc_rc z x y)), .ref q, .int 0]) (rest := []) ⟨hx, hb, hml, hown, hts⟩ (metX1_processBytes l G cB cI e1 st t q _ (rc_rf z x) (rc_rc z x y) S T (fun _ => 0) i j wk fe (by omega)) (cwV 5 hts (lw_V q212 q213 q214 q10 q215) rfl rfl rfl (by decide +kernel) ⟨Nat.le_of_ble_eq_true rfl, Nat.le_of_ble_eq_true rfl⟩) (rc_preV hK hP hD [2, 3, 1, 5] rfl rfl 1 2 rfl rfl) rfl rfl hl.1 rfl (lv_room (Nat.le_of_ble_eq_true rfl)) dX0_run_70 ⟨Nat.le_of_ble_eq_true rfl, Nat.le_of_ble_eq_true rfl⟩) (fun r u H locs hq hP hD hS => ?_)
    have hP : va_P G rc_cl [(h, .inr (0, [.ref e1, .int 1, .int (nI (gv + rc_rc z x y)), v3, v4, .ref t, .int (nI z), .ref o])), (o, rc_ab cB no O), (e1, .inr (1, [.ref st, .int (rc_z (rc_rn T (rc_rf z x) (S, i, j) (fun _ => 0) (rc_rc z x y)).1.2.1), .int (rc_z (rc_rn T (rc_rf z x) (S, i, j) (fun _ => 0) (rc_rc z x y)).1.2.2), wk, fe])), (st, rc_ab cB 256 ((rc_rn T (rc_rf z x) (S, i, j) (fun _ => 0) (rc_rc z x y)).1.1)), (t, rc_ab cB 256 T), (q, rc_ab cB (rc_rc z x y) ((rc_rn T (rc_rf z x) (S, i, j) (fun _ => 0) (rc_rc z x y)).2))] H := hP
    have hD : va_D A [(h, .inr (0, [.ref e1, .int 1, .int (nI (gv + rc_rc z x y)), v3, v4, .ref t, .int (nI z), .ref o])), (o, rc_ab cB no O), (e1, .inr (1, [.ref st, .int (rc_z (rc_rn T (rc_rf z x) (S, i, j) (fun _ => 0) (rc_rc z x y)).1.2.1), .int (rc_z (rc_rn T (rc_rf z x) (S, i, j) (fun _ => 0) (rc_rc z x y)).1.2.2), wk, fe])), (st, rc_ab cB 256 ((rc_rn T (rc_rf z x) (S, i, j) (fun _ => 0) (rc_rc z x y)).1.1)), (t, rc_ab cB 256 T), (q, rc_ab cB (rc_rc z x y) ((rc_rn T (rc_rf z x) (S, i, j) (fun _ => 0) (rc_rc z x y)).2))] := hD
    refine W.widen (k := 1) (n := 256) (by omega) (by omega) ?_
    refine lv_pop hx hb dX0_run_73 rfl ?_
    refine lv_aload_n hx hb dX0_run_74 rfl (lv_at hl 3 rfl) ?_
    refine lv_aload hx hb dX0_run_75 (lv_at hl 0 rfl) ?_
    refine va_put (D := G) (ci := 0) (v := .ref q) (ty := .array .byte) (C := RX0) (T := TX0) (N := 8) hx hb hts in_X0 tyX0 tyX0_ok nmX0 hown hK hP hD hS 0 rfl rfl 7 (by decide) (hts _ q58) (fun _ h9 => h9) rfl (by decide +kernel) rfl rfl (Nat.le_of_ble_eq_true rfl) dX0_run_77 (fun H locs hP hD hS => ?_)
    have hP : va_P G rc_cl [(h, .inr (0, [.ref e1, .int 1, .int (nI (gv + rc_rc z x y)), v3, v4, .ref t, .int (nI z), .ref q])), (o, rc_ab cB no O), (e1, .inr (1, [.ref st, .int (rc_z (rc_rn T (rc_rf z x) (S, i, j) (fun _ => 0) (rc_rc z x y)).1.2.1), .int (rc_z (rc_rn T (rc_rf z x) (S, i, j) (fun _ => 0) (rc_rc z x y)).1.2.2), wk, fe])), (st, rc_ab cB 256 ((rc_rn T (rc_rf z x) (S, i, j) (fun _ => 0) (rc_rc z x y)).1.1)), (t, rc_ab cB 256 T), (q, rc_ab cB (rc_rc z x y) ((rc_rn T (rc_rf z x) (S, i, j) (fun _ => 0) (rc_rc z x y)).2))] H := hP
    have hD : va_D A [(h, .inr (0, [.ref e1, .int 1, .int (nI (gv + rc_rc z x y)), v3, v4, .ref t, .int (nI z), .ref q])), (o, rc_ab cB no O), (e1, .inr (1, [.ref st, .int (rc_z (rc_rn T (rc_rf z x) (S, i, j) (fun _ => 0) (rc_rc z x y)).1.2.1), .int (rc_z (rc_rn T (rc_rf z x) (S, i, j) (fun _ => 0) (rc_rc z x y)).1.2.2), wk, fe])), (st, rc_ab cB 256 ((rc_rn T (rc_rf z x) (S, i, j) (fun _ => 0) (rc_rc z x y)).1.1)), (t, rc_ab cB 256 T), (q, rc_ab cB (rc_rc z x y) ((rc_rn T (rc_rf z x) (S, i, j) (fun _ => 0) (rc_rc z x y)).2))] := hD
    refine lv_iload hx hb dX0_run_80 (lv_at hl 1 rfl) ?_
    exact rc_ir hx hb hr hlocks (rfl) (q, gv + rc_rc z x y, (rc_rn T (rc_rf z x) (S, i, j) (fun _ => 0) (rc_rc z x y)).1, rc_rc z x y, (rc_rn T (rc_rf z x) (S, i, j) (fun _ => 0) (rc_rc z x y)).2) (Or.inl ⟨(rc_nle (b := 1024) (by omega) (by omega)).mp c1, rfl, rfl⟩) (hP.sub [0, 4, 2, 3, 5] rfl) (hD.sub [0, 4, 2, 3, 5] rfl rfl) hS (by omega) (by omega) dX0_run_82
  · refine lv_bipush (v := -2) hx hb dX0_run_36 (by decide) ?_
    exact rc_ir hx hb hr hlocks (rfl) (o, gv, (S, i, j), no, O) (Or.inr ⟨fun q => c1 ((rc_nle (b := 1024) (by omega) (by omega)).mpr q), rfl, rfl⟩) (hP) (hD) hS (by omega) (by omega) dX0_run_38
end
section
/-! RcFourDeskModel: the small methods -/
theorem rc_sh0 (w : Int32) : w >>> ((24 - 8 * 0) &&& 31 : Int32) = w >>> 24 := by
  rw [show ((24 - 8 * 0) &&& 31 : Int32) = 24 by decide +kernel]
theorem rc_sh1 (w : Int32) : w >>> ((24 - 8 * 1) &&& 31 : Int32) = w >>> 16 := by
  rw [show ((24 - 8 * 1) &&& 31 : Int32) = 16 by decide +kernel]
theorem rc_sh2 (w : Int32) : w >>> ((24 - 8 * 2) &&& 31 : Int32) = w >>> 8 := by
  rw [show ((24 - 8 * 2) &&& 31 : Int32) = 8 by decide +kernel]
theorem rc_sh3 (w : Int32) : w >>> ((24 - 8 * 3) &&& 31 : Int32) = w := by
  rw [show ((24 - 8 * 3) &&& 31 : Int32) = 0 by decide +kernel]
  exact Int32.shiftRight_zero
set_option maxHeartbeats 4000000 in
set_option maxRecDepth 100000 in
/-- word: four bytes from k on -/
theorem metX2_word (l : Launch) (G : va_G) (cB cI : ClassId) (a sz n k : Nat) (T : Nat → By) (w : Int32) (hk : k + 4 ≤ n) (hn : n ≤ 1000) : rc_Mv l yX2_word cX2_word 4 0 0 0 0 G cB cI [(a, rc_ai cI n T)] sz [.ref a, .int (nI k), .int w] (fun _ : Unit => True) (fun _ => [(a, rc_ai cI n (rc_pw T k w))]) := by
  refine rc_ofv (by decide) (Nat.le_of_ble_eq_true rfl) ?_
  intro p e s m below meth c A ls hx hb hr hlocks hml hown hin hts hP hK hD hA hS hl
  have hown : s.vm.findClass RX2 = some m.cls := hown
  have hl : lv_has ls 4 [(0, .ref a), (1, .int (nI k)), (2, .int w)] := hl
  refine lv_iconst (v := 0) hx hb dX2_word_0 (by decide) ?_
  refine lv_istore_n (lv' := [(3, .int 0), (0, .ref a), (1, .int (nI k)), (2, .int w)]) hx hb dX2_word_1 rfl hl (by decide) rfl (fun ls hl => ?_)
  refine lv_iload_n hx hb dX2_word_2 rfl (lv_at hl 0 rfl) ?_
  refine lv_iconst (v := 4) hx hb dX2_word_3 (by decide) ?_
  refine lv_icmp_ge (tgt := 31) hx hb dX2_word_4 (by decide) (fun h9 => absurd h9 (by decide +kernel)) (fun _ => ?_)
  refine lv_aload_n hx hb dX2_word_7 rfl (lv_at hl 1 rfl) ?_
  refine lv_iload_n hx hb dX2_word_8 rfl (lv_at hl 2 rfl) ?_
  refine lv_iload_n hx hb dX2_word_9 rfl (lv_at hl 0 rfl) ?_
  refine lv_iadd hx hb dX2_word_10 ?_
  refine rc_ti (y := nI (k + 0)) (nI_add k 0) ?_
  refine lv_iload_n hx hb dX2_word_11 rfl (lv_at hl 3 rfl) ?_
  refine lv_bipush (v := 24) hx hb dX2_word_12 (by decide) ?_
  refine lv_bipush (v := 8) hx hb dX2_word_14 (by decide) ?_
  refine lv_iload_n hx hb dX2_word_16 rfl (lv_at hl 0 rfl) ?_
  refine lv_imul hx hb dX2_word_17 ?_
  refine lv_isub hx hb dX2_word_18 ?_
  refine lv_ishr hx hb dX2_word_19 ?_
  refine rc_ti (y := w >>> 24) (rc_sh0 w) ?_
  refine lv_sipush (v := 255) hx hb dX2_word_20 (by decide) ?_
  refine lv_iand hx hb dX2_word_23 ?_
  refine rc_ti (y := rc_z (rc_lo (w >>> 24))) (rc_and _) ?_
  refine rc_ist hx hb hK hP hD hS 0 rfl (k + 0) (rfl) (by omega) (by omega) (rc_lo (w >>> 24)) (rfl) dX2_word_24 (fun H locs hP hD hS => ?_)
  have hP : va_P G rc_cl [(a, rc_ai cI n (rc_up T (k + 0) (rc_lo (w >>> 24))))] H := hP
  have hD : va_D A [(a, rc_ai cI n (rc_up T (k + 0) (rc_lo (w >>> 24))))] := hD
  refine lv_iinc (v := 1) (lv' := [(3, .int 1), (0, .ref a), (1, .int (nI k)), (2, .int w)]) hx hb dX2_word_25 hl (k := 0) rfl (by decide +kernel) (by decide) rfl (fun ls hl => ?_)
  refine lv_goto (tgt := 2) hx hb dX2_word_28 (by decide) ?_
  refine lv_iload_n hx hb dX2_word_2 rfl (lv_at hl 0 rfl) ?_
  refine lv_iconst (v := 4) hx hb dX2_word_3 (by decide) ?_
  refine lv_icmp_ge (tgt := 31) hx hb dX2_word_4 (by decide) (fun h9 => absurd h9 (by decide +kernel)) (fun _ => ?_)
  refine lv_aload_n hx hb dX2_word_7 rfl (lv_at hl 1 rfl) ?_
  refine lv_iload_n hx hb dX2_word_8 rfl (lv_at hl 2 rfl) ?_
  refine lv_iload_n hx hb dX2_word_9 rfl (lv_at hl 0 rfl) ?_
  refine lv_iadd hx hb dX2_word_10 ?_
  refine rc_ti (y := nI (k + 1)) (nI_add k 1) ?_
  refine lv_iload_n hx hb dX2_word_11 rfl (lv_at hl 3 rfl) ?_
  refine lv_bipush (v := 24) hx hb dX2_word_12 (by decide) ?_
  refine lv_bipush (v := 8) hx hb dX2_word_14 (by decide) ?_
  refine lv_iload_n hx hb dX2_word_16 rfl (lv_at hl 0 rfl) ?_
  refine lv_imul hx hb dX2_word_17 ?_
  refine lv_isub hx hb dX2_word_18 ?_
  refine lv_ishr hx hb dX2_word_19 ?_
  refine rc_ti (y := w >>> 16) (rc_sh1 w) ?_
  refine lv_sipush (v := 255) hx hb dX2_word_20 (by decide) ?_
  refine lv_iand hx hb dX2_word_23 ?_
  refine rc_ti (y := rc_z (rc_lo (w >>> 16))) (rc_and _) ?_
  refine rc_ist hx hb hK hP hD hS 0 rfl (k + 1) (rfl) (by omega) (by omega) (rc_lo (w >>> 16)) (rfl) dX2_word_24 (fun H locs hP hD hS => ?_)
  have hP : va_P G rc_cl [(a, rc_ai cI n (rc_up (rc_up T (k + 0) (rc_lo (w >>> 24))) (k + 1) (rc_lo (w >>> 16))))] H := hP
  have hD : va_D A [(a, rc_ai cI n (rc_up (rc_up T (k + 0) (rc_lo (w >>> 24))) (k + 1) (rc_lo (w >>> 16))))] := hD
  refine lv_iinc (v := 2) (lv' := [(3, .int 2), (0, .ref a), (1, .int (nI k)), (2, .int w)]) hx hb dX2_word_25 hl (k := 0) rfl (by decide +kernel) (by decide) rfl (fun ls hl => ?_)
  refine lv_goto (tgt := 2) hx hb dX2_word_28 (by decide) ?_
  refine lv_iload_n hx hb dX2_word_2 rfl (lv_at hl 0 rfl) ?_
  refine lv_iconst (v := 4) hx hb dX2_word_3 (by decide) ?_
  refine lv_icmp_ge (tgt := 31) hx hb dX2_word_4 (by decide) (fun h9 => absurd h9 (by decide +kernel)) (fun _ => ?_)
  refine lv_aload_n hx hb dX2_word_7 rfl (lv_at hl 1 rfl) ?_
  refine lv_iload_n hx hb dX2_word_8 rfl (lv_at hl 2 rfl) ?_
  refine lv_iload_n hx hb dX2_word_9 rfl (lv_at hl 0 rfl) ?_
  refine lv_iadd hx hb dX2_word_10 ?_
  refine rc_ti (y := nI (k + 2)) (nI_add k 2) ?_
  refine lv_iload_n hx hb dX2_word_11 rfl (lv_at hl 3 rfl) ?_
  refine lv_bipush (v := 24) hx hb dX2_word_12 (by decide) ?_
  refine lv_bipush (v := 8) hx hb dX2_word_14 (by decide) ?_
  refine lv_iload_n hx hb dX2_word_16 rfl (lv_at hl 0 rfl) ?_
  refine lv_imul hx hb dX2_word_17 ?_
  refine lv_isub hx hb dX2_word_18 ?_
  refine lv_ishr hx hb dX2_word_19 ?_
  refine rc_ti (y := w >>> 8) (rc_sh2 w) ?_
  refine lv_sipush (v := 255) hx hb dX2_word_20 (by decide) ?_
  refine lv_iand hx hb dX2_word_23 ?_
  refine rc_ti (y := rc_z (rc_lo (w >>> 8))) (rc_and _) ?_
  refine rc_ist hx hb hK hP hD hS 0 rfl (k + 2) (rfl) (by omega) (by omega) (rc_lo (w >>> 8)) (rfl) dX2_word_24 (fun H locs hP hD hS => ?_)
  have hP : va_P G rc_cl [(a, rc_ai cI n (rc_up (rc_up (rc_up T (k + 0) (rc_lo (w >>> 24))) (k + 1) (rc_lo (w >>> 16))) (k + 2) (rc_lo (w >>> 8))))] H := hP
  have hD : va_D A [(a, rc_ai cI n (rc_up (rc_up (rc_up T (k + 0) (rc_lo (w >>> 24))) (k + 1) (rc_lo (w >>> 16))) (k + 2) (rc_lo (w >>> 8))))] := hD
  refine lv_iinc (v := 3) (lv' := [(3, .int 3), (0, .ref a), (1, .int (nI k)), (2, .int w)]) hx hb dX2_word_25 hl (k := 0) rfl (by decide +kernel) (by decide) rfl (fun ls hl => ?_)
  refine lv_goto (tgt := 2) hx hb dX2_word_28 (by decide) ?_
  refine lv_iload_n hx hb dX2_word_2 rfl (lv_at hl 0 rfl) ?_
  refine lv_iconst (v := 4) hx hb dX2_word_3 (by decide) ?_
  refine lv_icmp_ge (tgt := 31) hx hb dX2_word_4 (by decide) (fun h9 => absurd h9 (by decide +kernel)) (fun _ => ?_)
  refine lv_aload_n hx hb dX2_word_7 rfl (lv_at hl 1 rfl) ?_
  refine lv_iload_n hx hb dX2_word_8 rfl (lv_at hl 2 rfl) ?_
  refine lv_iload_n hx hb dX2_word_9 rfl (lv_at hl 0 rfl) ?_
  refine lv_iadd hx hb dX2_word_10 ?_
  refine rc_ti (y := nI (k + 3)) (nI_add k 3) ?_
  refine lv_iload_n hx hb dX2_word_11 rfl (lv_at hl 3 rfl) ?_
  refine lv_bipush (v := 24) hx hb dX2_word_12 (by decide) ?_
  refine lv_bipush (v := 8) hx hb dX2_word_14 (by decide) ?_
  refine lv_iload_n hx hb dX2_word_16 rfl (lv_at hl 0 rfl) ?_
  refine lv_imul hx hb dX2_word_17 ?_
  refine lv_isub hx hb dX2_word_18 ?_
  refine lv_ishr hx hb dX2_word_19 ?_
  refine rc_ti (y := w) (rc_sh3 w) ?_
  refine lv_sipush (v := 255) hx hb dX2_word_20 (by decide) ?_
  refine lv_iand hx hb dX2_word_23 ?_
  refine rc_ti (y := rc_z (rc_lo w)) (rc_and _) ?_
  refine rc_ist hx hb hK hP hD hS 0 rfl (k + 3) (rfl) (by omega) (by omega) (rc_lo w) (rfl) dX2_word_24 (fun H locs hP hD hS => ?_)
  have hP : va_P G rc_cl [(a, rc_ai cI n (rc_up (rc_up (rc_up (rc_up T (k + 0) (rc_lo (w >>> 24))) (k + 1) (rc_lo (w >>> 16))) (k + 2) (rc_lo (w >>> 8))) (k + 3) (rc_lo w)))] H := hP
  have hD : va_D A [(a, rc_ai cI n (rc_up (rc_up (rc_up (rc_up T (k + 0) (rc_lo (w >>> 24))) (k + 1) (rc_lo (w >>> 16))) (k + 2) (rc_lo (w >>> 8))) (k + 3) (rc_lo w)))] := hD
  refine lv_iinc (v := 4) (lv' := [(3, .int 4), (0, .ref a), (1, .int (nI k)), (2, .int w)]) hx hb dX2_word_25 hl (k := 0) rfl (by decide +kernel) (by decide) rfl (fun ls hl => ?_)
  refine lv_goto (tgt := 2) hx hb dX2_word_28 (by decide) ?_
  refine lv_iload_n hx hb dX2_word_2 rfl (lv_at hl 0 rfl) ?_
  refine lv_iconst (v := 4) hx hb dX2_word_3 (by decide) ?_
  refine lv_icmp_ge (tgt := 31) hx hb dX2_word_4 (by decide) (fun _ => ?_) (fun h9 => absurd (by decide +kernel) h9)
  have hP : va_P G rc_cl [(a, rc_ai cI n (rc_pw T k w))] H := hP
  have hD : va_D A [(a, rc_ai cI n (rc_pw T k w))] := hD
  exact rc_vr hx hb hr hlocks () (trivial) (hP) (hD) hS (by omega) (by omega) dX2_word_31

set_option maxHeartbeats 4000000 in
set_option maxRecDepth 100000 in
/-- from -/
theorem metX2_from (l : Launch) (G : va_G) (cB cI : ClassId) (h sz z : Nat) (x : Int32) (v0 v1 v3 v4 v5 v6 v7 v8 : Value) (hz : z ≤ 256) : rc_Mi l yX2_from cX2_from 2 .int 0 0 0 0 G cB cI [(h, .inr (2, [v0, v1, .int (nI z), v3, v4, v5, v6, v7, v8]))] sz [.ref h, .int x] (fun (r : Int32) (_ : Unit) => r = nI (rc_ps x % (z + 1))) (fun _ => [(h, .inr (2, [v0, v1, .int (nI z), v3, v4, v5, v6, v7, v8]))]) := by
  refine rc_ofi (by decide) (Nat.le_of_ble_eq_true rfl) ?_
  intro p e s m below meth c A ls hx hb hr hlocks hml hown hin hts hP hK hD hA hS hl
  have hown : s.vm.findClass RX2 = some m.cls := hown
  have hl : lv_has ls 2 [(0, .ref h), (1, .int x)] := hl
  refine lv_iload_n hx hb dX2_from_0 rfl (lv_at hl 1 rfl) ?_
  refine lv_ldc (v := 2147483647) hx hb hown (hts _ q323) dX2_from_1 ?_
  refine lv_iand hx hb dX2_from_3 ?_
  refine rc_ti (y := nI (rc_ps x)) (rc_ps_and _) ?_
  refine lv_aload_n hx hb dX2_from_4 rfl (lv_at hl 0 rfl) ?_
  refine va_get (D := G) (ci := 2) (v := .int (nI z)) (C := RX2) (T := TX2) (N := 9) hx hb hts in_X2 hown hK hP 0 rfl rfl 2 (by decide) (hts _ q281) (fun _ h9 => h9) rfl dX2_from_5 ?_
  refine lv_iconst (v := 1) hx hb dX2_from_8 (by decide) ?_
  refine lv_iadd hx hb dX2_from_9 ?_
  refine rc_ti (y := nI (z + 1)) (nI_1 _) ?_
  refine lv_irem hx hb dX2_from_10 (nI_ne0 (Nat.succ_pos z) (rc_big (by omega))) ?_
  refine rc_ti (y := nI (rc_ps x % (z + 1))) (rc_ps_rem x (Nat.succ_pos z) (by omega)) ?_
  exact rc_ir hx hb hr hlocks (rfl) () (rfl) (hP) (hD) hS (by omega) (by omega) dX2_from_11

set_option maxHeartbeats 4000000 in
set_option maxRecDepth 100000 in
/-- trim -/
theorem metX2_trim (l : Launch) (G : va_G) (cB cI : ClassId) (h sz z : Nat) (x : Int32) (v0 v1 v3 v4 v5 v6 v7 v8 : Value) (hz : z ≤ 256) : rc_Mv l yX2_trim cX2_trim 2 1 0 0 21 G cB cI [(h, .inr (2, [v0, v1, .int (nI z), v3, v4, v5, v6, v7, v8]))] sz [.ref h, .int x] (fun _ : Unit => True) (fun _ => [(h, .inr (2, [v0, v1, .int (nI (rc_ps x % (z + 1))), v3, v4, v5, v6, v7, v8]))]) := by
  refine rc_ofv (by decide) (Nat.le_of_ble_eq_true rfl) ?_
  intro p e s m below meth c A ls hx hb hr hlocks hml hown hin hts hP hK hD hA hS hl
  have hown : s.vm.findClass RX2 = some m.cls := hown
  have hl : lv_has ls 2 [(0, .ref h), (1, .int x)] := hl
  refine lv_aload_n hx hb dX2_trim_0 rfl (lv_at hl 0 rfl) ?_
  refine lv_aload_n hx hb dX2_trim_1 rfl (lv_at hl 0 rfl) ?_
  refine lv_iload_n hx hb dX2_trim_2 rfl (lv_at hl 1 rfl) ?_
  refine rc_ci (wc := [(h, .inr (2, [v0, v1, .int (nI z), v3, v4, v5, v6, v7, v8]))]) (wr := []) [0] [] rfl rfl rfl (by decide) hP hD hS hA (va_runV (As := [.int x]) (rest := [.ref h]) ⟨hx, hb, hml, hown, hts⟩ (metX2_from l G cB cI h _ z x v0 v1 v3 v4 v5 v6 v7 v8 hz) (cwV 1 hts (lw_V q319 q321 qs4 q11 q322) rfl rfl rfl (by decide +kernel) ⟨Nat.le_of_ble_eq_true rfl, Nat.le_of_ble_eq_true rfl⟩) (rc_preV hK hP hD [0] rfl rfl 2 0 rfl rfl) rfl rfl hl.1 rfl (lv_room (Nat.le_of_ble_eq_true rfl)) dX2_trim_3 ⟨Nat.le_of_ble_eq_true rfl, Nat.le_of_ble_eq_true rfl⟩) (fun r u H locs hq hP hD hS => ?_)
  have hP : va_P G rc_cl [(h, .inr (2, [v0, v1, .int (nI z), v3, v4, v5, v6, v7, v8]))] H := hP
  have hD : va_D A [(h, .inr (2, [v0, v1, .int (nI z), v3, v4, v5, v6, v7, v8]))] := hD
  refine W.widen (k := 0) (n := 0) (by omega) (by omega) ?_
  refine rc_ti (y := nI (rc_ps x % (z + 1))) (hq) ?_
  refine va_put (D := G) (ci := 2) (v := .int (nI (rc_ps x % (z + 1)))) (ty := .int) (C := RX2) (T := TX2) (N := 9) hx hb hts in_X2 tyX2 tyX2_ok nmX2 hown hK hP hD hS 0 rfl rfl 2 (by decide) (hts _ q281) (fun _ h9 => h9) rfl (by decide +kernel) rfl rfl (Nat.le_of_ble_eq_true rfl) dX2_trim_6 (fun H locs hP hD hS => ?_)
  have hP : va_P G rc_cl [(h, .inr (2, [v0, v1, .int (nI (rc_ps x % (z + 1))), v3, v4, v5, v6, v7, v8]))] H := hP
  have hD : va_D A [(h, .inr (2, [v0, v1, .int (nI (rc_ps x % (z + 1))), v3, v4, v5, v6, v7, v8]))] := hD
  exact rc_vr hx hb hr hlocks () (trivial) (hP) (hD) hS (by omega) (by omega) dX2_trim_9

set_option maxHeartbeats 4000000 in
set_option maxRecDepth 100000 in
/-- put -/
theorem metX2_put (l : Launch) (G : va_G) (cB cI : ClassId) (h t sz z : Nat) (T : Nat → By) (a b d g : Int32) (v0 v3 v4 v5 v6 v7 v8 : Value) (hz : z ≤ 256) : rc_Mi l yX2_put cX2_put 5 .boolean 1 0 0 23 G cB cI [(h, .inr (2, [v0, .ref t, .int (nI z), v3, v4, v5, v6, v7, v8])), (t, rc_ai cI 256 T)] sz [.ref h, .int a, .int b, .int d, .int g] (fun (r : Int32) (_ : Unit) => r = rc_pr z) (fun _ => [(h, .inr (2, [v0, .ref t, .int (nI (rc_psz z)), v3, v4, v5, v6, v7, v8])), (t, rc_ai cI 256 (rc_pT T z a b d g))]) := by
  refine rc_ofi (by decide) (Nat.le_of_ble_eq_true rfl) ?_
  intro p e s m below meth c A ls hx hb hr hlocks hml hown hin hts hP hK hD hA hS hl
  have hown : s.vm.findClass RX2 = some m.cls := hown
  have hl : lv_has ls 5 [(0, .ref h), (1, .int a), (2, .int b), (3, .int d), (4, .int g)] := hl
  refine lv_aload_n hx hb dX2_put_0 rfl (lv_at hl 0 rfl) ?_
  refine va_get (D := G) (ci := 2) (v := .int (nI z)) (C := RX2) (T := TX2) (N := 9) hx hb hts in_X2 hown hK hP 0 rfl rfl 2 (by decide) (hts _ q281) (fun _ h9 => h9) rfl dX2_put_1 ?_
  refine lv_aload_n hx hb dX2_put_4 rfl (lv_at hl 0 rfl) ?_
  refine va_get (D := G) (ci := 2) (v := .ref t) (C := RX2) (T := TX2) (N := 9) hx hb hts in_X2 hown hK hP 0 rfl rfl 1 (by decide) (hts _ q280) (fun _ h9 => h9) rfl dX2_put_5 ?_
  refine rc_lnI hx hb hK hP 1 rfl dX2_put_8 ?_
  refine lv_bipush (v := 16) hx hb dX2_put_9 (by decide) ?_
  refine lv_isub hx hb dX2_put_11 ?_
  refine rc_ti (y := nI 240) (by decide +kernel) ?_
  refine lv_icmp_le (tgt := 17) hx hb dX2_put_12 (by decide) (fun c1 => ?_) (fun c1 => ?_)
  · have c2 : z ≤ 240 := (rc_nle (by omega) (by omega)).mp c1
    refine lv_aload_n hx hb dX2_put_17 rfl (lv_at hl 0 rfl) ?_
    refine va_get (D := G) (ci := 2) (v := .ref t) (C := RX2) (T := TX2) (N := 9) hx hb hts in_X2 hown hK hP 0 rfl rfl 1 (by decide) (hts _ q280) (fun _ h9 => h9) rfl dX2_put_18 ?_
    refine lv_aload_n hx hb dX2_put_21 rfl (lv_at hl 0 rfl) ?_
    refine va_get (D := G) (ci := 2) (v := .int (nI z)) (C := RX2) (T := TX2) (N := 9) hx hb hts in_X2 hown hK hP 0 rfl rfl 2 (by decide) (hts _ q281) (fun _ h9 => h9) rfl dX2_put_22 ?_
    refine lv_iload_n hx hb dX2_put_25 rfl (lv_at hl 1 rfl) ?_
    refine rc_cv (wc := [(t, rc_ai cI 256 T)]) (wr := [(h, .inr (2, [v0, .ref t, .int (nI z), v3, v4, v5, v6, v7, v8]))]) [1] [0] rfl rfl rfl (by decide) hP hD hS hA (va_runS (As := [.ref t, .int (nI z), .int a]) (rest := []) ⟨hx, hb, hml, hown, hts⟩ (metX2_word l G cB cI t _ 256 z T a (by omega) (by omega)) (va_cwS 3 hts (lw_S q312 q313 q11 q314) rfl rfl rfl (by decide +kernel) ⟨Nat.le_of_ble_eq_true rfl, Nat.le_of_ble_eq_true rfl⟩) (rc_pre hK hP hD [1] rfl rfl) rfl rfl hl.1 rfl (lv_room (Nat.le_of_ble_eq_true rfl)) dX2_put_26 ⟨Nat.le_of_ble_eq_true rfl, Nat.le_of_ble_eq_true rfl⟩) (fun u H locs hq hP hD hS => ?_)
    have hP : va_P G rc_cl [(h, .inr (2, [v0, .ref t, .int (nI z), v3, v4, v5, v6, v7, v8])), (t, rc_ai cI 256 (rc_pw T z a))] H := hP.sub [0, 1] rfl
    have hD : va_D A [(h, .inr (2, [v0, .ref t, .int (nI z), v3, v4, v5, v6, v7, v8])), (t, rc_ai cI 256 (rc_pw T z a))] := hD.sub [0, 1] rfl rfl
    refine W.widen (k := 0) (n := 0) (by omega) (by omega) ?_
    refine lv_aload_n hx hb dX2_put_29 rfl (lv_at hl 0 rfl) ?_
    refine va_get (D := G) (ci := 2) (v := .ref t) (C := RX2) (T := TX2) (N := 9) hx hb hts in_X2 hown hK hP 0 rfl rfl 1 (by decide) (hts _ q280) (fun _ h9 => h9) rfl dX2_put_30 ?_
    refine lv_aload_n hx hb dX2_put_33 rfl (lv_at hl 0 rfl) ?_
    refine va_get (D := G) (ci := 2) (v := .int (nI z)) (C := RX2) (T := TX2) (N := 9) hx hb hts in_X2 hown hK hP 0 rfl rfl 2 (by decide) (hts _ q281) (fun _ h9 => h9) rfl dX2_put_34 ?_
    refine lv_iconst (v := 4) hx hb dX2_put_37 (by decide) ?_
    refine lv_iadd hx hb dX2_put_38 ?_
    refine rc_ti (y := nI (z + 4)) (nI_add z 4) ?_
    refine lv_iload_n hx hb dX2_put_39 rfl (lv_at hl 2 rfl) ?_
    refine rc_cv (wc := [(t, rc_ai cI 256 (rc_pw T z a))]) (wr := [(h, .inr (2, [v0, .ref t, .int (nI z), v3, v4, v5, v6, v7, v8]))]) [1] [0] rfl rfl rfl (by decide) hP hD hS hA (va_runS (As := [.ref t, .int (nI (z + 4)), .int b]) (rest := []) ⟨hx, hb, hml, hown, hts⟩ (metX2_word l G cB cI t _ 256 (z + 4) (rc_pw T z a) b (by omega) (by omega)) (va_cwS 3 hts (lw_S q312 q313 q11 q314) rfl rfl rfl (by decide +kernel) ⟨Nat.le_of_ble_eq_true rfl, Nat.le_of_ble_eq_true rfl⟩) (rc_pre hK hP hD [1] rfl rfl) rfl rfl hl.1 rfl (lv_room (Nat.le_of_ble_eq_true rfl)) dX2_put_40 ⟨Nat.le_of_ble_eq_true rfl, Nat.le_of_ble_eq_true rfl⟩) (fun u H locs hq hP hD hS => ?_)
    have hP : va_P G rc_cl [(h, .inr (2, [v0, .ref t, .int (nI z), v3, v4, v5, v6, v7, v8])), (t, rc_ai cI 256 (rc_pw (rc_pw T z a) (z + 4) b))] H := hP.sub [0, 1] rfl
    have hD : va_D A [(h, .inr (2, [v0, .ref t, .int (nI z), v3, v4, v5, v6, v7, v8])), (t, rc_ai cI 256 (rc_pw (rc_pw T z a) (z + 4) b))] := hD.sub [0, 1] rfl rfl
    refine W.widen (k := 0) (n := 0) (by omega) (by omega) ?_
    refine lv_aload_n hx hb dX2_put_43 rfl (lv_at hl 0 rfl) ?_
    refine va_get (D := G) (ci := 2) (v := .ref t) (C := RX2) (T := TX2) (N := 9) hx hb hts in_X2 hown hK hP 0 rfl rfl 1 (by decide) (hts _ q280) (fun _ h9 => h9) rfl dX2_put_44 ?_
    refine lv_aload_n hx hb dX2_put_47 rfl (lv_at hl 0 rfl) ?_
    refine va_get (D := G) (ci := 2) (v := .int (nI z)) (C := RX2) (T := TX2) (N := 9) hx hb hts in_X2 hown hK hP 0 rfl rfl 2 (by decide) (hts _ q281) (fun _ h9 => h9) rfl dX2_put_48 ?_
    refine lv_bipush (v := 8) hx hb dX2_put_51 (by decide) ?_
    refine lv_iadd hx hb dX2_put_53 ?_
    refine rc_ti (y := nI (z + 8)) (nI_add z 8) ?_
    refine lv_iload_n hx hb dX2_put_54 rfl (lv_at hl 3 rfl) ?_
    refine rc_cv (wc := [(t, rc_ai cI 256 (rc_pw (rc_pw T z a) (z + 4) b))]) (wr := [(h, .inr (2, [v0, .ref t, .int (nI z), v3, v4, v5, v6, v7, v8]))]) [1] [0] rfl rfl rfl (by decide) hP hD hS hA (va_runS (As := [.ref t, .int (nI (z + 8)), .int d]) (rest := []) ⟨hx, hb, hml, hown, hts⟩ (metX2_word l G cB cI t _ 256 (z + 8) (rc_pw (rc_pw T z a) (z + 4) b) d (by omega) (by omega)) (va_cwS 3 hts (lw_S q312 q313 q11 q314) rfl rfl rfl (by decide +kernel) ⟨Nat.le_of_ble_eq_true rfl, Nat.le_of_ble_eq_true rfl⟩) (rc_pre hK hP hD [1] rfl rfl) rfl rfl hl.1 rfl (lv_room (Nat.le_of_ble_eq_true rfl)) dX2_put_55 ⟨Nat.le_of_ble_eq_true rfl, Nat.le_of_ble_eq_true rfl⟩) (fun u H locs hq hP hD hS => ?_)
    have hP : va_P G rc_cl [(h, .inr (2, [v0, .ref t, .int (nI z), v3, v4, v5, v6, v7, v8])), (t, rc_ai cI 256 (rc_pw (rc_pw (rc_pw T z a) (z + 4) b) (z + 8) d))] H := hP.sub [0, 1] rfl
    have hD : va_D A [(h, .inr (2, [v0, .ref t, .int (nI z), v3, v4, v5, v6, v7, v8])), (t, rc_ai cI 256 (rc_pw (rc_pw (rc_pw T z a) (z + 4) b) (z + 8) d))] := hD.sub [0, 1] rfl rfl
    refine W.widen (k := 0) (n := 0) (by omega) (by omega) ?_
    refine lv_aload_n hx hb dX2_put_58 rfl (lv_at hl 0 rfl) ?_
    refine va_get (D := G) (ci := 2) (v := .ref t) (C := RX2) (T := TX2) (N := 9) hx hb hts in_X2 hown hK hP 0 rfl rfl 1 (by decide) (hts _ q280) (fun _ h9 => h9) rfl dX2_put_59 ?_
    refine lv_aload_n hx hb dX2_put_62 rfl (lv_at hl 0 rfl) ?_
    refine va_get (D := G) (ci := 2) (v := .int (nI z)) (C := RX2) (T := TX2) (N := 9) hx hb hts in_X2 hown hK hP 0 rfl rfl 2 (by decide) (hts _ q281) (fun _ h9 => h9) rfl dX2_put_63 ?_
    refine lv_bipush (v := 12) hx hb dX2_put_66 (by decide) ?_
    refine lv_iadd hx hb dX2_put_68 ?_
    refine rc_ti (y := nI (z + 12)) (nI_add z 12) ?_
    refine lv_iload hx hb dX2_put_69 (lv_at hl 4 rfl) ?_
    refine rc_cv (wc := [(t, rc_ai cI 256 (rc_pw (rc_pw (rc_pw T z a) (z + 4) b) (z + 8) d))]) (wr := [(h, .inr (2, [v0, .ref t, .int (nI z), v3, v4, v5, v6, v7, v8]))]) [1] [0] rfl rfl rfl (by decide) hP hD hS hA (va_runS (As := [.ref t, .int (nI (z + 12)), .int g]) (rest := []) ⟨hx, hb, hml, hown, hts⟩ (metX2_word l G cB cI t _ 256 (z + 12) (rc_pw (rc_pw (rc_pw T z a) (z + 4) b) (z + 8) d) g (by omega) (by omega)) (va_cwS 3 hts (lw_S q312 q313 q11 q314) rfl rfl rfl (by decide +kernel) ⟨Nat.le_of_ble_eq_true rfl, Nat.le_of_ble_eq_true rfl⟩) (rc_pre hK hP hD [1] rfl rfl) rfl rfl hl.1 rfl (lv_room (Nat.le_of_ble_eq_true rfl)) dX2_put_71 ⟨Nat.le_of_ble_eq_true rfl, Nat.le_of_ble_eq_true rfl⟩) (fun u H locs hq hP hD hS => ?_)
    have hP : va_P G rc_cl [(h, .inr (2, [v0, .ref t, .int (nI z), v3, v4, v5, v6, v7, v8])), (t, rc_ai cI 256 (rc_pw (rc_pw (rc_pw (rc_pw T z a) (z + 4) b) (z + 8) d) (z + 12) g))] H := hP.sub [0, 1] rfl
    have hD : va_D A [(h, .inr (2, [v0, .ref t, .int (nI z), v3, v4, v5, v6, v7, v8])), (t, rc_ai cI 256 (rc_pw (rc_pw (rc_pw (rc_pw T z a) (z + 4) b) (z + 8) d) (z + 12) g))] := hD.sub [0, 1] rfl rfl
    refine W.widen (k := 0) (n := 0) (by omega) (by omega) ?_
    refine lv_aload_n hx hb dX2_put_74 rfl (lv_at hl 0 rfl) ?_
    refine lv_dup hx hb dX2_put_75 rfl ?_
    refine va_get (D := G) (ci := 2) (v := .int (nI z)) (C := RX2) (T := TX2) (N := 9) hx hb hts in_X2 hown hK hP 0 rfl rfl 2 (by decide) (hts _ q281) (fun _ h9 => h9) rfl dX2_put_76 ?_
    refine lv_bipush (v := 16) hx hb dX2_put_79 (by decide) ?_
    refine lv_iadd hx hb dX2_put_81 ?_
    refine rc_ti (y := nI (z + 16)) (nI_add z 16) ?_
    refine va_put (D := G) (ci := 2) (v := .int (nI (z + 16))) (ty := .int) (C := RX2) (T := TX2) (N := 9) hx hb hts in_X2 tyX2 tyX2_ok nmX2 hown hK hP hD hS 0 rfl rfl 2 (by decide) (hts _ q281) (fun _ h9 => h9) rfl (by decide +kernel) rfl rfl (Nat.le_of_ble_eq_true rfl) dX2_put_82 (fun H locs hP hD hS => ?_)
    have hP : va_P G rc_cl [(h, .inr (2, [v0, .ref t, .int (nI (z + 16)), v3, v4, v5, v6, v7, v8])), (t, rc_ai cI 256 (rc_pw (rc_pw (rc_pw (rc_pw T z a) (z + 4) b) (z + 8) d) (z + 12) g))] H := hP
    have hD : va_D A [(h, .inr (2, [v0, .ref t, .int (nI (z + 16)), v3, v4, v5, v6, v7, v8])), (t, rc_ai cI 256 (rc_pw (rc_pw (rc_pw (rc_pw T z a) (z + 4) b) (z + 8) d) (z + 12) g))] := hD
    refine lv_iconst (v := 1) hx hb dX2_put_85 (by decide) ?_
    exact rc_ir hx hb hr hlocks (rfl) () (if_pos c2 |>.symm) (by rw [show rc_psz z = z + 16 from if_pos c2, show rc_pT T z a b d g = rc_p4 T z a b d g from if_pos c2]; exact hP) (by rw [show rc_psz z = z + 16 from if_pos c2, show rc_pT T z a b d g = rc_p4 T z a b d g from if_pos c2]; exact hD) hS (by omega) (by omega) dX2_put_86
  · have c2 : ¬ z ≤ 240 := fun q => c1 ((rc_nle (by omega) (by omega)).mpr q)
    refine lv_iconst (v := 0) hx hb dX2_put_15 (by decide) ?_
    exact rc_ir hx hb hr hlocks (rfl) () (if_neg c2 |>.symm) (by rw [show rc_psz z = z from if_neg c2, show rc_pT T z a b d g = T from if_neg c2]; exact hP) (by rw [show rc_psz z = z from if_neg c2, show rc_pT T z a b d g = T from if_neg c2]; exact hD) hS (by omega) (by omega) dX2_put_16

set_option maxHeartbeats 4000000 in
set_option maxRecDepth 100000 in
/-- key -/
theorem metX2_key (l : Launch) (G : va_G) (cB cI : ClassId) (h k sz : Nat) (K : Nat → By) (x a b d g : Int32) (v1 v2 v3 v4 v5 v6 v7 v8 : Value) : rc_Mv l yX2_key cX2_key 7 1 0 0 23 G cB cI [(h, .inr (2, [.ref k, v1, v2, v3, v4, v5, v6, v7, v8])), (k, rc_ai cI 32 K)] sz [.ref h, .int x, .int a, .int b, .int d, .int g] (fun _ : Unit => True) (fun _ => [(h, .inr (2, [.ref k, v1, v2, v3, v4, v5, v6, v7, v8])), (k, rc_ai cI 32 (rc_p4 K (rc_at x) a b d g))]) := by
  refine rc_ofv (by decide) (Nat.le_of_ble_eq_true rfl) ?_
  intro p e s m below meth c A ls hx hb hr hlocks hml hown hin hts hP hK hD hA hS hl
  have hown : s.vm.findClass RX2 = some m.cls := hown
  have hl : lv_has ls 7 [(0, .ref h), (1, .int x), (2, .int a), (3, .int b), (4, .int d), (5, .int g)] := hl
  have hat := rc_at_le x
  refine lv_iload_n hx hb dX2_key_0 rfl (lv_at hl 1 rfl) ?_
  refine lv_iconst (v := 1) hx hb dX2_key_1 (by decide) ?_
  refine lv_iand hx hb dX2_key_2 ?_
  refine rc_ti (y := nI (x.toBitVec.toNat % 2)) (rc_and1 _) ?_
  refine lv_iconst (v := 4) hx hb dX2_key_3 (by decide) ?_
  refine lv_ishl hx hb dX2_key_4 ?_
  refine rc_ti (y := nI (rc_at x)) (rc_at_shl _) ?_
  refine lv_istore (lv' := [(6, .int (nI (rc_at x))), (0, .ref h), (1, .int x), (2, .int a), (3, .int b), (4, .int d), (5, .int g)]) hx hb dX2_key_5 hl (by decide) rfl (fun ls hl => ?_)
  refine lv_aload_n hx hb dX2_key_7 rfl (lv_at hl 1 rfl) ?_
  refine va_get (D := G) (ci := 2) (v := .ref k) (C := RX2) (T := TX2) (N := 9) hx hb hts in_X2 hown hK hP 0 rfl rfl 0 (by decide) (hts _ q279) (fun _ h9 => h9) rfl dX2_key_8 ?_
  refine lv_iload hx hb dX2_key_11 (lv_at hl 0 rfl) ?_
  refine lv_iload_n hx hb dX2_key_13 rfl (lv_at hl 3 rfl) ?_
  refine rc_cv (wc := [(k, rc_ai cI 32 K)]) (wr := [(h, .inr (2, [.ref k, v1, v2, v3, v4, v5, v6, v7, v8]))]) [1] [0] rfl rfl rfl (by decide) hP hD hS hA (va_runS (As := [.ref k, .int (nI (rc_at x)), .int a]) (rest := []) ⟨hx, hb, hml, hown, hts⟩ (metX2_word l G cB cI k _ 32 (rc_at x) K a (by omega) (by omega)) (va_cwS 3 hts (lw_S q312 q313 q11 q314) rfl rfl rfl (by decide +kernel) ⟨Nat.le_of_ble_eq_true rfl, Nat.le_of_ble_eq_true rfl⟩) (rc_pre hK hP hD [1] rfl rfl) rfl rfl hl.1 rfl (lv_room (Nat.le_of_ble_eq_true rfl)) dX2_key_14 ⟨Nat.le_of_ble_eq_true rfl, Nat.le_of_ble_eq_true rfl⟩) (fun u H locs hq hP hD hS => ?_)
  have hP : va_P G rc_cl [(h, .inr (2, [.ref k, v1, v2, v3, v4, v5, v6, v7, v8])), (k, rc_ai cI 32 (rc_pw K (rc_at x) a))] H := hP.sub [0, 1] rfl
  have hD : va_D A [(h, .inr (2, [.ref k, v1, v2, v3, v4, v5, v6, v7, v8])), (k, rc_ai cI 32 (rc_pw K (rc_at x) a))] := hD.sub [0, 1] rfl rfl
  refine W.widen (k := 0) (n := 0) (by omega) (by omega) ?_
  refine lv_aload_n hx hb dX2_key_17 rfl (lv_at hl 1 rfl) ?_
  refine va_get (D := G) (ci := 2) (v := .ref k) (C := RX2) (T := TX2) (N := 9) hx hb hts in_X2 hown hK hP 0 rfl rfl 0 (by decide) (hts _ q279) (fun _ h9 => h9) rfl dX2_key_18 ?_
  refine lv_iload hx hb dX2_key_21 (lv_at hl 0 rfl) ?_
  refine lv_iconst (v := 4) hx hb dX2_key_23 (by decide) ?_
  refine lv_iadd hx hb dX2_key_24 ?_
  refine rc_ti (y := nI (rc_at x + 4)) (nI_add _ 4) ?_
  refine lv_iload_n hx hb dX2_key_25 rfl (lv_at hl 4 rfl) ?_
  refine rc_cv (wc := [(k, rc_ai cI 32 (rc_pw K (rc_at x) a))]) (wr := [(h, .inr (2, [.ref k, v1, v2, v3, v4, v5, v6, v7, v8]))]) [1] [0] rfl rfl rfl (by decide) hP hD hS hA (va_runS (As := [.ref k, .int (nI (rc_at x + 4)), .int b]) (rest := []) ⟨hx, hb, hml, hown, hts⟩ (metX2_word l G cB cI k _ 32 (rc_at x + 4) (rc_pw K (rc_at x) a) b (by omega) (by omega)) (va_cwS 3 hts (lw_S q312 q313 q11 q314) rfl rfl rfl (by decide +kernel) ⟨Nat.le_of_ble_eq_true rfl, Nat.le_of_ble_eq_true rfl⟩) (rc_pre hK hP hD [1] rfl rfl) rfl rfl hl.1 rfl (lv_room (Nat.le_of_ble_eq_true rfl)) dX2_key_26 ⟨Nat.le_of_ble_eq_true rfl, Nat.le_of_ble_eq_true rfl⟩) (fun u H locs hq hP hD hS => ?_)
  have hP : va_P G rc_cl [(h, .inr (2, [.ref k, v1, v2, v3, v4, v5, v6, v7, v8])), (k, rc_ai cI 32 (rc_pw (rc_pw K (rc_at x) a) (rc_at x + 4) b))] H := hP.sub [0, 1] rfl
  have hD : va_D A [(h, .inr (2, [.ref k, v1, v2, v3, v4, v5, v6, v7, v8])), (k, rc_ai cI 32 (rc_pw (rc_pw K (rc_at x) a) (rc_at x + 4) b))] := hD.sub [0, 1] rfl rfl
  refine W.widen (k := 0) (n := 0) (by omega) (by omega) ?_
  refine lv_aload_n hx hb dX2_key_29 rfl (lv_at hl 1 rfl) ?_
  refine va_get (D := G) (ci := 2) (v := .ref k) (C := RX2) (T := TX2) (N := 9) hx hb hts in_X2 hown hK hP 0 rfl rfl 0 (by decide) (hts _ q279) (fun _ h9 => h9) rfl dX2_key_30 ?_
  refine lv_iload hx hb dX2_key_33 (lv_at hl 0 rfl) ?_
  refine lv_bipush (v := 8) hx hb dX2_key_35 (by decide) ?_
  refine lv_iadd hx hb dX2_key_37 ?_
  refine rc_ti (y := nI (rc_at x + 8)) (nI_add _ 8) ?_
  refine lv_iload hx hb dX2_key_38 (lv_at hl 5 rfl) ?_
  refine rc_cv (wc := [(k, rc_ai cI 32 (rc_pw (rc_pw K (rc_at x) a) (rc_at x + 4) b))]) (wr := [(h, .inr (2, [.ref k, v1, v2, v3, v4, v5, v6, v7, v8]))]) [1] [0] rfl rfl rfl (by decide) hP hD hS hA (va_runS (As := [.ref k, .int (nI (rc_at x + 8)), .int d]) (rest := []) ⟨hx, hb, hml, hown, hts⟩ (metX2_word l G cB cI k _ 32 (rc_at x + 8) (rc_pw (rc_pw K (rc_at x) a) (rc_at x + 4) b) d (by omega) (by omega)) (va_cwS 3 hts (lw_S q312 q313 q11 q314) rfl rfl rfl (by decide +kernel) ⟨Nat.le_of_ble_eq_true rfl, Nat.le_of_ble_eq_true rfl⟩) (rc_pre hK hP hD [1] rfl rfl) rfl rfl hl.1 rfl (lv_room (Nat.le_of_ble_eq_true rfl)) dX2_key_40 ⟨Nat.le_of_ble_eq_true rfl, Nat.le_of_ble_eq_true rfl⟩) (fun u H locs hq hP hD hS => ?_)
  have hP : va_P G rc_cl [(h, .inr (2, [.ref k, v1, v2, v3, v4, v5, v6, v7, v8])), (k, rc_ai cI 32 (rc_pw (rc_pw (rc_pw K (rc_at x) a) (rc_at x + 4) b) (rc_at x + 8) d))] H := hP.sub [0, 1] rfl
  have hD : va_D A [(h, .inr (2, [.ref k, v1, v2, v3, v4, v5, v6, v7, v8])), (k, rc_ai cI 32 (rc_pw (rc_pw (rc_pw K (rc_at x) a) (rc_at x + 4) b) (rc_at x + 8) d))] := hD.sub [0, 1] rfl rfl
  refine W.widen (k := 0) (n := 0) (by omega) (by omega) ?_
  refine lv_aload_n hx hb dX2_key_43 rfl (lv_at hl 1 rfl) ?_
  refine va_get (D := G) (ci := 2) (v := .ref k) (C := RX2) (T := TX2) (N := 9) hx hb hts in_X2 hown hK hP 0 rfl rfl 0 (by decide) (hts _ q279) (fun _ h9 => h9) rfl dX2_key_44 ?_
  refine lv_iload hx hb dX2_key_47 (lv_at hl 0 rfl) ?_
  refine lv_bipush (v := 12) hx hb dX2_key_49 (by decide) ?_
  refine lv_iadd hx hb dX2_key_51 ?_
  refine rc_ti (y := nI (rc_at x + 12)) (nI_add _ 12) ?_
  refine lv_iload hx hb dX2_key_52 (lv_at hl 6 rfl) ?_
  refine rc_cv (wc := [(k, rc_ai cI 32 (rc_pw (rc_pw (rc_pw K (rc_at x) a) (rc_at x + 4) b) (rc_at x + 8) d))]) (wr := [(h, .inr (2, [.ref k, v1, v2, v3, v4, v5, v6, v7, v8]))]) [1] [0] rfl rfl rfl (by decide) hP hD hS hA (va_runS (As := [.ref k, .int (nI (rc_at x + 12)), .int g]) (rest := []) ⟨hx, hb, hml, hown, hts⟩ (metX2_word l G cB cI k _ 32 (rc_at x + 12) (rc_pw (rc_pw (rc_pw K (rc_at x) a) (rc_at x + 4) b) (rc_at x + 8) d) g (by omega) (by omega)) (va_cwS 3 hts (lw_S q312 q313 q11 q314) rfl rfl rfl (by decide +kernel) ⟨Nat.le_of_ble_eq_true rfl, Nat.le_of_ble_eq_true rfl⟩) (rc_pre hK hP hD [1] rfl rfl) rfl rfl hl.1 rfl (lv_room (Nat.le_of_ble_eq_true rfl)) dX2_key_54 ⟨Nat.le_of_ble_eq_true rfl, Nat.le_of_ble_eq_true rfl⟩) (fun u H locs hq hP hD hS => ?_)
  have hP : va_P G rc_cl [(h, .inr (2, [.ref k, v1, v2, v3, v4, v5, v6, v7, v8])), (k, rc_ai cI 32 (rc_pw (rc_pw (rc_pw (rc_pw K (rc_at x) a) (rc_at x + 4) b) (rc_at x + 8) d) (rc_at x + 12) g))] H := hP.sub [0, 1] rfl
  have hD : va_D A [(h, .inr (2, [.ref k, v1, v2, v3, v4, v5, v6, v7, v8])), (k, rc_ai cI 32 (rc_pw (rc_pw (rc_pw (rc_pw K (rc_at x) a) (rc_at x + 4) b) (rc_at x + 8) d) (rc_at x + 12) g))] := hD.sub [0, 1] rfl rfl
  refine W.widen (k := 0) (n := 0) (by omega) (by omega) ?_
  exact rc_vr hx hb hr hlocks () (trivial) (hP) (hD) hS (by omega) (by omega) dX2_key_57

set_option maxHeartbeats 4000000 in
set_option maxRecDepth 100000 in
/-- nonce: nothing -/
theorem metX2_nonce (l : Launch) (G : va_G) (cB cI : ClassId) (h sz : Nat) (a b d g : Int32) (v0 v1 v2 v3 v4 v5 v6 v7 v8 : Value) : rc_Mv l yX2_nonce cX2_nonce 5 0 0 0 0 G cB cI [(h, .inr (2, [v0, v1, v2, v3, v4, v5, v6, v7, v8]))] sz [.ref h, .int a, .int b, .int d, .int g] (fun _ : Unit => True) (fun _ => [(h, .inr (2, [v0, v1, v2, v3, v4, v5, v6, v7, v8]))]) := by
  refine rc_ofv (by decide) (Nat.le_of_ble_eq_true rfl) ?_
  intro p e s m below meth c A ls hx hb hr hlocks hml hown hin hts hP hK hD hA hS hl
  have hown : s.vm.findClass RX2 = some m.cls := hown
  have hl : lv_has ls 5 [(0, .ref h), (1, .int a), (2, .int b), (3, .int d), (4, .int g)] := hl
  exact rc_vr hx hb hr hlocks () (trivial) (hP) (hD) hS (by omega) (by omega) dX2_nonce_0

set_option maxHeartbeats 4000000 in
set_option maxRecDepth 100000 in
/-- out -/
theorem metX2_out (l : Launch) (G : va_G) (cB cI : ClassId) (h o sz no : Nat) (O : Nat → By) (x : Int32) (v0 v1 v2 v4 v5 v6 v7 v8 : Value) (ho : no ≤ 256) : rc_Mi l yX2_out cX2_out 2 .int 0 0 0 0 G cB cI [(h, .inr (2, [v0, v1, v2, .ref o, v4, v5, v6, v7, v8])), (o, rc_ai cI no O)] sz [.ref h, .int x] (fun (r : Int32) (_ : Unit) => r = rc_or no O x) (fun _ => [(h, .inr (2, [v0, v1, v2, .ref o, v4, v5, v6, v7, v8])), (o, rc_ai cI no O)]) := by
  refine rc_ofi (by decide) (Nat.le_of_ble_eq_true rfl) ?_
  intro p e s m below meth c A ls hx hb hr hlocks hml hown hin hts hP hK hD hA hS hl
  have hown : s.vm.findClass RX2 = some m.cls := hown
  have hl : lv_has ls 2 [(0, .ref h), (1, .int x)] := hl
  refine lv_aload_n hx hb dX2_out_0 rfl (lv_at hl 0 rfl) ?_
  refine va_get (D := G) (ci := 2) (v := .ref o) (C := RX2) (T := TX2) (N := 9) hx hb hts in_X2 hown hK hP 0 rfl rfl 3 (by decide) (hts _ q282) (fun _ h9 => h9) rfl dX2_out_1 ?_
  refine rc_lnI hx hb hK hP 1 rfl dX2_out_4 ?_
  refine lv_if_ne (tgt := 12) hx hb dX2_out_5 (by decide) (fun c1 => ?_) (fun c1 => ?_)
  · have c2 : 0 < no := Nat.pos_of_ne_zero (fun q => c1 (by rw [q]; exact nI_0))
    refine lv_aload_n hx hb dX2_out_12 rfl (lv_at hl 0 rfl) ?_
    refine va_get (D := G) (ci := 2) (v := .ref o) (C := RX2) (T := TX2) (N := 9) hx hb hts in_X2 hown hK hP 0 rfl rfl 3 (by decide) (hts _ q282) (fun _ h9 => h9) rfl dX2_out_13 ?_
    refine lv_iload_n hx hb dX2_out_16 rfl (lv_at hl 1 rfl) ?_
    refine lv_ldc (v := 2147483647) hx hb hown (hts _ q323) dX2_out_17 ?_
    refine lv_iand hx hb dX2_out_19 ?_
    refine rc_ti (y := nI (rc_ps x)) (rc_ps_and _) ?_
    refine lv_aload_n hx hb dX2_out_20 rfl (lv_at hl 0 rfl) ?_
    refine va_get (D := G) (ci := 2) (v := .ref o) (C := RX2) (T := TX2) (N := 9) hx hb hts in_X2 hown hK hP 0 rfl rfl 3 (by decide) (hts _ q282) (fun _ h9 => h9) rfl dX2_out_21 ?_
    refine rc_lnI hx hb hK hP 1 rfl dX2_out_24 ?_
    refine lv_irem hx hb dX2_out_25 (c1) ?_
    refine rc_ti (y := nI (rc_ps x % no)) (rc_ps_rem x c2 (by omega)) ?_
    refine rc_ild hx hb hK hP 1 rfl (rc_ps x % no) (rfl) (Nat.mod_lt _ c2) (by omega) dX2_out_26 ?_
    exact rc_ir hx hb hr hlocks (rfl) () (if_neg (Nat.pos_iff_ne_zero.mp c2) |>.symm) (hP) (hD) hS (by omega) (by omega) dX2_out_27
  · have c2 : no = 0 := (rc_neq (b := 0) (by omega) (by omega)).mp c1
    refine lv_iconst (v := -1) hx hb dX2_out_8 (by decide) ?_
    refine lv_goto (tgt := 27) hx hb dX2_out_9 (by decide) ?_
    exact rc_ir hx hb hr hlocks (rfl) () (if_pos c2 |>.symm) (hP) (hD) hS (by omega) (by omega) dX2_out_27
end
section
/-! RcFourDeskModel: its constructor, swaps, lays -/
set_option maxHeartbeats 4000000 in
set_option maxRecDepth 100000 in
/-- RcFourDeskModel() -/
theorem metX2_init (l : Launch) (G : va_G) (cB cI : ClassId) (h sz : Nat) : rc_Mv l yX2_init cX2_init 1 1 5 544 12 G cB cI [(h, .inr (2, [.null, .null, .int 0, .null, .null, .int 0, .null, .int 0, .int 0]))] sz [.ref h] (fun _ : Nat × Nat × Nat × Nat × Nat => True) (fun u => [(h, .inr (2, [.ref u.1, .ref u.2.1, .int 0, .ref u.2.2.1, .ref u.2.2.2.1, .int 0, .ref u.2.2.2.2, .int 0, .int 0])), (u.1, rc_ai cI 32 (fun _ => 0)), (u.2.1, rc_ai cI 256 (fun _ => 0)), (u.2.2.1, rc_ai cI 0 (fun _ => 0)), (u.2.2.2.1, rc_ai cI 0 (fun _ => 0)), (u.2.2.2.2, rc_ai cI 256 (fun _ => 0))]) := by
  refine rc_ofv (by decide) (Nat.le_of_ble_eq_true rfl) ?_
  intro p e s m below meth c A ls hx hb hr hlocks hml hown hin hts hP hK hD hA hS hl
  have hown : s.vm.findClass RX2 = some m.cls := hown
  have hin : meth.name = "<init>" := hin
  have hl : lv_has ls 1 [(0, .ref h)] := hl
  refine lv_aload_n hx hb dX2_init_0 rfl (lv_at hl 0 rfl) ?_
  refine W.objInit hx hb hown (hts _ q278) (hts _ q27) (hts _ q28) rfl (by rw [hml]; exact hl.1) rfl dX2_init_1 (Nat.le_of_ble_eq_true rfl) (Nat.le_of_ble_eq_true rfl) ?_
  refine W.eq (g2 := F0 m 4 ls []) rfl ?_
  refine lv_aload_n hx hb dX2_init_4 rfl (lv_at hl 0 rfl) ?_
  refine lv_bipush (v := 32) hx hb dX2_init_5 (by decide) ?_
  refine rc_nwI hx hb (hts _ q307) hK hP hD hS hA 32 (by decide +kernel) (Nat.le_of_ble_eq_true rfl) (Nat.le_of_ble_eq_true rfl) (Nat.le_of_ble_eq_true rfl) dX2_init_7 (fun k H hP hD hS => ?_)
  have hP : va_P G rc_cl [(h, .inr (2, [.null, .null, .int 0, .null, .null, .int 0, .null, .int 0, .int 0])), (k, rc_ai cI 32 (fun _ => 0))] H := hP
  have hD : va_D A [(h, .inr (2, [.null, .null, .int 0, .null, .null, .int 0, .null, .int 0, .int 0])), (k, rc_ai cI 32 (fun _ => 0))] := hD
  refine W.widen (k := 1) (n := 32) (by omega) (by omega) ?_
  refine va_putF (D := G) (ci := 2) (v := .ref k) (ty := .array .int) (C := RX2) (T := TX2) (N := 9) hx hb hts in_X2 tyX2 tyX2_ok nmX2 hown hK hP hD hS 0 rfl rfl 0 (by decide) (hts _ q279) (fun _ h9 => h9) rfl hin rfl (by decide +kernel) rfl rfl (Nat.le_of_ble_eq_true rfl) dX2_init_9 (fun H locs hP hD hS => ?_)
  have hP : va_P G rc_cl [(h, .inr (2, [.ref k, .null, .int 0, .null, .null, .int 0, .null, .int 0, .int 0])), (k, rc_ai cI 32 (fun _ => 0))] H := hP
  have hD : va_D A [(h, .inr (2, [.ref k, .null, .int 0, .null, .null, .int 0, .null, .int 0, .int 0])), (k, rc_ai cI 32 (fun _ => 0))] := hD
  refine lv_aload_n hx hb dX2_init_12 rfl (lv_at hl 0 rfl) ?_
  refine lv_sipush (v := 256) hx hb dX2_init_13 (by decide) ?_
  refine rc_nwI hx hb (hts _ q307) hK hP hD hS hA 256 (by decide +kernel) (Nat.le_of_ble_eq_true rfl) (Nat.le_of_ble_eq_true rfl) (Nat.le_of_ble_eq_true rfl) dX2_init_16 (fun t H hP hD hS => ?_)
  have hP : va_P G rc_cl [(h, .inr (2, [.ref k, .null, .int 0, .null, .null, .int 0, .null, .int 0, .int 0])), (k, rc_ai cI 32 (fun _ => 0)), (t, rc_ai cI 256 (fun _ => 0))] H := hP
  have hD : va_D A [(h, .inr (2, [.ref k, .null, .int 0, .null, .null, .int 0, .null, .int 0, .int 0])), (k, rc_ai cI 32 (fun _ => 0)), (t, rc_ai cI 256 (fun _ => 0))] := hD
  refine W.widen (k := 2) (n := 288) (by omega) (by omega) ?_
  refine va_putF (D := G) (ci := 2) (v := .ref t) (ty := .array .int) (C := RX2) (T := TX2) (N := 9) hx hb hts in_X2 tyX2 tyX2_ok nmX2 hown hK hP hD hS 0 rfl rfl 1 (by decide) (hts _ q280) (fun _ h9 => h9) rfl hin rfl (by decide +kernel) rfl rfl (Nat.le_of_ble_eq_true rfl) dX2_init_18 (fun H locs hP hD hS => ?_)
  have hP : va_P G rc_cl [(h, .inr (2, [.ref k, .ref t, .int 0, .null, .null, .int 0, .null, .int 0, .int 0])), (k, rc_ai cI 32 (fun _ => 0)), (t, rc_ai cI 256 (fun _ => 0))] H := hP
  have hD : va_D A [(h, .inr (2, [.ref k, .ref t, .int 0, .null, .null, .int 0, .null, .int 0, .int 0])), (k, rc_ai cI 32 (fun _ => 0)), (t, rc_ai cI 256 (fun _ => 0))] := hD
  refine lv_aload_n hx hb dX2_init_21 rfl (lv_at hl 0 rfl) ?_
  refine lv_iconst (v := 0) hx hb dX2_init_22 (by decide) ?_
  refine rc_nwI hx hb (hts _ q307) hK hP hD hS hA 0 (by decide +kernel) (Nat.le_of_ble_eq_true rfl) (Nat.le_of_ble_eq_true rfl) (Nat.le_of_ble_eq_true rfl) dX2_init_23 (fun o H hP hD hS => ?_)
  have hP : va_P G rc_cl [(h, .inr (2, [.ref k, .ref t, .int 0, .null, .null, .int 0, .null, .int 0, .int 0])), (k, rc_ai cI 32 (fun _ => 0)), (t, rc_ai cI 256 (fun _ => 0)), (o, rc_ai cI 0 (fun _ => 0))] H := hP
  have hD : va_D A [(h, .inr (2, [.ref k, .ref t, .int 0, .null, .null, .int 0, .null, .int 0, .int 0])), (k, rc_ai cI 32 (fun _ => 0)), (t, rc_ai cI 256 (fun _ => 0)), (o, rc_ai cI 0 (fun _ => 0))] := hD
  refine W.widen (k := 3) (n := 288) (by omega) (by omega) ?_
  refine va_put (D := G) (ci := 2) (v := .ref o) (ty := .array .int) (C := RX2) (T := TX2) (N := 9) hx hb hts in_X2 tyX2 tyX2_ok nmX2 hown hK hP hD hS 0 rfl rfl 3 (by decide) (hts _ q282) (fun _ h9 => h9) rfl (by decide +kernel) rfl rfl (Nat.le_of_ble_eq_true rfl) dX2_init_25 (fun H locs hP hD hS => ?_)
  have hP : va_P G rc_cl [(h, .inr (2, [.ref k, .ref t, .int 0, .ref o, .null, .int 0, .null, .int 0, .int 0])), (k, rc_ai cI 32 (fun _ => 0)), (t, rc_ai cI 256 (fun _ => 0)), (o, rc_ai cI 0 (fun _ => 0))] H := hP
  have hD : va_D A [(h, .inr (2, [.ref k, .ref t, .int 0, .ref o, .null, .int 0, .null, .int 0, .int 0])), (k, rc_ai cI 32 (fun _ => 0)), (t, rc_ai cI 256 (fun _ => 0)), (o, rc_ai cI 0 (fun _ => 0))] := hD
  refine lv_aload_n hx hb dX2_init_28 rfl (lv_at hl 0 rfl) ?_
  refine lv_iconst (v := 0) hx hb dX2_init_29 (by decide) ?_
  refine rc_nwI hx hb (hts _ q307) hK hP hD hS hA 0 (by decide +kernel) (Nat.le_of_ble_eq_true rfl) (Nat.le_of_ble_eq_true rfl) (Nat.le_of_ble_eq_true rfl) dX2_init_30 (fun u H hP hD hS => ?_)
  have hP : va_P G rc_cl [(h, .inr (2, [.ref k, .ref t, .int 0, .ref o, .null, .int 0, .null, .int 0, .int 0])), (k, rc_ai cI 32 (fun _ => 0)), (t, rc_ai cI 256 (fun _ => 0)), (o, rc_ai cI 0 (fun _ => 0)), (u, rc_ai cI 0 (fun _ => 0))] H := hP
  have hD : va_D A [(h, .inr (2, [.ref k, .ref t, .int 0, .ref o, .null, .int 0, .null, .int 0, .int 0])), (k, rc_ai cI 32 (fun _ => 0)), (t, rc_ai cI 256 (fun _ => 0)), (o, rc_ai cI 0 (fun _ => 0)), (u, rc_ai cI 0 (fun _ => 0))] := hD
  refine W.widen (k := 4) (n := 288) (by omega) (by omega) ?_
  refine va_put (D := G) (ci := 2) (v := .ref u) (ty := .array .int) (C := RX2) (T := TX2) (N := 9) hx hb hts in_X2 tyX2 tyX2_ok nmX2 hown hK hP hD hS 0 rfl rfl 4 (by decide) (hts _ q283) (fun _ h9 => h9) rfl (by decide +kernel) rfl rfl (Nat.le_of_ble_eq_true rfl) dX2_init_32 (fun H locs hP hD hS => ?_)
  have hP : va_P G rc_cl [(h, .inr (2, [.ref k, .ref t, .int 0, .ref o, .ref u, .int 0, .null, .int 0, .int 0])), (k, rc_ai cI 32 (fun _ => 0)), (t, rc_ai cI 256 (fun _ => 0)), (o, rc_ai cI 0 (fun _ => 0)), (u, rc_ai cI 0 (fun _ => 0))] H := hP
  have hD : va_D A [(h, .inr (2, [.ref k, .ref t, .int 0, .ref o, .ref u, .int 0, .null, .int 0, .int 0])), (k, rc_ai cI 32 (fun _ => 0)), (t, rc_ai cI 256 (fun _ => 0)), (o, rc_ai cI 0 (fun _ => 0)), (u, rc_ai cI 0 (fun _ => 0))] := hD
  refine lv_aload_n hx hb dX2_init_35 rfl (lv_at hl 0 rfl) ?_
  refine lv_sipush (v := 256) hx hb dX2_init_36 (by decide) ?_
  refine rc_nwI hx hb (hts _ q307) hK hP hD hS hA 256 (by decide +kernel) (Nat.le_of_ble_eq_true rfl) (Nat.le_of_ble_eq_true rfl) (Nat.le_of_ble_eq_true rfl) dX2_init_39 (fun q H hP hD hS => ?_)
  have hP : va_P G rc_cl [(h, .inr (2, [.ref k, .ref t, .int 0, .ref o, .ref u, .int 0, .null, .int 0, .int 0])), (k, rc_ai cI 32 (fun _ => 0)), (t, rc_ai cI 256 (fun _ => 0)), (o, rc_ai cI 0 (fun _ => 0)), (u, rc_ai cI 0 (fun _ => 0)), (q, rc_ai cI 256 (fun _ => 0))] H := hP
  have hD : va_D A [(h, .inr (2, [.ref k, .ref t, .int 0, .ref o, .ref u, .int 0, .null, .int 0, .int 0])), (k, rc_ai cI 32 (fun _ => 0)), (t, rc_ai cI 256 (fun _ => 0)), (o, rc_ai cI 0 (fun _ => 0)), (u, rc_ai cI 0 (fun _ => 0)), (q, rc_ai cI 256 (fun _ => 0))] := hD
  refine W.widen (k := 5) (n := 544) (by omega) (by omega) ?_
  refine va_putF (D := G) (ci := 2) (v := .ref q) (ty := .array .int) (C := RX2) (T := TX2) (N := 9) hx hb hts in_X2 tyX2 tyX2_ok nmX2 hown hK hP hD hS 0 rfl rfl 6 (by decide) (hts _ q285) (fun _ h9 => h9) rfl hin rfl (by decide +kernel) rfl rfl (Nat.le_of_ble_eq_true rfl) dX2_init_41 (fun H locs hP hD hS => ?_)
  have hP : va_P G rc_cl [(h, .inr (2, [.ref k, .ref t, .int 0, .ref o, .ref u, .int 0, .ref q, .int 0, .int 0])), (k, rc_ai cI 32 (fun _ => 0)), (t, rc_ai cI 256 (fun _ => 0)), (o, rc_ai cI 0 (fun _ => 0)), (u, rc_ai cI 0 (fun _ => 0)), (q, rc_ai cI 256 (fun _ => 0))] H := hP
  have hD : va_D A [(h, .inr (2, [.ref k, .ref t, .int 0, .ref o, .ref u, .int 0, .ref q, .int 0, .int 0])), (k, rc_ai cI 32 (fun _ => 0)), (t, rc_ai cI 256 (fun _ => 0)), (o, rc_ai cI 0 (fun _ => 0)), (u, rc_ai cI 0 (fun _ => 0)), (q, rc_ai cI 256 (fun _ => 0))] := hD
  exact rc_vr hx hb hr hlocks (k, t, o, u, q) (trivial) (hP.sub [0, 1, 2, 3, 4, 5] rfl) (hD.sub [0, 1, 2, 3, 4, 5] rfl rfl) hS (by omega) (by omega) dX2_init_44

set_option maxHeartbeats 4000000 in
set_option maxRecDepth 100000 in
/-- swaps -/
theorem metX2_swaps (l : Launch) (G : va_G) (cB cI : ClassId) (h st sz a b : Nat) (S : Nat → By) (v0 v1 v2 v3 v4 v5 v7 v8 : Value) (ha : a < 256) (hb2 : b < 256) : rc_Mv l yX2_swaps cX2_swaps 4 0 0 0 0 G cB cI [(h, .inr (2, [v0, v1, v2, v3, v4, v5, .ref st, v7, v8])), (st, rc_ai cI 256 S)] sz [.ref h, .int (nI a), .int (nI b)] (fun _ : Unit => True) (fun _ => [(h, .inr (2, [v0, v1, v2, v3, v4, v5, .ref st, v7, v8])), (st, rc_ai cI 256 (rc_sw S a b))]) := by
  refine rc_ofv (by decide) (Nat.le_of_ble_eq_true rfl) ?_
  intro p e s m below meth c A ls hx hb hr hlocks hml hown hin hts hP hK hD hA hS hl
  have hown : s.vm.findClass RX2 = some m.cls := hown
  have hl : lv_has ls 4 [(0, .ref h), (1, .int (nI a)), (2, .int (nI b))] := hl
  refine lv_aload_n hx hb dX2_swaps_0 rfl (lv_at hl 0 rfl) ?_
  refine va_get (D := G) (ci := 2) (v := .ref st) (C := RX2) (T := TX2) (N := 9) hx hb hts in_X2 hown hK hP 0 rfl rfl 6 (by decide) (hts _ q285) (fun _ h9 => h9) rfl dX2_swaps_1 ?_
  refine lv_iload_n hx hb dX2_swaps_4 rfl (lv_at hl 1 rfl) ?_
  refine rc_ild hx hb hK hP 1 rfl a (rfl) (ha) (Nat.le_of_ble_eq_true rfl) dX2_swaps_5 ?_
  refine lv_istore_n (lv' := [(3, .int (rc_z (S a))), (0, .ref h), (1, .int (nI a)), (2, .int (nI b))]) hx hb dX2_swaps_6 rfl hl (by decide) rfl (fun ls hl => ?_)
  refine lv_aload_n hx hb dX2_swaps_7 rfl (lv_at hl 1 rfl) ?_
  refine va_get (D := G) (ci := 2) (v := .ref st) (C := RX2) (T := TX2) (N := 9) hx hb hts in_X2 hown hK hP 0 rfl rfl 6 (by decide) (hts _ q285) (fun _ h9 => h9) rfl dX2_swaps_8 ?_
  refine lv_iload_n hx hb dX2_swaps_11 rfl (lv_at hl 2 rfl) ?_
  refine lv_aload_n hx hb dX2_swaps_12 rfl (lv_at hl 1 rfl) ?_
  refine va_get (D := G) (ci := 2) (v := .ref st) (C := RX2) (T := TX2) (N := 9) hx hb hts in_X2 hown hK hP 0 rfl rfl 6 (by decide) (hts _ q285) (fun _ h9 => h9) rfl dX2_swaps_13 ?_
  refine lv_iload_n hx hb dX2_swaps_16 rfl (lv_at hl 3 rfl) ?_
  refine rc_ild hx hb hK hP 1 rfl b (rfl) (hb2) (Nat.le_of_ble_eq_true rfl) dX2_swaps_17 ?_
  refine rc_ist hx hb hK hP hD hS 1 rfl a (rfl) (ha) (Nat.le_of_ble_eq_true rfl) (S b) (rfl) dX2_swaps_18 (fun H locs hP hD hS => ?_)
  have hP : va_P G rc_cl [(h, .inr (2, [v0, v1, v2, v3, v4, v5, .ref st, v7, v8])), (st, rc_ai cI 256 (rc_up S a (S b)))] H := hP
  have hD : va_D A [(h, .inr (2, [v0, v1, v2, v3, v4, v5, .ref st, v7, v8])), (st, rc_ai cI 256 (rc_up S a (S b)))] := hD
  refine lv_aload_n hx hb dX2_swaps_19 rfl (lv_at hl 1 rfl) ?_
  refine va_get (D := G) (ci := 2) (v := .ref st) (C := RX2) (T := TX2) (N := 9) hx hb hts in_X2 hown hK hP 0 rfl rfl 6 (by decide) (hts _ q285) (fun _ h9 => h9) rfl dX2_swaps_20 ?_
  refine lv_iload_n hx hb dX2_swaps_23 rfl (lv_at hl 3 rfl) ?_
  refine lv_iload_n hx hb dX2_swaps_24 rfl (lv_at hl 0 rfl) ?_
  refine rc_ist hx hb hK hP hD hS 1 rfl b (rfl) (hb2) (Nat.le_of_ble_eq_true rfl) (S a) (rfl) dX2_swaps_25 (fun H locs hP hD hS => ?_)
  have hP : va_P G rc_cl [(h, .inr (2, [v0, v1, v2, v3, v4, v5, .ref st, v7, v8])), (st, rc_ai cI 256 (rc_sw S a b))] H := hP
  have hD : va_D A [(h, .inr (2, [v0, v1, v2, v3, v4, v5, .ref st, v7, v8])), (st, rc_ai cI 256 (rc_sw S a b))] := hD
  exact rc_vr hx hb hr hlocks () (trivial) (hP) (hD) hS (by omega) (by omega) dX2_swaps_26

theorem rc_of_nI {k : Nat} (h : k < 256) : nI k = rc_z (BitVec.ofNat 8 k) := by
  show nI k = nI (BitVec.ofNat 8 k).toNat
  rw [BitVec.toNat_ofNat, Nat.mod_eq_of_lt h]

set_option maxHeartbeats 4000000 in
set_option maxRecDepth 100000 in
/-- lays, first loop -/
theorem lpX2_fill {p : Program} {l : Launch} {e : Env} {s : State} {m : MethodId} {args : Array Value} {below : List Frame} {meth : Method} {c : Code} {R : Room} {cells slots : Nat} {Q : State → Prop} {G : va_G} {cB cI : ClassId} {A : Nat → Prop} (hx : p.tables.exec = Jvm.exec) (hb : c.code = cX2_lays) (hml : c.maxLocals = 3) (hown : s.vm.findClass RX2 = some m.cls) (hts : ∀ w ∈ lw_all, w.before args s = true) (hK : va_K G rc_cl (rc_ty cB cI) s) (hA : ∀ q : Nat, s.heap.size ≤ q → A q) (h w st n : Nat) (U : Nat → By) (v0 v1 v2 v3 v5 v7 v8 : Value) (S : Nat → By)
    (hexit : ∀ (H : Heap) (locs : List Loc) (ls : Array Slot), va_P G rc_cl [(h, .inr (2, [v0, v1, v2, v3, .ref w, v5, .ref st, v7, v8])), (w, rc_ai cI n U), (st, rc_ai cI 256 (rc_fl S 256))] H → va_D A [(h, .inr (2, [v0, v1, v2, v3, .ref w, v5, .ref st, v7, v8])), (w, rc_ai cI n U), (st, rc_ai cI 256 (rc_fl S 256))] → va_S A s.heap H locs → lv_has ls 3 [(0, .ref h), (1, .int (nI 256))] → W p l e R s m args below meth c H locs cells slots Q (F0 m 22 ls [])) :
    ∀ (d k : Nat), k + d = 256 → ∀ (H : Heap) (locs : List Loc) (ls : Array Slot), va_P G rc_cl [(h, .inr (2, [v0, v1, v2, v3, .ref w, v5, .ref st, v7, v8])), (w, rc_ai cI n U), (st, rc_ai cI 256 (rc_fl S k))] H → va_D A [(h, .inr (2, [v0, v1, v2, v3, .ref w, v5, .ref st, v7, v8])), (w, rc_ai cI n U), (st, rc_ai cI 256 (rc_fl S k))] → va_S A s.heap H locs → lv_has ls 3 [(0, .ref h), (1, .int (nI k))] → W p l e R s m args below meth c H locs cells slots Q (F0 m 2 ls []) := by
  intro d
  induction d with
  | zero =>
    intro k hk H locs ls hP hD hS hl
    obtain rfl : k = 256 := by omega
    refine lv_iload_n hx hb dX2_lays_2 rfl (lv_at hl 1 rfl) ?_
    refine lv_sipush (v := 256) hx hb dX2_lays_3 (by decide) ?_
    refine lv_icmp_ge (tgt := 22) hx hb dX2_lays_6 (by decide) (fun _ => ?_) (fun h9 => absurd (by decide +kernel) h9)
    exact hexit H locs ls hP hD hS hl
  | succ d ih =>
    intro k hk H locs ls hP hD hS hl
    refine lv_iload_n hx hb dX2_lays_2 rfl (lv_at hl 1 rfl) ?_
    refine lv_sipush (v := 256) hx hb dX2_lays_3 (by decide) ?_
    refine lv_icmp_ge (tgt := 22) hx hb dX2_lays_6 (by decide) (fun h9 => absurd h9 (fun h9 => absurd ((rc_nle (a := 256) (by omega) (by omega)).mp h9) (by omega))) (fun _ => ?_)
    refine lv_aload_n hx hb dX2_lays_9 rfl (lv_at hl 0 rfl) ?_
    refine va_get (D := G) (ci := 2) (v := .ref st) (C := RX2) (T := TX2) (N := 9) hx hb hts in_X2 hown hK hP 0 rfl rfl 6 (by decide) (hts _ q285) (fun _ h9 => h9) rfl dX2_lays_10 ?_
    refine lv_iload_n hx hb dX2_lays_13 rfl (lv_at hl 1 rfl) ?_
    refine lv_iload_n hx hb dX2_lays_14 rfl (lv_at hl 1 rfl) ?_
    refine rc_ist hx hb hK hP hD hS 2 rfl k (rfl) (by omega) (Nat.le_of_ble_eq_true rfl) (BitVec.ofNat 8 k) (rc_of_nI (by omega)) dX2_lays_15 (fun H locs hP hD hS => ?_)
    have hP : va_P G rc_cl [(h, .inr (2, [v0, v1, v2, v3, .ref w, v5, .ref st, v7, v8])), (w, rc_ai cI n U), (st, rc_ai cI 256 (rc_up (rc_fl S k) k (BitVec.ofNat 8 k)))] H := hP
    have hD : va_D A [(h, .inr (2, [v0, v1, v2, v3, .ref w, v5, .ref st, v7, v8])), (w, rc_ai cI n U), (st, rc_ai cI 256 (rc_up (rc_fl S k) k (BitVec.ofNat 8 k)))] := hD
    rw [rc_fl_up] at hP hD
    have hP : va_P G rc_cl [(h, .inr (2, [v0, v1, v2, v3, .ref w, v5, .ref st, v7, v8])), (w, rc_ai cI n U), (st, rc_ai cI 256 (rc_fl S (k + 1)))] H := hP
    have hD : va_D A [(h, .inr (2, [v0, v1, v2, v3, .ref w, v5, .ref st, v7, v8])), (w, rc_ai cI n U), (st, rc_ai cI 256 (rc_fl S (k + 1)))] := hD
    refine lv_iinc (v := nI (k + 1)) (lv' := [(1, .int (nI (k + 1))), (0, .ref h)]) hx hb dX2_lays_16 hl (k := 1) rfl (nI_1 k) (by decide) rfl (fun ls hl => ?_)
    refine lv_goto (tgt := 2) hx hb dX2_lays_19 (by decide) ?_
    exact ih (k + 1) (by omega) H locs ls hP hD hS (lv_sub hl [1, 0] rfl)

set_option maxHeartbeats 4000000 in
set_option maxRecDepth 100000 in
/-- lays, second loop: one round -/
theorem stX2_ks {p : Program} {l : Launch} {e : Env} {s : State} {m : MethodId} {args : Array Value} {below : List Frame} {meth : Method} {c : Code} {cells slots : Nat} {Q : State → Prop} {G : va_G} {cB cI : ClassId} {A : Nat → Prop} (hx : p.tables.exec = Jvm.exec) (hb : c.code = cX2_lays) (hml : c.maxLocals = 3) (hown : s.vm.findClass RX2 = some m.cls) (hts : ∀ w ∈ lw_all, w.before args s = true) (hK : va_K G rc_cl (rc_ty cB cI) s) (hA : ∀ q : Nat, s.heap.size ≤ q → A q) (hcs : cells ≤ 0 ∧ slots ≤ 0) (h w st n : Nat) (U : Nat → By) (v0 v1 v2 v3 v5 v7 v8 : Value) (hn0 : 0 < n) (hn : n ≤ 32) (S : Nat → By) (j : By) (k : Nat) (hk : k < 256)
    (kk : ∀ (H : Heap) (locs : List Loc) (ls : Array Slot), va_P G rc_cl [(h, .inr (2, [v0, v1, v2, v3, .ref w, v5, .ref st, v7, v8])), (w, rc_ai cI n U), (st, rc_ai cI 256 (rc_sw S k (j + S k + U (k % n)).toNat))] H → va_D A [(h, .inr (2, [v0, v1, v2, v3, .ref w, v5, .ref st, v7, v8])), (w, rc_ai cI n U), (st, rc_ai cI 256 (rc_sw S k (j + S k + U (k % n)).toNat))] → va_S A s.heap H locs → lv_has ls 3 [(0, .ref h), (1, .int (rc_z (j + S k + U (k % n)))), (2, .int (nI (k + 1)))] → W p l e (rc_rm 1 0 0 23) s m args below meth c H locs cells slots Q (F0 m 26 ls [])) :
    ∀ (H : Heap) (locs : List Loc) (ls : Array Slot), va_P G rc_cl [(h, .inr (2, [v0, v1, v2, v3, .ref w, v5, .ref st, v7, v8])), (w, rc_ai cI n U), (st, rc_ai cI 256 S)] H → va_D A [(h, .inr (2, [v0, v1, v2, v3, .ref w, v5, .ref st, v7, v8])), (w, rc_ai cI n U), (st, rc_ai cI 256 S)] → va_S A s.heap H locs → lv_has ls 3 [(0, .ref h), (1, .int (rc_z j)), (2, .int (nI k))] → W p l e (rc_rm 1 0 0 23) s m args below meth c H locs cells slots Q (F0 m 26 ls []) := by
  intro H locs ls hP hD hS hl
  refine lv_iload_n hx hb dX2_lays_26 rfl (lv_at hl 2 rfl) ?_
  refine lv_sipush (v := 256) hx hb dX2_lays_27 (by decide) ?_
  refine lv_icmp_ge (tgt := 71) hx hb dX2_lays_30 (by decide) (fun h9 => absurd h9 (fun h9 => absurd ((rc_nle (a := 256) (by omega) (by omega)).mp h9) (by omega))) (fun _ => ?_)
  refine lv_iload_n hx hb dX2_lays_33 rfl (lv_at hl 1 rfl) ?_
  refine lv_aload_n hx hb dX2_lays_34 rfl (lv_at hl 0 rfl) ?_
  refine va_get (D := G) (ci := 2) (v := .ref st) (C := RX2) (T := TX2) (N := 9) hx hb hts in_X2 hown hK hP 0 rfl rfl 6 (by decide) (hts _ q285) (fun _ h9 => h9) rfl dX2_lays_35 ?_
  refine lv_iload_n hx hb dX2_lays_38 rfl (lv_at hl 2 rfl) ?_
  refine rc_ild hx hb hK hP 2 rfl k (rfl) (hk) (Nat.le_of_ble_eq_true rfl) dX2_lays_39 ?_
  refine lv_iadd hx hb dX2_lays_40 ?_
  refine lv_aload_n hx hb dX2_lays_41 rfl (lv_at hl 0 rfl) ?_
  refine va_get (D := G) (ci := 2) (v := .ref w) (C := RX2) (T := TX2) (N := 9) hx hb hts in_X2 hown hK hP 0 rfl rfl 4 (by decide) (hts _ q283) (fun _ h9 => h9) rfl dX2_lays_42 ?_
  refine lv_iload_n hx hb dX2_lays_45 rfl (lv_at hl 2 rfl) ?_
  refine lv_aload_n hx hb dX2_lays_46 rfl (lv_at hl 0 rfl) ?_
  refine va_get (D := G) (ci := 2) (v := .ref w) (C := RX2) (T := TX2) (N := 9) hx hb hts in_X2 hown hK hP 0 rfl rfl 4 (by decide) (hts _ q283) (fun _ h9 => h9) rfl dX2_lays_47 ?_
  refine rc_lnI hx hb hK hP 1 rfl dX2_lays_50 ?_
  refine lv_irem hx hb dX2_lays_51 (nI_ne0 hn0 (rc_big (by omega))) ?_
  refine rc_ti (y := nI (k % n)) (pk_rem (rc_big (by omega)) hn0 (rc_big (by omega))) ?_
  refine rc_ild hx hb hK hP 1 rfl (k % n) (rfl) (Nat.mod_lt _ hn0) (by omega) dX2_lays_52 ?_
  refine lv_iadd hx hb dX2_lays_53 ?_
  refine lv_sipush (v := 256) hx hb dX2_lays_54 (by decide) ?_
  refine lv_irem hx hb dX2_lays_57 (by decide) ?_
  refine rc_ti (y := rc_z (j + S k + U (k % n))) (rc_zzz_rem _ _ _) ?_
  refine lv_istore_n (lv' := [(1, .int (rc_z (j + S k + U (k % n)))), (0, .ref h), (2, .int (nI k))]) hx hb dX2_lays_58 rfl hl (by decide) rfl (fun ls hl => ?_)
  refine lv_aload_n hx hb dX2_lays_59 rfl (lv_at hl 1 rfl) ?_
  refine lv_iload_n hx hb dX2_lays_60 rfl (lv_at hl 2 rfl) ?_
  refine lv_iload_n hx hb dX2_lays_61 rfl (lv_at hl 0 rfl) ?_
  refine rc_cv (wc := [(h, .inr (2, [v0, v1, v2, v3, .ref w, v5, .ref st, v7, v8])), (st, rc_ai cI 256 S)]) (wr := [(w, rc_ai cI n U)]) [0, 2] [1] rfl rfl rfl (by decide) hP hD hS hA (va_runV (As := [.int (nI k), .int (nI (j + S k + U (k % n)).toNat)]) (rest := []) ⟨hx, hb, hml, hown, hts⟩ (metX2_swaps l G cB cI h st _ k (j + S k + U (k % n)).toNat S v0 v1 v2 v3 (.ref w) v5 v7 v8 hk (rc_z_lt _)) (cwV 2 hts (lw_V q340 q342 qs6 q11 q343) rfl rfl rfl (by decide +kernel) ⟨Nat.le_of_ble_eq_true rfl, Nat.le_of_ble_eq_true rfl⟩) (rc_preV hK hP hD [0, 2] rfl rfl 2 0 rfl rfl) rfl rfl hl.1 rfl (lv_room (Nat.le_of_ble_eq_true rfl)) dX2_lays_62 ⟨hcs.1, hcs.2⟩) (fun u H locs hq hP hD hS => ?_)
  have hP : va_P G rc_cl [(h, .inr (2, [v0, v1, v2, v3, .ref w, v5, .ref st, v7, v8])), (w, rc_ai cI n U), (st, rc_ai cI 256 (rc_sw S k (j + S k + U (k % n)).toNat))] H := hP.sub [1, 0, 2] rfl
  have hD : va_D A [(h, .inr (2, [v0, v1, v2, v3, .ref w, v5, .ref st, v7, v8])), (w, rc_ai cI n U), (st, rc_ai cI 256 (rc_sw S k (j + S k + U (k % n)).toNat))] := hD.sub [1, 0, 2] rfl rfl
  refine W.widen (k := cells) (n := slots) (by omega) (by omega) ?_
  refine lv_iinc (v := nI (k + 1)) (lv' := [(2, .int (nI (k + 1))), (1, .int (rc_z (j + S k + U (k % n)))), (0, .ref h)]) hx hb dX2_lays_65 hl (k := 2) rfl (nI_1 k) (by decide) rfl (fun ls hl => ?_)
  refine lv_goto (tgt := 26) hx hb dX2_lays_68 (by decide) ?_
  exact kk H locs ls hP hD hS (lv_sub hl [2, 1, 0] rfl)

set_option maxHeartbeats 4000000 in
set_option maxRecDepth 100000 in
/-- lays, second loop -/
theorem lpX2_ks {p : Program} {l : Launch} {e : Env} {s : State} {m : MethodId} {args : Array Value} {below : List Frame} {meth : Method} {c : Code} {cells slots : Nat} {Q : State → Prop} {G : va_G} {cB cI : ClassId} {A : Nat → Prop} (hx : p.tables.exec = Jvm.exec) (hb : c.code = cX2_lays) (hml : c.maxLocals = 3) (hown : s.vm.findClass RX2 = some m.cls) (hts : ∀ w ∈ lw_all, w.before args s = true) (hK : va_K G rc_cl (rc_ty cB cI) s) (hA : ∀ q : Nat, s.heap.size ≤ q → A q) (hcs : cells ≤ 0 ∧ slots ≤ 0) (h w st n : Nat) (U : Nat → By) (v0 v1 v2 v3 v5 v7 v8 : Value) (hn0 : 0 < n) (hn : n ≤ 32)
    (hexit : ∀ (H : Heap) (locs : List Loc) (ls : Array Slot), va_P G rc_cl [(h, .inr (2, [v0, v1, v2, v3, .ref w, v5, .ref st, v7, v8])), (w, rc_ai cI n U), (st, rc_ai cI 256 ((rc_ks U n 256).1))] H → va_D A [(h, .inr (2, [v0, v1, v2, v3, .ref w, v5, .ref st, v7, v8])), (w, rc_ai cI n U), (st, rc_ai cI 256 ((rc_ks U n 256).1))] → va_S A s.heap H locs → lv_has ls 3 [(0, .ref h), (1, .int (rc_z (rc_ks U n 256).2)), (2, .int (nI 256))] → W p l e (rc_rm 1 0 0 23) s m args below meth c H locs cells slots Q (F0 m 71 ls [])) :
    ∀ (d k : Nat), k + d = 256 → ∀ (H : Heap) (locs : List Loc) (ls : Array Slot), va_P G rc_cl [(h, .inr (2, [v0, v1, v2, v3, .ref w, v5, .ref st, v7, v8])), (w, rc_ai cI n U), (st, rc_ai cI 256 ((rc_ks U n k).1))] H → va_D A [(h, .inr (2, [v0, v1, v2, v3, .ref w, v5, .ref st, v7, v8])), (w, rc_ai cI n U), (st, rc_ai cI 256 ((rc_ks U n k).1))] → va_S A s.heap H locs → lv_has ls 3 [(0, .ref h), (1, .int (rc_z (rc_ks U n k).2)), (2, .int (nI k))] → W p l e (rc_rm 1 0 0 23) s m args below meth c H locs cells slots Q (F0 m 26 ls []) := by
  intro d
  induction d with
  | zero =>
    intro k hk H locs ls hP hD hS hl
    obtain rfl : k = 256 := by omega
    refine lv_iload_n hx hb dX2_lays_26 rfl (lv_at hl 2 rfl) ?_
    refine lv_sipush (v := 256) hx hb dX2_lays_27 (by decide) ?_
    refine lv_icmp_ge (tgt := 71) hx hb dX2_lays_30 (by decide) (fun _ => ?_) (fun h9 => absurd (by decide +kernel) h9)
    exact hexit H locs ls hP hD hS hl
  | succ d ih =>
    intro k hk
    exact stX2_ks hx hb hml hown hts hK hA hcs h w st n U v0 v1 v2 v3 v5 v7 v8 hn0 hn (rc_ks U n k).1 (rc_ks U n k).2 k (by omega) (ih (k + 1) (by omega))

set_option maxHeartbeats 4000000 in
set_option maxRecDepth 100000 in
/-- lays -/
theorem metX2_lays (l : Launch) (G : va_G) (cB cI : ClassId) (h w st sz n : Nat) (U S : Nat → By) (v0 v1 v2 v3 v5 v7 v8 : Value) (hn0 : 0 < n) (hn : n ≤ 32) : rc_Mv l yX2_lays cX2_lays 3 1 0 0 23 G cB cI [(h, .inr (2, [v0, v1, v2, v3, .ref w, v5, .ref st, v7, v8])), (w, rc_ai cI n U), (st, rc_ai cI 256 S)] sz [.ref h] (fun _ : Unit => True) (fun _ => [(h, .inr (2, [v0, v1, v2, v3, .ref w, .int (nI 0), .ref st, .int (rc_z 0), .int (rc_z 0)])), (w, rc_ai cI n U), (st, rc_ai cI 256 ((rc_ks U n 256).1))]) := by
  refine rc_ofv (by decide) (Nat.le_of_ble_eq_true rfl) ?_
  intro p e s m below meth c A ls hx hb hr hlocks hml hown hin hts hP hK hD hA hS hl
  have hown : s.vm.findClass RX2 = some m.cls := hown
  have hl : lv_has ls 3 [(0, .ref h)] := hl
  refine lv_iconst (v := 0) hx hb dX2_lays_0 (by decide) ?_
  refine rc_ti (y := nI 0) (nI_0.symm) ?_
  refine lv_istore_n (lv' := [(1, .int (nI 0)), (0, .ref h)]) hx hb dX2_lays_1 rfl hl (by decide) rfl (fun ls hl => ?_)
  refine lpX2_fill hx hb hml hown hts hK hA h w st n U v0 v1 v2 v3 v5 v7 v8 S (fun H locs ls hP hD hS hl => ?_) 256 0 rfl _ _ ls (by rw [rc_fl_0]; exact hP) (by rw [rc_fl_0]; exact hD) hS (lv_sub hl [1, 0] rfl)
  have hP := rc_Pcg (g := rc_bz (rc_ks U n 0).1) hP 2 rfl (fun j hj => congrArg rc_z (rc_fl_end S U n j hj))
  have hD := hD.set (p := 2) (e := rc_ai cI 256 (rc_ks U n 0).1) rfl
  have hP : va_P G rc_cl [(h, .inr (2, [v0, v1, v2, v3, .ref w, v5, .ref st, v7, v8])), (w, rc_ai cI n U), (st, rc_ai cI 256 ((rc_ks U n 0).1))] H := hP
  have hD : va_D A [(h, .inr (2, [v0, v1, v2, v3, .ref w, v5, .ref st, v7, v8])), (w, rc_ai cI n U), (st, rc_ai cI 256 ((rc_ks U n 0).1))] := hD
  refine lv_iconst (v := 0) hx hb dX2_lays_22 (by decide) ?_
  refine rc_ti (y := rc_z 0) (rc_z_0.symm) ?_
  refine lv_istore_n (lv' := [(1, .int (rc_z 0)), (0, .ref h)]) hx hb dX2_lays_23 rfl hl (by decide) rfl (fun ls hl => ?_)
  refine lv_iconst (v := 0) hx hb dX2_lays_24 (by decide) ?_
  refine rc_ti (y := nI 0) (nI_0.symm) ?_
  refine lv_istore_n (lv' := [(2, .int (nI 0)), (1, .int (rc_z 0)), (0, .ref h)]) hx hb dX2_lays_25 rfl hl (by decide) rfl (fun ls hl => ?_)
  refine lpX2_ks hx hb hml hown hts hK hA (cells := 0) (slots := 0) ⟨Nat.le_refl 0, Nat.le_refl 0⟩ h w st n U v0 v1 v2 v3 v5 v7 v8 hn0 hn (fun H locs ls hP hD hS hl => ?_) 256 0 rfl H locs ls hP hD hS (lv_sub hl [2, 1, 0] rfl)
  have hP : va_P G rc_cl [(h, .inr (2, [v0, v1, v2, v3, .ref w, v5, .ref st, v7, v8])), (w, rc_ai cI n U), (st, rc_ai cI 256 ((rc_ks U n 256).1))] H := hP
  have hD : va_D A [(h, .inr (2, [v0, v1, v2, v3, .ref w, v5, .ref st, v7, v8])), (w, rc_ai cI n U), (st, rc_ai cI 256 ((rc_ks U n 256).1))] := hD
  refine lv_aload_n hx hb dX2_lays_71 rfl (lv_at hl 0 rfl) ?_
  refine lv_iconst (v := 0) hx hb dX2_lays_72 (by decide) ?_
  refine rc_ti (y := rc_z 0) (rc_z_0.symm) ?_
  refine va_put (D := G) (ci := 2) (v := .int (rc_z 0)) (ty := .int) (C := RX2) (T := TX2) (N := 9) hx hb hts in_X2 tyX2 tyX2_ok nmX2 hown hK hP hD hS 0 rfl rfl 7 (by decide) (hts _ q286) (fun _ h9 => h9) rfl (by decide +kernel) rfl rfl (Nat.le_of_ble_eq_true rfl) dX2_lays_73 (fun H locs hP hD hS => ?_)
  have hP : va_P G rc_cl [(h, .inr (2, [v0, v1, v2, v3, .ref w, v5, .ref st, .int (rc_z 0), v8])), (w, rc_ai cI n U), (st, rc_ai cI 256 ((rc_ks U n 256).1))] H := hP
  have hD : va_D A [(h, .inr (2, [v0, v1, v2, v3, .ref w, v5, .ref st, .int (rc_z 0), v8])), (w, rc_ai cI n U), (st, rc_ai cI 256 ((rc_ks U n 256).1))] := hD
  refine lv_aload_n hx hb dX2_lays_76 rfl (lv_at hl 0 rfl) ?_
  refine lv_iconst (v := 0) hx hb dX2_lays_77 (by decide) ?_
  refine rc_ti (y := rc_z 0) (rc_z_0.symm) ?_
  refine va_put (D := G) (ci := 2) (v := .int (rc_z 0)) (ty := .int) (C := RX2) (T := TX2) (N := 9) hx hb hts in_X2 tyX2 tyX2_ok nmX2 hown hK hP hD hS 0 rfl rfl 8 (by decide) (hts _ q287) (fun _ h9 => h9) rfl (by decide +kernel) rfl rfl (Nat.le_of_ble_eq_true rfl) dX2_lays_78 (fun H locs hP hD hS => ?_)
  have hP : va_P G rc_cl [(h, .inr (2, [v0, v1, v2, v3, .ref w, v5, .ref st, .int (rc_z 0), .int (rc_z 0)])), (w, rc_ai cI n U), (st, rc_ai cI 256 ((rc_ks U n 256).1))] H := hP
  have hD : va_D A [(h, .inr (2, [v0, v1, v2, v3, .ref w, v5, .ref st, .int (rc_z 0), .int (rc_z 0)])), (w, rc_ai cI n U), (st, rc_ai cI 256 ((rc_ks U n 256).1))] := hD
  refine lv_aload_n hx hb dX2_lays_81 rfl (lv_at hl 0 rfl) ?_
  refine lv_iconst (v := 0) hx hb dX2_lays_82 (by decide) ?_
  refine rc_ti (y := nI 0) (nI_0.symm) ?_
  refine va_put (D := G) (ci := 2) (v := .int (nI 0)) (ty := .int) (C := RX2) (T := TX2) (N := 9) hx hb hts in_X2 tyX2 tyX2_ok nmX2 hown hK hP hD hS 0 rfl rfl 5 (by decide) (hts _ q284) (fun _ h9 => h9) rfl (by decide +kernel) rfl rfl (Nat.le_of_ble_eq_true rfl) dX2_lays_83 (fun H locs hP hD hS => ?_)
  have hP : va_P G rc_cl [(h, .inr (2, [v0, v1, v2, v3, .ref w, .int (nI 0), .ref st, .int (rc_z 0), .int (rc_z 0)])), (w, rc_ai cI n U), (st, rc_ai cI 256 ((rc_ks U n 256).1))] H := hP
  have hD : va_D A [(h, .inr (2, [v0, v1, v2, v3, .ref w, .int (nI 0), .ref st, .int (rc_z 0), .int (rc_z 0)])), (w, rc_ai cI n U), (st, rc_ai cI 256 ((rc_ks U n 256).1))] := hD
  exact rc_vr hx hb hr hlocks () (trivial) (hP) (hD) hS (by omega) (by omega) dX2_lays_86
end
section
/-! RcFourDeskModel: next, one, again, begin -/
set_option maxHeartbeats 4000000 in
set_option maxRecDepth 100000 in
/-- next: one byte of the stream -/
theorem metX2_next (l : Launch) (G : va_G) (cB cI : ClassId) (h st sz gv : Nat) (S : Nat → By) (i j : By) (v0 v1 v2 v3 v4 : Value) : rc_Mi l yX2_next cX2_next 1 .int 1 0 0 23 G cB cI [(h, .inr (2, [v0, v1, v2, v3, v4, .int (nI gv), .ref st, .int (rc_z i), .int (rc_z j)])), (st, rc_ai cI 256 S)] sz [.ref h] (fun (r : Int32) (_ : Unit) => r = rc_z (rc_ko (rc_nx (S, i, j)))) (fun _ => [(h, .inr (2, [v0, v1, v2, v3, v4, .int (nI (gv + 1)), .ref st, .int (rc_z ((rc_nx (S, i, j)).2.1)), .int (rc_z ((rc_nx (S, i, j)).2.2))])), (st, rc_ai cI 256 ((rc_nx (S, i, j)).1))]) := by
  refine rc_ofi (by decide) (Nat.le_of_ble_eq_true rfl) ?_
  intro p e s m below meth c A ls hx hb hr hlocks hml hown hin hts hP hK hD hA hS hl
  have hown : s.vm.findClass RX2 = some m.cls := hown
  have hl : lv_has ls 1 [(0, .ref h)] := hl
  refine lv_aload_n hx hb dX2_next_0 rfl (lv_at hl 0 rfl) ?_
  refine lv_aload_n hx hb dX2_next_1 rfl (lv_at hl 0 rfl) ?_
  refine va_get (D := G) (ci := 2) (v := .int (rc_z i)) (C := RX2) (T := TX2) (N := 9) hx hb hts in_X2 hown hK hP 0 rfl rfl 7 (by decide) (hts _ q286) (fun _ h9 => h9) rfl dX2_next_2 ?_
  refine lv_iconst (v := 1) hx hb dX2_next_5 (by decide) ?_
  refine lv_iadd hx hb dX2_next_6 ?_
  refine lv_sipush (v := 256) hx hb dX2_next_7 (by decide) ?_
  refine lv_irem hx hb dX2_next_10 (by decide) ?_
  refine rc_ti (y := rc_z (i + 1)) (rc_inc_rem _) ?_
  refine va_put (D := G) (ci := 2) (v := .int (rc_z (i + 1))) (ty := .int) (C := RX2) (T := TX2) (N := 9) hx hb hts in_X2 tyX2 tyX2_ok nmX2 hown hK hP hD hS 0 rfl rfl 7 (by decide) (hts _ q286) (fun _ h9 => h9) rfl (by decide +kernel) rfl rfl (Nat.le_of_ble_eq_true rfl) dX2_next_11 (fun H locs hP hD hS => ?_)
  have hP : va_P G rc_cl [(h, .inr (2, [v0, v1, v2, v3, v4, .int (nI gv), .ref st, .int (rc_z (i + 1)), .int (rc_z j)])), (st, rc_ai cI 256 S)] H := hP
  have hD : va_D A [(h, .inr (2, [v0, v1, v2, v3, v4, .int (nI gv), .ref st, .int (rc_z (i + 1)), .int (rc_z j)])), (st, rc_ai cI 256 S)] := hD
  refine lv_aload_n hx hb dX2_next_14 rfl (lv_at hl 0 rfl) ?_
  refine lv_aload_n hx hb dX2_next_15 rfl (lv_at hl 0 rfl) ?_
  refine va_get (D := G) (ci := 2) (v := .int (rc_z j)) (C := RX2) (T := TX2) (N := 9) hx hb hts in_X2 hown hK hP 0 rfl rfl 8 (by decide) (hts _ q287) (fun _ h9 => h9) rfl dX2_next_16 ?_
  refine lv_aload_n hx hb dX2_next_19 rfl (lv_at hl 0 rfl) ?_
  refine va_get (D := G) (ci := 2) (v := .ref st) (C := RX2) (T := TX2) (N := 9) hx hb hts in_X2 hown hK hP 0 rfl rfl 6 (by decide) (hts _ q285) (fun _ h9 => h9) rfl dX2_next_20 ?_
  refine lv_aload_n hx hb dX2_next_23 rfl (lv_at hl 0 rfl) ?_
  refine va_get (D := G) (ci := 2) (v := .int (rc_z (i + 1))) (C := RX2) (T := TX2) (N := 9) hx hb hts in_X2 hown hK hP 0 rfl rfl 7 (by decide) (hts _ q286) (fun _ h9 => h9) rfl dX2_next_24 ?_
  refine rc_ild hx hb hK hP 1 rfl ((i + 1).toNat) (rfl) (rc_z_lt _) (Nat.le_of_ble_eq_true rfl) dX2_next_27 ?_
  refine lv_iadd hx hb dX2_next_28 ?_
  refine lv_sipush (v := 256) hx hb dX2_next_29 (by decide) ?_
  refine lv_irem hx hb dX2_next_32 (by decide) ?_
  refine rc_ti (y := rc_z (j + S (i + 1).toNat)) (rc_zz_rem _ _) ?_
  refine va_put (D := G) (ci := 2) (v := .int (rc_z (j + S (i + 1).toNat))) (ty := .int) (C := RX2) (T := TX2) (N := 9) hx hb hts in_X2 tyX2 tyX2_ok nmX2 hown hK hP hD hS 0 rfl rfl 8 (by decide) (hts _ q287) (fun _ h9 => h9) rfl (by decide +kernel) rfl rfl (Nat.le_of_ble_eq_true rfl) dX2_next_33 (fun H locs hP hD hS => ?_)
  have hP : va_P G rc_cl [(h, .inr (2, [v0, v1, v2, v3, v4, .int (nI gv), .ref st, .int (rc_z (i + 1)), .int (rc_z (j + S (i + 1).toNat))])), (st, rc_ai cI 256 S)] H := hP
  have hD : va_D A [(h, .inr (2, [v0, v1, v2, v3, v4, .int (nI gv), .ref st, .int (rc_z (i + 1)), .int (rc_z (j + S (i + 1).toNat))])), (st, rc_ai cI 256 S)] := hD
  refine lv_aload_n hx hb dX2_next_36 rfl (lv_at hl 0 rfl) ?_
  refine lv_aload_n hx hb dX2_next_37 rfl (lv_at hl 0 rfl) ?_
  refine va_get (D := G) (ci := 2) (v := .int (rc_z (i + 1))) (C := RX2) (T := TX2) (N := 9) hx hb hts in_X2 hown hK hP 0 rfl rfl 7 (by decide) (hts _ q286) (fun _ h9 => h9) rfl dX2_next_38 ?_
  refine lv_aload_n hx hb dX2_next_41 rfl (lv_at hl 0 rfl) ?_
  refine va_get (D := G) (ci := 2) (v := .int (rc_z (j + S (i + 1).toNat))) (C := RX2) (T := TX2) (N := 9) hx hb hts in_X2 hown hK hP 0 rfl rfl 8 (by decide) (hts _ q287) (fun _ h9 => h9) rfl dX2_next_42 ?_
  refine rc_cv (wc := [(h, .inr (2, [v0, v1, v2, v3, v4, .int (nI gv), .ref st, .int (rc_z (i + 1)), .int (rc_z (j + S (i + 1).toNat))])), (st, rc_ai cI 256 S)]) (wr := []) [0, 1] [] rfl rfl rfl (by decide) hP hD hS hA (va_runV (As := [.int (nI (i + 1).toNat), .int (nI (j + S (i + 1).toNat).toNat)]) (rest := []) ⟨hx, hb, hml, hown, hts⟩ (metX2_swaps l G cB cI h st _ (i + 1).toNat (j + S (i + 1).toNat).toNat S v0 v1 v2 v3 v4 (.int (nI gv)) (.int (rc_z (i + 1))) (.int (rc_z (j + S (i + 1).toNat))) (rc_z_lt _) (rc_z_lt _)) (cwV 2 hts (lw_V q340 q342 qs6 q11 q343) rfl rfl rfl (by decide +kernel) ⟨Nat.le_of_ble_eq_true rfl, Nat.le_of_ble_eq_true rfl⟩) (rc_preV hK hP hD [0, 1] rfl rfl 2 0 rfl rfl) rfl rfl hl.1 rfl (lv_room (Nat.le_of_ble_eq_true rfl)) dX2_next_45 ⟨Nat.le_of_ble_eq_true rfl, Nat.le_of_ble_eq_true rfl⟩) (fun u H locs hq hP hD hS => ?_)
  have hP : va_P G rc_cl [(h, .inr (2, [v0, v1, v2, v3, v4, .int (nI gv), .ref st, .int (rc_z (i + 1)), .int (rc_z (j + S (i + 1).toNat))])), (st, rc_ai cI 256 (rc_sw S (i + 1).toNat (j + S (i + 1).toNat).toNat))] H := hP
  have hD : va_D A [(h, .inr (2, [v0, v1, v2, v3, v4, .int (nI gv), .ref st, .int (rc_z (i + 1)), .int (rc_z (j + S (i + 1).toNat))])), (st, rc_ai cI 256 (rc_sw S (i + 1).toNat (j + S (i + 1).toNat).toNat))] := hD
  refine W.widen (k := 0) (n := 0) (by omega) (by omega) ?_
  refine lv_aload_n hx hb dX2_next_48 rfl (lv_at hl 0 rfl) ?_
  refine lv_dup hx hb dX2_next_49 rfl ?_
  refine va_get (D := G) (ci := 2) (v := .int (nI gv)) (C := RX2) (T := TX2) (N := 9) hx hb hts in_X2 hown hK hP 0 rfl rfl 5 (by decide) (hts _ q284) (fun _ h9 => h9) rfl dX2_next_50 ?_
  refine lv_iconst (v := 1) hx hb dX2_next_53 (by decide) ?_
  refine lv_iadd hx hb dX2_next_54 ?_
  refine rc_ti (y := nI (gv + 1)) (nI_1 _) ?_
  refine va_put (D := G) (ci := 2) (v := .int (nI (gv + 1))) (ty := .int) (C := RX2) (T := TX2) (N := 9) hx hb hts in_X2 tyX2 tyX2_ok nmX2 hown hK hP hD hS 0 rfl rfl 5 (by decide) (hts _ q284) (fun _ h9 => h9) rfl (by decide +kernel) rfl rfl (Nat.le_of_ble_eq_true rfl) dX2_next_55 (fun H locs hP hD hS => ?_)
  have hP : va_P G rc_cl [(h, .inr (2, [v0, v1, v2, v3, v4, .int (nI (gv + 1)), .ref st, .int (rc_z (i + 1)), .int (rc_z (j + S (i + 1).toNat))])), (st, rc_ai cI 256 (rc_sw S (i + 1).toNat (j + S (i + 1).toNat).toNat))] H := hP
  have hD : va_D A [(h, .inr (2, [v0, v1, v2, v3, v4, .int (nI (gv + 1)), .ref st, .int (rc_z (i + 1)), .int (rc_z (j + S (i + 1).toNat))])), (st, rc_ai cI 256 (rc_sw S (i + 1).toNat (j + S (i + 1).toNat).toNat))] := hD
  refine lv_aload_n hx hb dX2_next_58 rfl (lv_at hl 0 rfl) ?_
  refine va_get (D := G) (ci := 2) (v := .ref st) (C := RX2) (T := TX2) (N := 9) hx hb hts in_X2 hown hK hP 0 rfl rfl 6 (by decide) (hts _ q285) (fun _ h9 => h9) rfl dX2_next_59 ?_
  refine lv_aload_n hx hb dX2_next_62 rfl (lv_at hl 0 rfl) ?_
  refine va_get (D := G) (ci := 2) (v := .ref st) (C := RX2) (T := TX2) (N := 9) hx hb hts in_X2 hown hK hP 0 rfl rfl 6 (by decide) (hts _ q285) (fun _ h9 => h9) rfl dX2_next_63 ?_
  refine lv_aload_n hx hb dX2_next_66 rfl (lv_at hl 0 rfl) ?_
  refine va_get (D := G) (ci := 2) (v := .int (rc_z (i + 1))) (C := RX2) (T := TX2) (N := 9) hx hb hts in_X2 hown hK hP 0 rfl rfl 7 (by decide) (hts _ q286) (fun _ h9 => h9) rfl dX2_next_67 ?_
  refine rc_ild hx hb hK hP 1 rfl ((i + 1).toNat) (rfl) (rc_z_lt _) (Nat.le_of_ble_eq_true rfl) dX2_next_70 ?_
  refine lv_aload_n hx hb dX2_next_71 rfl (lv_at hl 0 rfl) ?_
  refine va_get (D := G) (ci := 2) (v := .ref st) (C := RX2) (T := TX2) (N := 9) hx hb hts in_X2 hown hK hP 0 rfl rfl 6 (by decide) (hts _ q285) (fun _ h9 => h9) rfl dX2_next_72 ?_
  refine lv_aload_n hx hb dX2_next_75 rfl (lv_at hl 0 rfl) ?_
  refine va_get (D := G) (ci := 2) (v := .int (rc_z (j + S (i + 1).toNat))) (C := RX2) (T := TX2) (N := 9) hx hb hts in_X2 hown hK hP 0 rfl rfl 8 (by decide) (hts _ q287) (fun _ h9 => h9) rfl dX2_next_76 ?_
  refine rc_ild hx hb hK hP 1 rfl ((j + S (i + 1).toNat).toNat) (rfl) (rc_z_lt _) (Nat.le_of_ble_eq_true rfl) dX2_next_79 ?_
  refine lv_iadd hx hb dX2_next_80 ?_
  refine lv_sipush (v := 256) hx hb dX2_next_81 (by decide) ?_
  refine lv_irem hx hb dX2_next_84 (by decide) ?_
  refine rc_ti (y := rc_z ((rc_sw S (i + 1).toNat (j + S (i + 1).toNat).toNat) (i + 1).toNat + (rc_sw S (i + 1).toNat (j + S (i + 1).toNat).toNat) (j + S (i + 1).toNat).toNat)) (rc_zz_rem _ _) ?_
  refine rc_ild hx hb hK hP 1 rfl (((rc_sw S (i + 1).toNat (j + S (i + 1).toNat).toNat) (i + 1).toNat + (rc_sw S (i + 1).toNat (j + S (i + 1).toNat).toNat) (j + S (i + 1).toNat).toNat).toNat) (rfl) (rc_z_lt _) (Nat.le_of_ble_eq_true rfl) dX2_next_85 ?_
  exact rc_ir hx hb hr hlocks (rfl) () (rfl) (hP) (hD) hS (by omega) (by omega) dX2_next_86

set_option maxHeartbeats 4000000 in
set_option maxRecDepth 100000 in
/-- one without a key: -1 -/
theorem metX2_one_n (l : Launch) (G : va_G) (cB cI : ClassId) (h w st sz gv : Nat) (U S : Nat → By) (i j : By) (x : Int32) (v0 v1 v2 v3 : Value) : rc_Mi l yX2_one cX2_one 2 .int 2 0 0 43 G cB cI [(h, .inr (2, [v0, v1, v2, v3, .ref w, .int (nI gv), .ref st, .int (rc_z i), .int (rc_z j)])), (w, rc_ai cI 0 U), (st, rc_ai cI 256 S)] sz [.ref h, .int x] (fun (r : Int32) (_ : Unit) => r = -1) (fun _ => [(h, .inr (2, [v0, v1, v2, v3, .ref w, .int (nI gv), .ref st, .int (rc_z i), .int (rc_z j)])), (w, rc_ai cI 0 U), (st, rc_ai cI 256 S)]) := by
  refine rc_ofi (by decide) (Nat.le_of_ble_eq_true rfl) ?_
  intro p e s m below meth c A ls hx hb hr hlocks hml hown hin hts hP hK hD hA hS hl
  have hown : s.vm.findClass RX2 = some m.cls := hown
  have hl : lv_has ls 2 [(0, .ref h), (1, .int x)] := hl
  refine lv_aload_n hx hb dX2_one_0 rfl (lv_at hl 0 rfl) ?_
  refine va_get (D := G) (ci := 2) (v := .ref w) (C := RX2) (T := TX2) (N := 9) hx hb hts in_X2 hown hK hP 0 rfl rfl 4 (by decide) (hts _ q283) (fun _ h9 => h9) rfl dX2_one_1 ?_
  refine rc_lnI hx hb hK hP 1 rfl dX2_one_4 ?_
  refine lv_if_ne (tgt := 10) hx hb dX2_one_5 (by decide) (fun h9 => absurd (nI_0) h9) (fun _ => ?_)
  refine lv_iconst (v := -1) hx hb dX2_one_8 (by decide) ?_
  exact rc_ir hx hb hr hlocks (rfl) () (rfl) (hP) (hD) hS (by omega) (by omega) dX2_one_9

set_option maxHeartbeats 4000000 in
set_option maxRecDepth 100000 in
/-- one -/
theorem metX2_one_s (l : Launch) (G : va_G) (cB cI : ClassId) (h w st sz gv n : Nat) (U S : Nat → By) (i j : By) (x : Int32) (v0 v1 v2 v3 : Value) (hg : gv ≤ 1024) (hn0 : 0 < n) (hn : n ≤ 32) : rc_Mi l yX2_one cX2_one 2 .int 2 0 0 43 G cB cI [(h, .inr (2, [v0, v1, v2, v3, .ref w, .int (nI gv), .ref st, .int (rc_z i), .int (rc_z j)])), (w, rc_ai cI n U), (st, rc_ai cI 256 S)] sz [.ref h, .int x] (fun (r : Int32) (u : Nat × rc_St) => (gv < 1024 ∧ r = rc_z (rc_lo x ^^^ rc_ko (rc_nx (S, i, j))) ∧ u = (gv + 1, rc_nx (S, i, j))) ∨ (¬ gv < 1024 ∧ r = -2 ∧ u = (gv, S, i, j))) (fun u => [(h, .inr (2, [v0, v1, v2, v3, .ref w, .int (nI u.1), .ref st, .int (rc_z u.2.2.1), .int (rc_z u.2.2.2)])), (w, rc_ai cI n U), (st, rc_ai cI 256 u.2.1)]) := by
  refine rc_ofi (by decide) (Nat.le_of_ble_eq_true rfl) ?_
  intro p e s m below meth c A ls hx hb hr hlocks hml hown hin hts hP hK hD hA hS hl
  have hown : s.vm.findClass RX2 = some m.cls := hown
  have hl : lv_has ls 2 [(0, .ref h), (1, .int x)] := hl
  refine lv_aload_n hx hb dX2_one_0 rfl (lv_at hl 0 rfl) ?_
  refine va_get (D := G) (ci := 2) (v := .ref w) (C := RX2) (T := TX2) (N := 9) hx hb hts in_X2 hown hK hP 0 rfl rfl 4 (by decide) (hts _ q283) (fun _ h9 => h9) rfl dX2_one_1 ?_
  refine rc_lnI hx hb hK hP 1 rfl dX2_one_4 ?_
  refine lv_if_ne (tgt := 10) hx hb dX2_one_5 (by decide) (fun _ => ?_) (fun h9 => absurd h9 (nI_ne0 hn0 (rc_big (by omega))))
  refine lv_aload_n hx hb dX2_one_10 rfl (lv_at hl 0 rfl) ?_
  refine va_get (D := G) (ci := 2) (v := .int (nI gv)) (C := RX2) (T := TX2) (N := 9) hx hb hts in_X2 hown hK hP 0 rfl rfl 5 (by decide) (hts _ q284) (fun _ h9 => h9) rfl dX2_one_11 ?_
  refine lv_sipush (v := 1024) hx hb dX2_one_14 (by decide) ?_
  refine lv_icmp_lt (tgt := 25) hx hb dX2_one_17 (by decide) (fun c1 => ?_) (fun c1 => ?_)
  · refine lv_iload_n hx hb dX2_one_25 rfl (lv_at hl 1 rfl) ?_
    refine lv_sipush (v := 255) hx hb dX2_one_26 (by decide) ?_
    refine lv_iand hx hb dX2_one_29 ?_
    refine lv_aload_n hx hb dX2_one_30 rfl (lv_at hl 0 rfl) ?_
    refine rc_ci (wc := [(h, .inr (2, [v0, v1, v2, v3, .ref w, .int (nI gv), .ref st, .int (rc_z i), .int (rc_z j)])), (st, rc_ai cI 256 S)]) (wr := [(w, rc_ai cI n U)]) [0, 2] [1] rfl rfl rfl (by decide) hP hD hS hA (va_runV (As := []) (rest := [.int (x &&& 255)]) ⟨hx, hb, hml, hown, hts⟩ (metX2_next l G cB cI h st _ gv S i j v0 v1 v2 v3 (.ref w)) (cwV 0 hts (lw_V q348 q350 qs7 q11 q351) rfl rfl rfl (by decide +kernel) ⟨Nat.le_of_ble_eq_true rfl, Nat.le_of_ble_eq_true rfl⟩) (rc_preV hK hP hD [0, 2] rfl rfl 2 0 rfl rfl) rfl rfl hl.1 rfl (lv_room (Nat.le_of_ble_eq_true rfl)) dX2_one_31 ⟨Nat.le_of_ble_eq_true rfl, Nat.le_of_ble_eq_true rfl⟩) (fun r u H locs hq hP hD hS => ?_)
    have hP : va_P G rc_cl [(h, .inr (2, [v0, v1, v2, v3, .ref w, .int (nI (gv + 1)), .ref st, .int (rc_z ((rc_nx (S, i, j)).2.1)), .int (rc_z ((rc_nx (S, i, j)).2.2))])), (w, rc_ai cI n U), (st, rc_ai cI 256 ((rc_nx (S, i, j)).1))] H := hP.sub [1, 0, 2] rfl
    have hD : va_D A [(h, .inr (2, [v0, v1, v2, v3, .ref w, .int (nI (gv + 1)), .ref st, .int (rc_z ((rc_nx (S, i, j)).2.1)), .int (rc_z ((rc_nx (S, i, j)).2.2))])), (w, rc_ai cI n U), (st, rc_ai cI 256 ((rc_nx (S, i, j)).1))] := hD.sub [1, 0, 2] rfl rfl
    refine W.widen (k := 0) (n := 0) (by omega) (by omega) ?_
    refine rc_ti (y := rc_z (rc_ko (rc_nx (S, i, j)))) (hq) ?_
    refine lv_ixor hx hb dX2_one_34 ?_
    refine rc_ti (y := rc_z (rc_lo x ^^^ rc_ko (rc_nx (S, i, j)))) (rc_and_z _ _) ?_
    exact rc_ir hx hb hr hlocks (rfl) (gv + 1, rc_nx (S, i, j)) (Or.inl ⟨(rc_nlt (b := 1024) (by omega) (by omega)).mp c1, rfl, rfl⟩) (hP) (hD) hS (by omega) (by omega) dX2_one_35
  · refine lv_bipush (v := -2) hx hb dX2_one_20 (by decide) ?_
    refine lv_goto (tgt := 35) hx hb dX2_one_22 (by decide) ?_
    exact rc_ir hx hb hr hlocks (rfl) (gv, S, i, j) (Or.inr ⟨fun q => c1 ((rc_nlt (b := 1024) (by omega) (by omega)).mpr q), rfl, rfl⟩) (hP) (hD) hS (by omega) (by omega) dX2_one_35

set_option maxHeartbeats 4000000 in
set_option maxRecDepth 100000 in
/-- again without a key -/
theorem metX2_again_n (l : Launch) (G : va_G) (cB cI : ClassId) (h w st sz : Nat) (U S : Nat → By) (v0 v1 v2 v3 v5 v7 v8 : Value) : rc_Mv l yX2_again cX2_again 1 2 0 0 45 G cB cI [(h, .inr (2, [v0, v1, v2, v3, .ref w, v5, .ref st, v7, v8])), (w, rc_ai cI 0 U), (st, rc_ai cI 256 S)] sz [.ref h] (fun _ : Unit => True) (fun _ => [(h, .inr (2, [v0, v1, v2, v3, .ref w, v5, .ref st, v7, v8])), (w, rc_ai cI 0 U), (st, rc_ai cI 256 S)]) := by
  refine rc_ofv (by decide) (Nat.le_of_ble_eq_true rfl) ?_
  intro p e s m below meth c A ls hx hb hr hlocks hml hown hin hts hP hK hD hA hS hl
  have hown : s.vm.findClass RX2 = some m.cls := hown
  have hl : lv_has ls 1 [(0, .ref h)] := hl
  refine lv_aload_n hx hb dX2_again_0 rfl (lv_at hl 0 rfl) ?_
  refine va_get (D := G) (ci := 2) (v := .ref w) (C := RX2) (T := TX2) (N := 9) hx hb hts in_X2 hown hK hP 0 rfl rfl 4 (by decide) (hts _ q283) (fun _ h9 => h9) rfl dX2_again_1 ?_
  refine rc_lnI hx hb hK hP 1 rfl dX2_again_4 ?_
  refine lv_if_le (tgt := 12) hx hb dX2_again_5 (by decide) (fun _ => ?_) (fun h9 => absurd (by decide +kernel) h9)
  exact rc_vr hx hb hr hlocks () (trivial) (hP) (hD) hS (by omega) (by omega) dX2_again_12

set_option maxHeartbeats 4000000 in
set_option maxRecDepth 100000 in
/-- again -/
theorem metX2_again_s (l : Launch) (G : va_G) (cB cI : ClassId) (h w st sz n : Nat) (U S : Nat → By) (v0 v1 v2 v3 v5 v7 v8 : Value) (hn0 : 0 < n) (hn : n ≤ 32) : rc_Mv l yX2_again cX2_again 1 2 0 0 45 G cB cI [(h, .inr (2, [v0, v1, v2, v3, .ref w, v5, .ref st, v7, v8])), (w, rc_ai cI n U), (st, rc_ai cI 256 S)] sz [.ref h] (fun _ : Unit => True) (fun _ => [(h, .inr (2, [v0, v1, v2, v3, .ref w, .int (nI 0), .ref st, .int (rc_z 0), .int (rc_z 0)])), (w, rc_ai cI n U), (st, rc_ai cI 256 ((rc_ks U n 256).1))]) := by
  refine rc_ofv (by decide) (Nat.le_of_ble_eq_true rfl) ?_
  intro p e s m below meth c A ls hx hb hr hlocks hml hown hin hts hP hK hD hA hS hl
  have hown : s.vm.findClass RX2 = some m.cls := hown
  have hl : lv_has ls 1 [(0, .ref h)] := hl
  refine lv_aload_n hx hb dX2_again_0 rfl (lv_at hl 0 rfl) ?_
  refine va_get (D := G) (ci := 2) (v := .ref w) (C := RX2) (T := TX2) (N := 9) hx hb hts in_X2 hown hK hP 0 rfl rfl 4 (by decide) (hts _ q283) (fun _ h9 => h9) rfl dX2_again_1 ?_
  refine rc_lnI hx hb hK hP 1 rfl dX2_again_4 ?_
  refine lv_if_le (tgt := 12) hx hb dX2_again_5 (by decide) (fun h9 => absurd h9 (nI_nle hn0 (rc_big (by omega)))) (fun _ => ?_)
  refine lv_aload_n hx hb dX2_again_8 rfl (lv_at hl 0 rfl) ?_
  refine rc_cv (wc := [(h, .inr (2, [v0, v1, v2, v3, .ref w, v5, .ref st, v7, v8])), (w, rc_ai cI n U), (st, rc_ai cI 256 S)]) (wr := []) [0, 1, 2] [] rfl rfl rfl (by decide) hP hD hS hA (va_runV (As := []) (rest := []) ⟨hx, hb, hml, hown, hts⟩ (metX2_lays l G cB cI h w st _ n U S v0 v1 v2 v3 v5 v7 v8 hn0 hn) (cwV 0 hts (lw_V q336 q338 qs5 q11 q339) rfl rfl rfl (by decide +kernel) ⟨Nat.le_of_ble_eq_true rfl, Nat.le_of_ble_eq_true rfl⟩) (rc_preV hK hP hD [0, 1, 2] rfl rfl 2 0 rfl rfl) rfl rfl hl.1 rfl (lv_room (Nat.le_of_ble_eq_true rfl)) dX2_again_9 ⟨Nat.le_of_ble_eq_true rfl, Nat.le_of_ble_eq_true rfl⟩) (fun u H locs hq hP hD hS => ?_)
  have hP : va_P G rc_cl [(h, .inr (2, [v0, v1, v2, v3, .ref w, .int (nI 0), .ref st, .int (rc_z 0), .int (rc_z 0)])), (w, rc_ai cI n U), (st, rc_ai cI 256 ((rc_ks U n 256).1))] H := hP
  have hD : va_D A [(h, .inr (2, [v0, v1, v2, v3, .ref w, .int (nI 0), .ref st, .int (rc_z 0), .int (rc_z 0)])), (w, rc_ai cI n U), (st, rc_ai cI 256 ((rc_ks U n 256).1))] := hD
  refine W.widen (k := 0) (n := 0) (by omega) (by omega) ?_
  exact rc_vr hx hb hr hlocks () (trivial) (hP) (hD) hS (by omega) (by omega) dX2_again_12

set_option maxHeartbeats 4000000 in
set_option maxRecDepth 100000 in
/-- begin: its loop copies the key -/
theorem lpX2_cp {p : Program} {l : Launch} {e : Env} {s : State} {m : MethodId} {args : Array Value} {below : List Frame} {meth : Method} {c : Code} {R : Room} {cells slots : Nat} {Q : State → Prop} {G : va_G} {cB cI : ClassId} {A : Nat → Prop} (hx : p.tables.exec = Jvm.exec) (hb : c.code = cX2_begin) (hml : c.maxLocals = 3) (hown : s.vm.findClass RX2 = some m.cls) (hts : ∀ w ∈ lw_all, w.before args s = true) (hK : va_K G rc_cl (rc_ty cB cI) s) (hA : ∀ q : Nat, s.heap.size ≤ q → A q) (h k w st n : Nat) (K S : Nat → By) (x : Int32) (v1 v2 v3 v5 v7 v8 : Value) (hn : n ≤ 32)
    (hexit : ∀ (H : Heap) (locs : List Loc) (ls : Array Slot), va_P G rc_cl [(h, .inr (2, [.ref k, v1, v2, v3, .ref w, v5, .ref st, v7, v8])), (k, rc_ai cI 32 K), (w, rc_ai cI n (rc_cp K n)), (st, rc_ai cI 256 S)] H → va_D A [(h, .inr (2, [.ref k, v1, v2, v3, .ref w, v5, .ref st, v7, v8])), (k, rc_ai cI 32 K), (w, rc_ai cI n (rc_cp K n)), (st, rc_ai cI 256 S)] → va_S A s.heap H locs → lv_has ls 3 [(0, .ref h), (1, .int x), (2, .int (nI n))] → W p l e R s m args below meth c H locs cells slots Q (F0 m 41 ls [])) :
    ∀ (d i : Nat), i + d = n → ∀ (H : Heap) (locs : List Loc) (ls : Array Slot), va_P G rc_cl [(h, .inr (2, [.ref k, v1, v2, v3, .ref w, v5, .ref st, v7, v8])), (k, rc_ai cI 32 K), (w, rc_ai cI n (rc_cp K i)), (st, rc_ai cI 256 S)] H → va_D A [(h, .inr (2, [.ref k, v1, v2, v3, .ref w, v5, .ref st, v7, v8])), (k, rc_ai cI 32 K), (w, rc_ai cI n (rc_cp K i)), (st, rc_ai cI 256 S)] → va_S A s.heap H locs → lv_has ls 3 [(0, .ref h), (1, .int x), (2, .int (nI i))] → W p l e R s m args below meth c H locs cells slots Q (F0 m 14 ls []) := by
  intro d
  induction d with
  | zero =>
    intro i hi H locs ls hP hD hS hl
    obtain rfl : i = n := by omega
    refine lv_iload_n hx hb dX2_begin_14 rfl (lv_at hl 2 rfl) ?_
    refine lv_aload_n hx hb dX2_begin_15 rfl (lv_at hl 0 rfl) ?_
    refine va_get (D := G) (ci := 2) (v := .ref w) (C := RX2) (T := TX2) (N := 9) hx hb hts in_X2 hown hK hP 0 rfl rfl 4 (by decide) (hts _ q283) (fun _ h9 => h9) rfl dX2_begin_16 ?_
    refine rc_lnI hx hb hK hP 2 rfl dX2_begin_19 ?_
    refine lv_icmp_ge (tgt := 41) hx hb dX2_begin_20 (by decide) (fun _ => ?_) (fun h9 => absurd (Int32.le_refl _) h9)
    exact hexit H locs ls hP hD hS hl
  | succ d ih =>
    intro i hi H locs ls hP hD hS hl
    refine lv_iload_n hx hb dX2_begin_14 rfl (lv_at hl 2 rfl) ?_
    refine lv_aload_n hx hb dX2_begin_15 rfl (lv_at hl 0 rfl) ?_
    refine va_get (D := G) (ci := 2) (v := .ref w) (C := RX2) (T := TX2) (N := 9) hx hb hts in_X2 hown hK hP 0 rfl rfl 4 (by decide) (hts _ q283) (fun _ h9 => h9) rfl dX2_begin_16 ?_
    refine rc_lnI hx hb hK hP 2 rfl dX2_begin_19 ?_
    refine lv_icmp_ge (tgt := 41) hx hb dX2_begin_20 (by decide) (fun h9 => absurd h9 (fun h9 => absurd ((rc_nle (by omega) (by omega)).mp h9) (by omega))) (fun _ => ?_)
    refine lv_aload_n hx hb dX2_begin_23 rfl (lv_at hl 0 rfl) ?_
    refine va_get (D := G) (ci := 2) (v := .ref w) (C := RX2) (T := TX2) (N := 9) hx hb hts in_X2 hown hK hP 0 rfl rfl 4 (by decide) (hts _ q283) (fun _ h9 => h9) rfl dX2_begin_24 ?_
    refine lv_iload_n hx hb dX2_begin_27 rfl (lv_at hl 2 rfl) ?_
    refine lv_aload_n hx hb dX2_begin_28 rfl (lv_at hl 0 rfl) ?_
    refine va_get (D := G) (ci := 2) (v := .ref k) (C := RX2) (T := TX2) (N := 9) hx hb hts in_X2 hown hK hP 0 rfl rfl 0 (by decide) (hts _ q279) (fun _ h9 => h9) rfl dX2_begin_29 ?_
    refine lv_iload_n hx hb dX2_begin_32 rfl (lv_at hl 2 rfl) ?_
    refine rc_ild hx hb hK hP 1 rfl i (rfl) (by omega) (Nat.le_of_ble_eq_true rfl) dX2_begin_33 ?_
    refine rc_ist hx hb hK hP hD hS 2 rfl i (rfl) (by omega) (by omega) (K i) (rfl) dX2_begin_34 (fun H locs hP hD hS => ?_)
    have hP : va_P G rc_cl [(h, .inr (2, [.ref k, v1, v2, v3, .ref w, v5, .ref st, v7, v8])), (k, rc_ai cI 32 K), (w, rc_ai cI n (rc_up (rc_cp K i) i (K i))), (st, rc_ai cI 256 S)] H := hP
    have hD : va_D A [(h, .inr (2, [.ref k, v1, v2, v3, .ref w, v5, .ref st, v7, v8])), (k, rc_ai cI 32 K), (w, rc_ai cI n (rc_up (rc_cp K i) i (K i))), (st, rc_ai cI 256 S)] := hD
    rw [rc_cp_up] at hP hD
    have hP : va_P G rc_cl [(h, .inr (2, [.ref k, v1, v2, v3, .ref w, v5, .ref st, v7, v8])), (k, rc_ai cI 32 K), (w, rc_ai cI n (rc_cp K (i + 1))), (st, rc_ai cI 256 S)] H := hP
    have hD : va_D A [(h, .inr (2, [.ref k, v1, v2, v3, .ref w, v5, .ref st, v7, v8])), (k, rc_ai cI 32 K), (w, rc_ai cI n (rc_cp K (i + 1))), (st, rc_ai cI 256 S)] := hD
    refine lv_iinc (v := nI (i + 1)) (lv' := [(2, .int (nI (i + 1))), (0, .ref h), (1, .int x)]) hx hb dX2_begin_35 hl (k := 2) rfl (nI_1 i) (by decide) rfl (fun ls hl => ?_)
    refine lv_goto (tgt := 14) hx hb dX2_begin_38 (by decide) ?_
    exact ih (i + 1) (by omega) H locs ls hP hD hS (lv_sub hl [1, 2, 0] rfl)

set_option maxHeartbeats 4000000 in
set_option maxRecDepth 100000 in
/-- begin -/
theorem metX2_begin (l : Launch) (G : va_G) (cB cI : ClassId) (h k st sz : Nat) (K S : Nat → By) (x : Int32) (v1 v2 v3 v4 v5 v7 v8 : Value) : rc_Mv l yX2_begin cX2_begin 3 2 1 32 45 G cB cI [(h, .inr (2, [.ref k, v1, v2, v3, v4, v5, .ref st, v7, v8])), (k, rc_ai cI 32 K), (st, rc_ai cI 256 S)] sz [.ref h, .int x] (fun _ : Nat => True) (fun w => [(h, .inr (2, [.ref k, v1, v2, v3, .ref w, .int (nI 0), .ref st, .int (rc_z 0), .int (rc_z 0)])), (k, rc_ai cI 32 K), (w, rc_ai cI (rc_un x) (rc_cp K (rc_un x))), (st, rc_ai cI 256 ((rc_ks (rc_cp K (rc_un x)) (rc_un x) 256).1))]) := by
  refine rc_ofv (by decide) (Nat.le_of_ble_eq_true rfl) ?_
  intro p e s m below meth c A ls hx hb hr hlocks hml hown hin hts hP hK hD hA hS hl
  have hown : s.vm.findClass RX2 = some m.cls := hown
  have hl : lv_has ls 3 [(0, .ref h), (1, .int x)] := hl
  have hun := rc_un_le x
  refine lv_aload_n hx hb dX2_begin_0 rfl (lv_at hl 0 rfl) ?_
  refine lv_iconst (v := 1) hx hb dX2_begin_1 (by decide) ?_
  refine lv_iload_n hx hb dX2_begin_2 rfl (lv_at hl 1 rfl) ?_
  refine lv_bipush (v := 31) hx hb dX2_begin_3 (by decide) ?_
  refine lv_iand hx hb dX2_begin_5 ?_
  refine rc_ti (y := nI (x.toBitVec.toNat % 32)) (rc_and31 _) ?_
  refine lv_iadd hx hb dX2_begin_6 ?_
  refine rc_ti (y := nI (rc_un x)) (rc_un_nI _) ?_
  refine rc_nwI hx hb (hts _ q307) hK hP hD hS hA (rc_un x) (rfl) (by omega) (Nat.le_of_ble_eq_true rfl) (by show 0 + rc_un x ≤ 32; omega) dX2_begin_7 (fun w H hP hD hS => ?_)
  have hP : va_P G rc_cl [(h, .inr (2, [.ref k, v1, v2, v3, v4, v5, .ref st, v7, v8])), (k, rc_ai cI 32 K), (st, rc_ai cI 256 S), (w, rc_ai cI (rc_un x) (fun _ => 0))] H := hP
  have hD : va_D A [(h, .inr (2, [.ref k, v1, v2, v3, v4, v5, .ref st, v7, v8])), (k, rc_ai cI 32 K), (st, rc_ai cI 256 S), (w, rc_ai cI (rc_un x) (fun _ => 0))] := hD
  refine W.widen (k := 1) (n := 32) (by omega) (by omega) ?_
  refine va_put (D := G) (ci := 2) (v := .ref w) (ty := .array .int) (C := RX2) (T := TX2) (N := 9) hx hb hts in_X2 tyX2 tyX2_ok nmX2 hown hK hP hD hS 0 rfl rfl 4 (by decide) (hts _ q283) (fun _ h9 => h9) rfl (by decide +kernel) rfl rfl (Nat.le_of_ble_eq_true rfl) dX2_begin_9 (fun H locs hP hD hS => ?_)
  have hP : va_P G rc_cl [(h, .inr (2, [.ref k, v1, v2, v3, .ref w, v5, .ref st, v7, v8])), (k, rc_ai cI 32 K), (st, rc_ai cI 256 S), (w, rc_ai cI (rc_un x) (fun _ => 0))] H := hP
  have hD : va_D A [(h, .inr (2, [.ref k, v1, v2, v3, .ref w, v5, .ref st, v7, v8])), (k, rc_ai cI 32 K), (st, rc_ai cI 256 S), (w, rc_ai cI (rc_un x) (fun _ => 0))] := hD
  refine lv_iconst (v := 0) hx hb dX2_begin_12 (by decide) ?_
  refine rc_ti (y := nI 0) (nI_0.symm) ?_
  refine lv_istore_n (lv' := [(2, .int (nI 0)), (0, .ref h), (1, .int x)]) hx hb dX2_begin_13 rfl hl (by decide) rfl (fun ls hl => ?_)
  refine lpX2_cp (cells := 1) (slots := 32) hx hb hml hown hts hK hA h k w st (rc_un x) K S x v1 v2 v3 v5 v7 v8 hun (fun H locs ls hP hD hS hl => ?_) (rc_un x) 0 (Nat.zero_add _) _ _ ls (by rw [rc_cp_0]; exact hP.sub [0, 1, 3, 2] rfl) (by rw [rc_cp_0]; exact hD.sub [0, 1, 3, 2] rfl rfl) hS (lv_sub hl [1, 2, 0] rfl)
  refine lv_aload_n hx hb dX2_begin_41 rfl (lv_at hl 0 rfl) ?_
  refine rc_cv (wc := [(h, .inr (2, [.ref k, v1, v2, v3, .ref w, v5, .ref st, v7, v8])), (w, rc_ai cI (rc_un x) (rc_cp K (rc_un x))), (st, rc_ai cI 256 S)]) (wr := [(k, rc_ai cI 32 K)]) [0, 2, 3] [1] rfl rfl rfl (by decide) hP hD hS hA (va_runV (As := []) (rest := []) ⟨hx, hb, hml, hown, hts⟩ (metX2_lays l G cB cI h w st _ (rc_un x) (rc_cp K (rc_un x)) S (.ref k) v1 v2 v3 v5 v7 v8 (rc_un_pos x) hun) (cwV 0 hts (lw_V q336 q338 qs5 q11 q339) rfl rfl rfl (by decide +kernel) ⟨Nat.le_of_ble_eq_true rfl, Nat.le_of_ble_eq_true rfl⟩) (rc_preV hK hP hD [0, 2, 3] rfl rfl 2 0 rfl rfl) rfl rfl hl.1 rfl (lv_room (Nat.le_of_ble_eq_true rfl)) dX2_begin_42 ⟨Nat.le_of_ble_eq_true rfl, Nat.le_of_ble_eq_true rfl⟩) (fun u H locs hq hP hD hS => ?_)
  have hP : va_P G rc_cl [(k, rc_ai cI 32 K), (h, .inr (2, [.ref k, v1, v2, v3, .ref w, .int (nI 0), .ref st, .int (rc_z 0), .int (rc_z 0)])), (w, rc_ai cI (rc_un x) (rc_cp K (rc_un x))), (st, rc_ai cI 256 ((rc_ks (rc_cp K (rc_un x)) (rc_un x) 256).1))] H := hP
  have hD : va_D A [(k, rc_ai cI 32 K), (h, .inr (2, [.ref k, v1, v2, v3, .ref w, .int (nI 0), .ref st, .int (rc_z 0), .int (rc_z 0)])), (w, rc_ai cI (rc_un x) (rc_cp K (rc_un x))), (st, rc_ai cI 256 ((rc_ks (rc_cp K (rc_un x)) (rc_un x) 256).1))] := hD
  refine W.widen (k := 1) (n := 32) (by omega) (by omega) ?_
  exact rc_vr hx hb hr hlocks w (trivial) (hP.sub [1, 0, 2, 3] rfl) (hD.sub [1, 0, 2, 3] rfl rfl) hS (by omega) (by omega) dX2_begin_45
end
section
/-! RcFourDeskModel: run -/
set_option maxHeartbeats 4000000 in
set_option maxRecDepth 100000 in
/-- run without a key: -1 -/
theorem metX2_run_n (l : Launch) (G : va_G) (cB cI : ClassId) (h t w st o sz gv z no : Nat) (U S T O : Nat → By) (i j : By) (x y : Int32) (v0 : Value) : rc_Mi l yX2_run cX2_run 6 .int 2 1 256 43 G cB cI [(h, .inr (2, [v0, .ref t, .int (nI z), .ref o, .ref w, .int (nI gv), .ref st, .int (rc_z i), .int (rc_z j)])), (t, rc_ai cI 256 T), (w, rc_ai cI 0 U), (st, rc_ai cI 256 S), (o, rc_ai cI no O)] sz [.ref h, .int x, .int y] (fun (r : Int32) (_ : Unit) => r = -1) (fun _ => [(h, .inr (2, [v0, .ref t, .int (nI z), .ref o, .ref w, .int (nI gv), .ref st, .int (rc_z i), .int (rc_z j)])), (t, rc_ai cI 256 T), (w, rc_ai cI 0 U), (st, rc_ai cI 256 S), (o, rc_ai cI no O)]) := by
  refine rc_ofi (by decide) (Nat.le_of_ble_eq_true rfl) ?_
  intro p e s m below meth c A ls hx hb hr hlocks hml hown hin hts hP hK hD hA hS hl
  have hown : s.vm.findClass RX2 = some m.cls := hown
  have hl : lv_has ls 6 [(0, .ref h), (1, .int x), (2, .int y)] := hl
  refine lv_aload_n hx hb dX2_run_0 rfl (lv_at hl 0 rfl) ?_
  refine va_get (D := G) (ci := 2) (v := .ref w) (C := RX2) (T := TX2) (N := 9) hx hb hts in_X2 hown hK hP 0 rfl rfl 4 (by decide) (hts _ q283) (fun _ h9 => h9) rfl dX2_run_1 ?_
  refine rc_lnI hx hb hK hP 2 rfl dX2_run_4 ?_
  refine lv_if_ne (tgt := 10) hx hb dX2_run_5 (by decide) (fun h9 => absurd (nI_0) h9) (fun _ => ?_)
  refine lv_iconst (v := -1) hx hb dX2_run_8 (by decide) ?_
  exact rc_ir hx hb hr hlocks (rfl) () (rfl) (hP) (hD) hS (by omega) (by omega) dX2_run_9

set_option maxHeartbeats 4000000 in
set_option maxRecDepth 100000 in
/-- run: one round -/
theorem stX2_run {p : Program} {l : Launch} {e : Env} {s : State} {m : MethodId} {args : Array Value} {below : List Frame} {meth : Method} {c : Code} {cells slots : Nat} {Q : State → Prop} {G : va_G} {cB cI : ClassId} {A : Nat → Prop} (hx : p.tables.exec = Jvm.exec) (hb : c.code = cX2_run) (hml : c.maxLocals = 6) (hown : s.vm.findClass RX2 = some m.cls) (hts : ∀ w ∈ lw_all, w.before args s = true) (hK : va_K G rc_cl (rc_ty cB cI) s) (hA : ∀ q : Nat, s.heap.size ≤ q → A q) (hcs : cells ≤ 1 ∧ slots ≤ 256) (h t w st q f cn n z : Nat) (U T : Nat → By) (x y : Int32) (v0 : Value) (hfc : f + cn ≤ 256) (gv : Nat) (S O : Nat → By) (i j : By) (k : Nat) (hk : k < cn)
    (kk : ∀ (H : Heap) (locs : List Loc) (ls : Array Slot), va_P G rc_cl [(h, .inr (2, [v0, .ref t, .int (nI z), .ref q, .ref w, .int (nI (gv + 1)), .ref st, .int (rc_z ((rc_nx (S, i, j)).2.1)), .int (rc_z ((rc_nx (S, i, j)).2.2))])), (t, rc_ai cI 256 T), (w, rc_ai cI n U), (st, rc_ai cI 256 ((rc_nx (S, i, j)).1)), (q, rc_ai cI cn (rc_up O k (T (f + k) ^^^ rc_ko (rc_nx (S, i, j)))))] H → va_D A [(h, .inr (2, [v0, .ref t, .int (nI z), .ref q, .ref w, .int (nI (gv + 1)), .ref st, .int (rc_z ((rc_nx (S, i, j)).2.1)), .int (rc_z ((rc_nx (S, i, j)).2.2))])), (t, rc_ai cI 256 T), (w, rc_ai cI n U), (st, rc_ai cI 256 ((rc_nx (S, i, j)).1)), (q, rc_ai cI cn (rc_up O k (T (f + k) ^^^ rc_ko (rc_nx (S, i, j)))))] → va_S A s.heap H locs → lv_has ls 6 [(0, .ref h), (1, .int x), (2, .int y), (3, .int (nI f)), (4, .int (nI cn)), (5, .int (nI (k + 1)))] → W p l e (rc_rm 2 1 256 43) s m args below meth c H locs cells slots Q (F0 m 58 ls [])) :
    ∀ (H : Heap) (locs : List Loc) (ls : Array Slot), va_P G rc_cl [(h, .inr (2, [v0, .ref t, .int (nI z), .ref q, .ref w, .int (nI gv), .ref st, .int (rc_z i), .int (rc_z j)])), (t, rc_ai cI 256 T), (w, rc_ai cI n U), (st, rc_ai cI 256 S), (q, rc_ai cI cn O)] H → va_D A [(h, .inr (2, [v0, .ref t, .int (nI z), .ref q, .ref w, .int (nI gv), .ref st, .int (rc_z i), .int (rc_z j)])), (t, rc_ai cI 256 T), (w, rc_ai cI n U), (st, rc_ai cI 256 S), (q, rc_ai cI cn O)] → va_S A s.heap H locs → lv_has ls 6 [(0, .ref h), (1, .int x), (2, .int y), (3, .int (nI f)), (4, .int (nI cn)), (5, .int (nI k))] → W p l e (rc_rm 2 1 256 43) s m args below meth c H locs cells slots Q (F0 m 58 ls []) := by
  intro H locs ls hP hD hS hl
  refine lv_iload hx hb dX2_run_58 (lv_at hl 5 rfl) ?_
  refine lv_iload hx hb dX2_run_60 (lv_at hl 4 rfl) ?_
  refine lv_icmp_ge (tgt := 92) hx hb dX2_run_62 (by decide) (fun h9 => absurd h9 (fun h9 => absurd ((rc_nle (by omega) (by omega)).mp h9) (by omega))) (fun _ => ?_)
  refine lv_aload_n hx hb dX2_run_65 rfl (lv_at hl 0 rfl) ?_
  refine va_get (D := G) (ci := 2) (v := .ref q) (C := RX2) (T := TX2) (N := 9) hx hb hts in_X2 hown hK hP 0 rfl rfl 3 (by decide) (hts _ q282) (fun _ h9 => h9) rfl dX2_run_66 ?_
  refine lv_iload hx hb dX2_run_69 (lv_at hl 5 rfl) ?_
  refine lv_aload_n hx hb dX2_run_71 rfl (lv_at hl 0 rfl) ?_
  refine va_get (D := G) (ci := 2) (v := .ref t) (C := RX2) (T := TX2) (N := 9) hx hb hts in_X2 hown hK hP 0 rfl rfl 1 (by decide) (hts _ q280) (fun _ h9 => h9) rfl dX2_run_72 ?_
  refine lv_iload_n hx hb dX2_run_75 rfl (lv_at hl 3 rfl) ?_
  refine lv_iload hx hb dX2_run_76 (lv_at hl 5 rfl) ?_
  refine lv_iadd hx hb dX2_run_78 ?_
  refine rc_ti (y := nI (f + k)) (nI_add _ _) ?_
  refine rc_ild hx hb hK hP 1 rfl (f + k) (rfl) (by omega) (Nat.le_of_ble_eq_true rfl) dX2_run_79 ?_
  refine lv_aload_n hx hb dX2_run_80 rfl (lv_at hl 0 rfl) ?_
  refine rc_ci (wc := [(h, .inr (2, [v0, .ref t, .int (nI z), .ref q, .ref w, .int (nI gv), .ref st, .int (rc_z i), .int (rc_z j)])), (st, rc_ai cI 256 S)]) (wr := [(t, rc_ai cI 256 T), (w, rc_ai cI n U), (q, rc_ai cI cn O)]) [0, 3] [1, 2, 4] rfl rfl rfl (by decide) hP hD hS hA (va_runV (As := []) (rest := [.int (rc_z (T (f + k))), .int (nI k), .ref q]) ⟨hx, hb, hml, hown, hts⟩ (metX2_next l G cB cI h st _ gv S i j v0 (.ref t) (.int (nI z)) (.ref q) (.ref w)) (cwV 0 hts (lw_V q348 q350 qs7 q11 q351) rfl rfl rfl (by decide +kernel) ⟨Nat.le_of_ble_eq_true rfl, Nat.le_of_ble_eq_true rfl⟩) (rc_preV hK hP hD [0, 3] rfl rfl 2 0 rfl rfl) rfl rfl hl.1 rfl (lv_room (Nat.le_of_ble_eq_true rfl)) dX2_run_81 ⟨hcs.1, hcs.2⟩) (fun r u H locs hq hP hD hS => ?_)
  have hP : va_P G rc_cl [(h, .inr (2, [v0, .ref t, .int (nI z), .ref q, .ref w, .int (nI (gv + 1)), .ref st, .int (rc_z ((rc_nx (S, i, j)).2.1)), .int (rc_z ((rc_nx (S, i, j)).2.2))])), (t, rc_ai cI 256 T), (w, rc_ai cI n U), (st, rc_ai cI 256 ((rc_nx (S, i, j)).1)), (q, rc_ai cI cn O)] H := hP.sub [3, 0, 1, 4, 2] rfl
  have hD : va_D A [(h, .inr (2, [v0, .ref t, .int (nI z), .ref q, .ref w, .int (nI (gv + 1)), .ref st, .int (rc_z ((rc_nx (S, i, j)).2.1)), .int (rc_z ((rc_nx (S, i, j)).2.2))])), (t, rc_ai cI 256 T), (w, rc_ai cI n U), (st, rc_ai cI 256 ((rc_nx (S, i, j)).1)), (q, rc_ai cI cn O)] := hD.sub [3, 0, 1, 4, 2] rfl rfl
  refine W.widen (k := cells) (n := slots) (by omega) (by omega) ?_
  refine rc_ti (y := rc_z (rc_ko (rc_nx (S, i, j)))) (hq) ?_
  refine lv_ixor hx hb dX2_run_84 ?_
  refine rc_ti (y := rc_z (T (f + k) ^^^ rc_ko (rc_nx (S, i, j)))) (rc_z_xor _ _) ?_
  refine rc_ist hx hb hK hP hD hS 4 rfl k (rfl) (hk) (by omega) (T (f + k) ^^^ rc_ko (rc_nx (S, i, j))) (rfl) dX2_run_85 (fun H locs hP hD hS => ?_)
  have hP : va_P G rc_cl [(h, .inr (2, [v0, .ref t, .int (nI z), .ref q, .ref w, .int (nI (gv + 1)), .ref st, .int (rc_z ((rc_nx (S, i, j)).2.1)), .int (rc_z ((rc_nx (S, i, j)).2.2))])), (t, rc_ai cI 256 T), (w, rc_ai cI n U), (st, rc_ai cI 256 ((rc_nx (S, i, j)).1)), (q, rc_ai cI cn (rc_up O k (T (f + k) ^^^ rc_ko (rc_nx (S, i, j)))))] H := hP
  have hD : va_D A [(h, .inr (2, [v0, .ref t, .int (nI z), .ref q, .ref w, .int (nI (gv + 1)), .ref st, .int (rc_z ((rc_nx (S, i, j)).2.1)), .int (rc_z ((rc_nx (S, i, j)).2.2))])), (t, rc_ai cI 256 T), (w, rc_ai cI n U), (st, rc_ai cI 256 ((rc_nx (S, i, j)).1)), (q, rc_ai cI cn (rc_up O k (T (f + k) ^^^ rc_ko (rc_nx (S, i, j)))))] := hD
  refine lv_iinc (v := nI (k + 1)) (lv' := [(5, .int (nI (k + 1))), (0, .ref h), (1, .int x), (2, .int y), (3, .int (nI f)), (4, .int (nI cn))]) hx hb dX2_run_86 hl (k := 5) rfl (nI_1 k) (by decide) rfl (fun ls hl => ?_)
  refine lv_goto (tgt := 58) hx hb dX2_run_89 (by decide) ?_
  exact kk H locs ls hP hD hS (lv_sub hl [1, 2, 3, 4, 5, 0] rfl)

set_option maxHeartbeats 4000000 in
set_option maxRecDepth 100000 in
/-- run: its loop -/
theorem lpX2_run {p : Program} {l : Launch} {e : Env} {s : State} {m : MethodId} {args : Array Value} {below : List Frame} {meth : Method} {c : Code} {cells slots : Nat} {Q : State → Prop} {G : va_G} {cB cI : ClassId} {A : Nat → Prop} (hx : p.tables.exec = Jvm.exec) (hb : c.code = cX2_run) (hml : c.maxLocals = 6) (hown : s.vm.findClass RX2 = some m.cls) (hts : ∀ w ∈ lw_all, w.before args s = true) (hK : va_K G rc_cl (rc_ty cB cI) s) (hA : ∀ q : Nat, s.heap.size ≤ q → A q) (hcs : cells ≤ 1 ∧ slots ≤ 256) (h t w st q f cn n z : Nat) (U T : Nat → By) (x y : Int32) (v0 : Value) (hfc : f + cn ≤ 256) (gv : Nat) (R0 : rc_St) (O : Nat → By)
    (hexit : ∀ (H : Heap) (locs : List Loc) (ls : Array Slot), va_P G rc_cl [(h, .inr (2, [v0, .ref t, .int (nI z), .ref q, .ref w, .int (nI (gv + cn)), .ref st, .int (rc_z ((rc_rn T f R0 O cn).1.2.1)), .int (rc_z ((rc_rn T f R0 O cn).1.2.2))])), (t, rc_ai cI 256 T), (w, rc_ai cI n U), (st, rc_ai cI 256 ((rc_rn T f R0 O cn).1.1)), (q, rc_ai cI cn ((rc_rn T f R0 O cn).2))] H → va_D A [(h, .inr (2, [v0, .ref t, .int (nI z), .ref q, .ref w, .int (nI (gv + cn)), .ref st, .int (rc_z ((rc_rn T f R0 O cn).1.2.1)), .int (rc_z ((rc_rn T f R0 O cn).1.2.2))])), (t, rc_ai cI 256 T), (w, rc_ai cI n U), (st, rc_ai cI 256 ((rc_rn T f R0 O cn).1.1)), (q, rc_ai cI cn ((rc_rn T f R0 O cn).2))] → va_S A s.heap H locs → lv_has ls 6 [(0, .ref h), (1, .int x), (2, .int y), (3, .int (nI f)), (4, .int (nI cn)), (5, .int (nI cn))] → W p l e (rc_rm 2 1 256 43) s m args below meth c H locs cells slots Q (F0 m 92 ls [])) :
    ∀ (d k : Nat), k + d = cn → ∀ (H : Heap) (locs : List Loc) (ls : Array Slot), va_P G rc_cl [(h, .inr (2, [v0, .ref t, .int (nI z), .ref q, .ref w, .int (nI (gv + k)), .ref st, .int (rc_z ((rc_rn T f R0 O k).1.2.1)), .int (rc_z ((rc_rn T f R0 O k).1.2.2))])), (t, rc_ai cI 256 T), (w, rc_ai cI n U), (st, rc_ai cI 256 ((rc_rn T f R0 O k).1.1)), (q, rc_ai cI cn ((rc_rn T f R0 O k).2))] H → va_D A [(h, .inr (2, [v0, .ref t, .int (nI z), .ref q, .ref w, .int (nI (gv + k)), .ref st, .int (rc_z ((rc_rn T f R0 O k).1.2.1)), .int (rc_z ((rc_rn T f R0 O k).1.2.2))])), (t, rc_ai cI 256 T), (w, rc_ai cI n U), (st, rc_ai cI 256 ((rc_rn T f R0 O k).1.1)), (q, rc_ai cI cn ((rc_rn T f R0 O k).2))] → va_S A s.heap H locs → lv_has ls 6 [(0, .ref h), (1, .int x), (2, .int y), (3, .int (nI f)), (4, .int (nI cn)), (5, .int (nI k))] → W p l e (rc_rm 2 1 256 43) s m args below meth c H locs cells slots Q (F0 m 58 ls []) := by
  intro d
  induction d with
  | zero =>
    intro k hk H locs ls hP hD hS hl
    obtain rfl : k = cn := by omega
    refine lv_iload hx hb dX2_run_58 (lv_at hl 5 rfl) ?_
    refine lv_iload hx hb dX2_run_60 (lv_at hl 4 rfl) ?_
    refine lv_icmp_ge (tgt := 92) hx hb dX2_run_62 (by decide) (fun _ => ?_) (fun h9 => absurd (Int32.le_refl _) h9)
    exact hexit H locs ls hP hD hS hl
  | succ d ih =>
    intro k hk
    exact stX2_run hx hb hml hown hts hK hA hcs h t w st q f cn n z U T x y v0 hfc (gv + k) (rc_rn T f R0 O k).1.1 (rc_rn T f R0 O k).2 (rc_rn T f R0 O k).1.2.1 (rc_rn T f R0 O k).1.2.2 k (by omega) (ih (k + 1) (by omega))

set_option maxHeartbeats 4000000 in
set_option maxRecDepth 100000 in
/-- run -/
theorem metX2_run_s (l : Launch) (G : va_G) (cB cI : ClassId) (h t w st o sz gv z no n : Nat) (U S T O : Nat → By) (i j : By) (x y : Int32) (v0 : Value) (hg : gv ≤ 1024) (hz : z ≤ 256) (hn0 : 0 < n) (hn : n ≤ 32) : rc_Mi l yX2_run cX2_run 6 .int 2 1 256 43 G cB cI [(h, .inr (2, [v0, .ref t, .int (nI z), .ref o, .ref w, .int (nI gv), .ref st, .int (rc_z i), .int (rc_z j)])), (t, rc_ai cI 256 T), (w, rc_ai cI n U), (st, rc_ai cI 256 S), (o, rc_ai cI no O)] sz [.ref h, .int x, .int y] (fun (r : Int32) (u : Nat × Nat × rc_St × Nat × (Nat → By)) => (gv + rc_rc z x y ≤ 1024 ∧ r = nI (rc_rc z x y) ∧ u.2 = (gv + rc_rc z x y, (rc_rn T (rc_rf z x) (S, i, j) (fun _ => 0) (rc_rc z x y)).1, rc_rc z x y, (rc_rn T (rc_rf z x) (S, i, j) (fun _ => 0) (rc_rc z x y)).2)) ∨ (¬ gv + rc_rc z x y ≤ 1024 ∧ r = -2 ∧ u = (o, gv, (S, i, j), no, O))) (fun u => [(h, .inr (2, [v0, .ref t, .int (nI z), .ref u.1, .ref w, .int (nI u.2.1), .ref st, .int (rc_z u.2.2.1.2.1), .int (rc_z u.2.2.1.2.2)])), (t, rc_ai cI 256 T), (w, rc_ai cI n U), (st, rc_ai cI 256 u.2.2.1.1), (u.1, rc_ai cI u.2.2.2.1 u.2.2.2.2)]) := by
  refine rc_ofi (by decide) (Nat.le_of_ble_eq_true rfl) ?_
  intro p e s m below meth c A ls hx hb hr hlocks hml hown hin hts hP hK hD hA hS hl
  have hown : s.vm.findClass RX2 = some m.cls := hown
  have hl : lv_has ls 6 [(0, .ref h), (1, .int x), (2, .int y)] := hl
  have hrc := rc_rc_le z x y
  refine lv_aload_n hx hb dX2_run_0 rfl (lv_at hl 0 rfl) ?_
  refine va_get (D := G) (ci := 2) (v := .ref w) (C := RX2) (T := TX2) (N := 9) hx hb hts in_X2 hown hK hP 0 rfl rfl 4 (by decide) (hts _ q283) (fun _ h9 => h9) rfl dX2_run_1 ?_
  refine rc_lnI hx hb hK hP 2 rfl dX2_run_4 ?_
  refine lv_if_ne (tgt := 10) hx hb dX2_run_5 (by decide) (fun _ => ?_) (fun h9 => absurd h9 (nI_ne0 hn0 (rc_big (by omega))))
  refine lv_aload_n hx hb dX2_run_10 rfl (lv_at hl 0 rfl) ?_
  refine lv_iload_n hx hb dX2_run_11 rfl (lv_at hl 1 rfl) ?_
  refine rc_ci (wc := [(h, .inr (2, [v0, .ref t, .int (nI z), .ref o, .ref w, .int (nI gv), .ref st, .int (rc_z i), .int (rc_z j)]))]) (wr := [(t, rc_ai cI 256 T), (w, rc_ai cI n U), (st, rc_ai cI 256 S), (o, rc_ai cI no O)]) [0] [1, 2, 3, 4] rfl rfl rfl (by decide) hP hD hS hA (va_runV (As := [.int x]) (rest := []) ⟨hx, hb, hml, hown, hts⟩ (metX2_from l G cB cI h _ z x v0 (.ref t) (.ref o) (.ref w) (.int (nI gv)) (.ref st) (.int (rc_z i)) (.int (rc_z j)) hz) (cwV 1 hts (lw_V q319 q321 qs4 q11 q322) rfl rfl rfl (by decide +kernel) ⟨Nat.le_of_ble_eq_true rfl, Nat.le_of_ble_eq_true rfl⟩) (rc_preV hK hP hD [0] rfl rfl 2 0 rfl rfl) rfl rfl hl.1 rfl (lv_room (Nat.le_of_ble_eq_true rfl)) dX2_run_12 ⟨Nat.le_of_ble_eq_true rfl, Nat.le_of_ble_eq_true rfl⟩) (fun r u H locs hq hP hD hS => ?_)
  have hP : va_P G rc_cl [(h, .inr (2, [v0, .ref t, .int (nI z), .ref o, .ref w, .int (nI gv), .ref st, .int (rc_z i), .int (rc_z j)])), (t, rc_ai cI 256 T), (w, rc_ai cI n U), (st, rc_ai cI 256 S), (o, rc_ai cI no O)] H := hP.sub [4, 0, 1, 2, 3] rfl
  have hD : va_D A [(h, .inr (2, [v0, .ref t, .int (nI z), .ref o, .ref w, .int (nI gv), .ref st, .int (rc_z i), .int (rc_z j)])), (t, rc_ai cI 256 T), (w, rc_ai cI n U), (st, rc_ai cI 256 S), (o, rc_ai cI no O)] := hD.sub [4, 0, 1, 2, 3] rfl rfl
  refine W.widen (k := 0) (n := 0) (by omega) (by omega) ?_
  refine rc_ti (y := nI (rc_rf z x)) (hq) ?_
  refine lv_istore_n (lv' := [(3, .int (nI (rc_rf z x))), (0, .ref h), (1, .int x), (2, .int y)]) hx hb dX2_run_15 rfl hl (by decide) rfl (fun ls hl => ?_)
  refine lv_iload_n hx hb dX2_run_16 rfl (lv_at hl 3 rfl) ?_
  refine lv_ldc (v := 2147483647) hx hb hown (hts _ q323) dX2_run_17 ?_
  refine lv_iand hx hb dX2_run_19 ?_
  refine rc_ti (y := nI (rc_ps y)) (rc_ps_and _) ?_
  refine lv_aload_n hx hb dX2_run_20 rfl (lv_at hl 1 rfl) ?_
  refine va_get (D := G) (ci := 2) (v := .int (nI z)) (C := RX2) (T := TX2) (N := 9) hx hb hts in_X2 hown hK hP 0 rfl rfl 2 (by decide) (hts _ q281) (fun _ h9 => h9) rfl dX2_run_21 ?_
  refine lv_iload_n hx hb dX2_run_24 rfl (lv_at hl 0 rfl) ?_
  refine lv_isub hx hb dX2_run_25 ?_
  refine rc_ti (y := nI (z - rc_rf z x)) (pk_sub (rc_rf_le z x)) ?_
  refine lv_iconst (v := 1) hx hb dX2_run_26 (by decide) ?_
  refine lv_iadd hx hb dX2_run_27 ?_
  refine rc_ti (y := nI (z - rc_rf z x + 1)) (nI_1 _) ?_
  refine lv_irem hx hb dX2_run_28 (nI_ne0 (Nat.succ_pos _) (rc_big (by omega))) ?_
  refine rc_ti (y := nI (rc_rc z x y)) (rc_ps_rem y (Nat.succ_pos _) (by omega)) ?_
  refine lv_istore (lv' := [(4, .int (nI (rc_rc z x y))), (3, .int (nI (rc_rf z x))), (0, .ref h), (1, .int x), (2, .int y)]) hx hb dX2_run_29 hl (by decide) rfl (fun ls hl => ?_)
  refine lv_aload_n hx hb dX2_run_31 rfl (lv_at hl 2 rfl) ?_
  refine va_get (D := G) (ci := 2) (v := .int (nI gv)) (C := RX2) (T := TX2) (N := 9) hx hb hts in_X2 hown hK hP 0 rfl rfl 5 (by decide) (hts _ q284) (fun _ h9 => h9) rfl dX2_run_32 ?_
  refine lv_iload hx hb dX2_run_35 (lv_at hl 0 rfl) ?_
  refine lv_iadd hx hb dX2_run_37 ?_
  refine rc_ti (y := nI (gv + rc_rc z x y)) (nI_add _ _) ?_
  refine lv_sipush (v := 1024) hx hb dX2_run_38 (by decide) ?_
  refine lv_icmp_le (tgt := 47) hx hb dX2_run_41 (by decide) (fun c1 => ?_) (fun c1 => ?_)
  · refine lv_aload_n hx hb dX2_run_47 rfl (lv_at hl 2 rfl) ?_
    refine lv_iload hx hb dX2_run_48 (lv_at hl 0 rfl) ?_
    refine rc_nwI hx hb (hts _ q307) hK hP hD hS hA (rc_rc z x y) (rfl) (by omega) (Nat.le_of_ble_eq_true rfl) (by show 0 + rc_rc z x y ≤ 256; omega) dX2_run_50 (fun q H hP hD hS => ?_)
    have hP : va_P G rc_cl [(h, .inr (2, [v0, .ref t, .int (nI z), .ref o, .ref w, .int (nI gv), .ref st, .int (rc_z i), .int (rc_z j)])), (t, rc_ai cI 256 T), (w, rc_ai cI n U), (st, rc_ai cI 256 S), (o, rc_ai cI no O), (q, rc_ai cI (rc_rc z x y) (fun _ => 0))] H := hP
    have hD : va_D A [(h, .inr (2, [v0, .ref t, .int (nI z), .ref o, .ref w, .int (nI gv), .ref st, .int (rc_z i), .int (rc_z j)])), (t, rc_ai cI 256 T), (w, rc_ai cI n U), (st, rc_ai cI 256 S), (o, rc_ai cI no O), (q, rc_ai cI (rc_rc z x y) (fun _ => 0))] := hD
    refine W.widen (k := 1) (n := 256) (by omega) (by omega) ?_
    refine va_put (D := G) (ci := 2) (v := .ref q) (ty := .array .int) (C := RX2) (T := TX2) (N := 9) hx hb hts in_X2 tyX2 tyX2_ok nmX2 hown hK hP hD hS 0 rfl rfl 3 (by decide) (hts _ q282) (fun _ h9 => h9) rfl (by decide +kernel) rfl rfl (Nat.le_of_ble_eq_true rfl) dX2_run_52 (fun H locs hP hD hS => ?_)
    have hP : va_P G rc_cl [(h, .inr (2, [v0, .ref t, .int (nI z), .ref q, .ref w, .int (nI gv), .ref st, .int (rc_z i), .int (rc_z j)])), (t, rc_ai cI 256 T), (w, rc_ai cI n U), (st, rc_ai cI 256 S), (o, rc_ai cI no O), (q, rc_ai cI (rc_rc z x y) (fun _ => 0))] H := hP
    have hD : va_D A [(h, .inr (2, [v0, .ref t, .int (nI z), .ref q, .ref w, .int (nI gv), .ref st, .int (rc_z i), .int (rc_z j)])), (t, rc_ai cI 256 T), (w, rc_ai cI n U), (st, rc_ai cI 256 S), (o, rc_ai cI no O), (q, rc_ai cI (rc_rc z x y) (fun _ => 0))] := hD
    refine lv_iconst (v := 0) hx hb dX2_run_55 (by decide) ?_
    refine rc_ti (y := nI 0) (nI_0.symm) ?_
    refine lv_istore (lv' := [(5, .int (nI 0)), (4, .int (nI (rc_rc z x y))), (3, .int (nI (rc_rf z x))), (0, .ref h), (1, .int x), (2, .int y)]) hx hb dX2_run_56 hl (by decide) rfl (fun ls hl => ?_)
    refine lpX2_run hx hb hml hown hts hK hA (cells := 1) (slots := 256) ⟨Nat.le_refl 1, Nat.le_refl 256⟩ h t w st q (rc_rf z x) (rc_rc z x y) n z U T x y v0 (by omega) gv (S, i, j) (fun _ => 0) (fun H locs ls hP hD hS hl => ?_) (rc_rc z x y) 0 (Nat.zero_add _) _ _ ls (hP.sub [0, 1, 2, 3, 5] rfl) (hD.sub [0, 1, 2, 3, 5] rfl rfl) hS (lv_sub hl [3, 4, 5, 2, 1, 0] rfl)
    refine lv_iload hx hb dX2_run_92 (lv_at hl 4 rfl) ?_
    exact rc_ir hx hb hr hlocks (rfl) (q, gv + rc_rc z x y, (rc_rn T (rc_rf z x) (S, i, j) (fun _ => 0) (rc_rc z x y)).1, rc_rc z x y, (rc_rn T (rc_rf z x) (S, i, j) (fun _ => 0) (rc_rc z x y)).2) (Or.inl ⟨(rc_nle (b := 1024) (by omega) (by omega)).mp c1, rfl, rfl⟩) (hP) (hD) hS (by omega) (by omega) dX2_run_94
  · refine lv_bipush (v := -2) hx hb dX2_run_44 (by decide) ?_
    exact rc_ir hx hb hr hlocks (rfl) (o, gv, (S, i, j), no, O) (Or.inr ⟨fun q => c1 ((rc_nle (b := 1024) (by omega) (by omega)).mpr q), rfl, rfl⟩) (hP) (hD) hS (by omega) (by omega) dX2_run_46
end
section
/-! THE TWO OBJECTS AS THE LAW SEES THEM: one picture, rc_PS, of both: (key's length or 0, key in use, stream, given, key, text, size, length of out, out) -/
abbrev rc_PS : Type := Nat × (Nat → By) × rc_St × Nat × (Nat → By) × (Nat → By) × Nat × Nat × (Nat → By)
def rc_ok : rc_PS → Prop
  | (un, _, _, gv, _, _, z, no, _) => un ≤ 32 ∧ gv ≤ 1024 ∧ z ≤ 256 ∧ no ≤ 256
abbrev rc_DA : Type := Nat × Nat × Nat × Nat × Nat × Nat × Nat × (Nat → By)
abbrev rc_MA : Type := Nat × Nat × Nat × Nat × Nat
def rc_sf : Nat → Int32
  | 0 => 0
  | _ + 1 => 1
def rc_de (cB : ClassId) (e1 st w : Nat) (U S : Nat → By) (i j : By) : Nat → va_W
  | 0 => []
  | m + 1 => [(e1, .inr (1, [.ref st, .int (rc_z i), .int (rc_z j), .ref w, .int 1])), (st, rc_ab cB 256 S), (w, rc_ab cB (m + 1) U)]
def rc_dw (cB : ClassId) (h : Nat) (u : rc_DA) (σ : rc_PS) : va_W := (h, .inr (0, [.ref u.1, .int (rc_sf σ.1), .int (nI σ.2.2.2.1), .ref u.2.1, .ref u.2.2.1, .ref u.2.2.2.1, .int (nI σ.2.2.2.2.2.2.1), .ref u.2.2.2.2.1])) :: (u.2.1, rc_ab cB 32 σ.2.2.2.2.1) :: (u.2.2.1, rc_ab cB 16 u.2.2.2.2.2.2.2) :: (u.2.2.2.1, rc_ab cB 256 σ.2.2.2.2.2.1) :: (u.2.2.2.2.1, rc_ab cB σ.2.2.2.2.2.2.2.1 σ.2.2.2.2.2.2.2.2) :: rc_de cB u.1 u.2.2.2.2.2.1 u.2.2.2.2.2.2.1 σ.2.1 σ.2.2.1.1 σ.2.2.1.2.1 σ.2.2.1.2.2 σ.1
def rc_mw (cI : ClassId) (h : Nat) (u : rc_MA) (σ : rc_PS) : va_W := [(h, .inr (2, [.ref u.1, .ref u.2.1, .int (nI σ.2.2.2.2.2.2.1), .ref u.2.2.1, .ref u.2.2.2.1, .int (nI σ.2.2.2.1), .ref u.2.2.2.2, .int (rc_z σ.2.2.1.2.1), .int (rc_z σ.2.2.1.2.2)])), (u.1, rc_ai cI 32 σ.2.2.2.2.1), (u.2.1, rc_ai cI 256 σ.2.2.2.2.2.1), (u.2.2.1, rc_ai cI σ.2.2.2.2.2.2.2.1 σ.2.2.2.2.2.2.2.2), (u.2.2.2.1, rc_ai cI σ.1 σ.2.1), (u.2.2.2.2, rc_ai cI 256 σ.2.2.1.1)]
theorem rc_dw_0 (cB : ClassId) (h : Nat) (u : rc_DA) (σ : rc_PS) : ∃ fs, (rc_dw cB h u σ)[0]? = some (h, .inr (0, fs)) := ⟨_, rfl⟩
theorem rc_mw_0 (cI : ClassId) (h : Nat) (u : rc_MA) (σ : rc_PS) : ∃ fs, (rc_mw cI h u σ)[0]? = some (h, .inr (2, fs)) := ⟨_, rfl⟩
/-! what each call does to the picture, and answers -/
def rc_fput (a b d g : Int32) : rc_PS → rc_PS
  | (un, U, R, gv, K, T, z, no, O) => (un, U, R, gv, K, rc_pT T z a b d g, rc_psz z, no, O)
def rc_rput : rc_PS → Int32
  | (_, _, _, _, _, _, z, _, _) => rc_pr z
def rc_ftrim (x : Int32) : rc_PS → rc_PS
  | (un, U, R, gv, K, T, z, no, O) => (un, U, R, gv, K, T, rc_ps x % (z + 1), no, O)
def rc_fkey (x a b d g : Int32) : rc_PS → rc_PS
  | (un, U, R, gv, K, T, z, no, O) => (un, U, R, gv, rc_p4 K (rc_at x) a b d g, T, z, no, O)
def rc_fbegin (x : Int32) : rc_PS → rc_PS
  | (_, _, _, _, K, T, z, no, O) => (rc_un x, rc_cp K (rc_un x), ((rc_ks (rc_cp K (rc_un x)) (rc_un x) 256).1, 0, 0), 0, K, T, z, no, O)
def rc_frun (x y : Int32) : rc_PS → rc_PS
  | (0, U, R, gv, K, T, z, no, O) => (0, U, R, gv, K, T, z, no, O)
  | (m + 1, U, R, gv, K, T, z, no, O) => if gv + rc_rc z x y ≤ 1024 then (m + 1, U, (rc_rn T (rc_rf z x) R (fun _ => 0) (rc_rc z x y)).1, gv + rc_rc z x y, K, T, z, rc_rc z x y, (rc_rn T (rc_rf z x) R (fun _ => 0) (rc_rc z x y)).2) else (m + 1, U, R, gv, K, T, z, no, O)
def rc_rrun (x y : Int32) : rc_PS → Int32
  | (0, _, _, _, _, _, _, _, _) => -1
  | (_ + 1, _, _, gv, _, _, z, _, _) => if gv + rc_rc z x y ≤ 1024 then nI (rc_rc z x y) else -2
def rc_fone : rc_PS → rc_PS
  | (0, U, R, gv, K, T, z, no, O) => (0, U, R, gv, K, T, z, no, O)
  | (m + 1, U, R, gv, K, T, z, no, O) => if gv < 1024 then (m + 1, U, rc_nx R, gv + 1, K, T, z, no, O) else (m + 1, U, R, gv, K, T, z, no, O)
def rc_rone (x : Int32) : rc_PS → Int32
  | (0, _, _, _, _, _, _, _, _) => -1
  | (_ + 1, _, R, gv, _, _, _, _, _) => if gv < 1024 then rc_z (rc_lo x ^^^ rc_ko (rc_nx R)) else -2
def rc_fagain : rc_PS → rc_PS
  | (0, U, R, gv, K, T, z, no, O) => (0, U, R, gv, K, T, z, no, O)
  | (m + 1, U, _, _, K, T, z, no, O) => (m + 1, U, ((rc_ks U (m + 1) 256).1, 0, 0), 0, K, T, z, no, O)
def rc_rout (x : Int32) : rc_PS → Int32
  | (_, _, _, _, _, _, _, no, O) => rc_or no O x
theorem rc_psz_le {z : Nat} (h : z ≤ 256) : rc_psz z ≤ 256 := by
  show (if z ≤ 240 then z + 16 else z) ≤ 256
  split <;> omega
theorem rc_ok_put {σ : rc_PS} (a b d g : Int32) (h : rc_ok σ) : rc_ok (rc_fput a b d g σ) := by
  obtain ⟨un, U, R, gv, K, T, z, no, O⟩ := σ
  exact ⟨h.1, h.2.1, rc_psz_le h.2.2.1, h.2.2.2⟩
theorem rc_ok_trim {σ : rc_PS} (x : Int32) (h : rc_ok σ) : rc_ok (rc_ftrim x σ) := by
  obtain ⟨un, U, R, gv, K, T, z, no, O⟩ := σ
  exact ⟨h.1, h.2.1, Nat.le_trans (rc_rf_le z x) h.2.2.1, h.2.2.2⟩
theorem rc_ok_key {σ : rc_PS} (x a b d g : Int32) (h : rc_ok σ) : rc_ok (rc_fkey x a b d g σ) := by
  obtain ⟨un, U, R, gv, K, T, z, no, O⟩ := σ
  exact h
theorem rc_ok_begin {σ : rc_PS} (x : Int32) (h : rc_ok σ) : rc_ok (rc_fbegin x σ) := by
  obtain ⟨un, U, R, gv, K, T, z, no, O⟩ := σ
  exact ⟨rc_un_le x, Nat.zero_le _, h.2.2⟩
theorem rc_ok_run {σ : rc_PS} (x y : Int32) (h : rc_ok σ) : rc_ok (rc_frun x y σ) := by
  obtain ⟨un, U, R, gv, K, T, z, no, O⟩ := σ
  cases un with
  | zero => exact h
  | succ m =>
    show rc_ok (if gv + rc_rc z x y ≤ 1024 then (m + 1, U, (rc_rn T (rc_rf z x) R (fun _ => 0) (rc_rc z x y)).1, gv + rc_rc z x y, K, T, z, rc_rc z x y, (rc_rn T (rc_rf z x) R (fun _ => 0) (rc_rc z x y)).2) else (m + 1, U, R, gv, K, T, z, no, O))
    have h3 : z ≤ 256 := h.2.2.1
    have h4 := rc_rc_le z x y
    by_cases c : gv + rc_rc z x y ≤ 1024
    · rw [if_pos c]
      exact ⟨h.1, c, h3, by omega⟩
    · rw [if_neg c]
      exact h
theorem rc_ok_one {σ : rc_PS} (h : rc_ok σ) : rc_ok (rc_fone σ) := by
  obtain ⟨un, U, R, gv, K, T, z, no, O⟩ := σ
  cases un with
  | zero => exact h
  | succ m =>
    show rc_ok (if gv < 1024 then (m + 1, U, rc_nx R, gv + 1, K, T, z, no, O) else (m + 1, U, R, gv, K, T, z, no, O))
    by_cases c : gv < 1024
    · rw [if_pos c]
      exact ⟨h.1, c, h.2.2⟩
    · rw [if_neg c]
      exact h
theorem rc_ok_again {σ : rc_PS} (h : rc_ok σ) : rc_ok (rc_fagain σ) := by
  obtain ⟨un, U, R, gv, K, T, z, no, O⟩ := σ
  cases un with
  | zero => exact h
  | succ m => exact ⟨h.1, Nat.zero_le _, h.2.2⟩

set_option maxHeartbeats 4000000 in
set_option maxRecDepth 100000 in
/-- put on the desk -/
theorem dk_put (l : Launch) (G : va_G) (cB cI : ClassId) (h sz : Nat) (u : rc_DA) (σ : rc_PS) (hσ : rc_ok σ) (a b d g : Int32) : rc_Mi l yX0_put cX0_put 5 .boolean 1 0 0 22 G cB cI (rc_dw cB h u σ) sz [.ref h, .int a, .int b, .int d, .int g] (fun (r : Int32) (_ : rc_DA) => r = rc_rput σ) (fun u' => rc_dw cB h u' (rc_fput a b d g σ)) := by
  obtain ⟨e1, k, n, t, o, st, w, N⟩ := u
  obtain ⟨un, U, ⟨S, i, j⟩, gv, K, T, z, no, O⟩ := σ
  obtain ⟨hun, hg, hz, ho⟩ := hσ
  cases un with
  | zero =>
    exact rc_lifti (wr := [(k, rc_ab cB 32 K), (n, rc_ab cB 16 N), (o, rc_ab cB no O)]) (metX0_put l G cB cI h t sz z T a b d g (.ref e1) (.int 0) (.int (nI gv)) (.ref k) (.ref n) (.ref o) hz) [0, 3] [1, 2, 4] rfl rfl rfl rfl (by decide) [3, 0, 1, 4, 2] rfl (fun _ _ hq => ⟨(e1, k, n, t, o, st, w, N), hq, rfl⟩)
  | succ m =>
    exact rc_lifti (wr := [(k, rc_ab cB 32 K), (n, rc_ab cB 16 N), (o, rc_ab cB no O), (e1, .inr (1, [.ref st, .int (rc_z i), .int (rc_z j), .ref w, .int 1])), (st, rc_ab cB 256 S), (w, rc_ab cB (m + 1) U)]) (metX0_put l G cB cI h t sz z T a b d g (.ref e1) (.int 1) (.int (nI gv)) (.ref k) (.ref n) (.ref o) hz) [0, 3] [1, 2, 4, 5, 6, 7] rfl rfl rfl rfl (by decide) [6, 0, 1, 7, 2, 3, 4, 5] rfl (fun _ _ hq => ⟨(e1, k, n, t, o, st, w, N), hq, rfl⟩)

set_option maxHeartbeats 4000000 in
set_option maxRecDepth 100000 in
/-- trim -/
theorem dk_trim (l : Launch) (G : va_G) (cB cI : ClassId) (h sz : Nat) (u : rc_DA) (σ : rc_PS) (hσ : rc_ok σ) (x : Int32) : rc_Mv l yX0_trim cX0_trim 2 1 0 0 21 G cB cI (rc_dw cB h u σ) sz [.ref h, .int x] (fun _ : rc_DA => True) (fun u' => rc_dw cB h u' (rc_ftrim x σ)) := by
  obtain ⟨e1, k, n, t, o, st, w, N⟩ := u
  obtain ⟨un, U, ⟨S, i, j⟩, gv, K, T, z, no, O⟩ := σ
  obtain ⟨hun, hg, hz, ho⟩ := hσ
  cases un with
  | zero =>
    exact rc_liftv (wr := [(k, rc_ab cB 32 K), (n, rc_ab cB 16 N), (t, rc_ab cB 256 T), (o, rc_ab cB no O)]) (metX0_trim l G cB cI h sz z x (.ref e1) (.int 0) (.int (nI gv)) (.ref k) (.ref n) (.ref t) (.ref o) hz) [0] [1, 2, 3, 4] rfl rfl rfl rfl (by decide) [4, 0, 1, 2, 3] rfl (fun _ _ => ⟨(e1, k, n, t, o, st, w, N), trivial, rfl⟩)
  | succ m =>
    exact rc_liftv (wr := [(k, rc_ab cB 32 K), (n, rc_ab cB 16 N), (t, rc_ab cB 256 T), (o, rc_ab cB no O), (e1, .inr (1, [.ref st, .int (rc_z i), .int (rc_z j), .ref w, .int 1])), (st, rc_ab cB 256 S), (w, rc_ab cB (m + 1) U)]) (metX0_trim l G cB cI h sz z x (.ref e1) (.int 1) (.int (nI gv)) (.ref k) (.ref n) (.ref t) (.ref o) hz) [0] [1, 2, 3, 4, 5, 6, 7] rfl rfl rfl rfl (by decide) [7, 0, 1, 2, 3, 4, 5, 6] rfl (fun _ _ => ⟨(e1, k, n, t, o, st, w, N), trivial, rfl⟩)

set_option maxHeartbeats 4000000 in
set_option maxRecDepth 100000 in
/-- key -/
theorem dk_key (l : Launch) (G : va_G) (cB cI : ClassId) (h sz : Nat) (u : rc_DA) (σ : rc_PS) (hσ : rc_ok σ) (x a b d g : Int32) : rc_Mv l yX0_key cX0_key 7 1 0 0 22 G cB cI (rc_dw cB h u σ) sz [.ref h, .int x, .int a, .int b, .int d, .int g] (fun _ : rc_DA => True) (fun u' => rc_dw cB h u' (rc_fkey x a b d g σ)) := by
  obtain ⟨e1, k, n, t, o, st, w, N⟩ := u
  obtain ⟨un, U, ⟨S, i, j⟩, gv, K, T, z, no, O⟩ := σ
  obtain ⟨hun, hg, hz, ho⟩ := hσ
  cases un with
  | zero =>
    exact rc_liftv (wr := [(n, rc_ab cB 16 N), (t, rc_ab cB 256 T), (o, rc_ab cB no O)]) (metX0_key l G cB cI h k sz K x a b d g (.ref e1) (.int 0) (.int (nI gv)) (.ref n) (.ref t) (.int (nI z)) (.ref o)) [0, 1] [2, 3, 4] rfl rfl rfl rfl (by decide) [3, 4, 0, 1, 2] rfl (fun _ _ => ⟨(e1, k, n, t, o, st, w, N), trivial, rfl⟩)
  | succ m =>
    exact rc_liftv (wr := [(n, rc_ab cB 16 N), (t, rc_ab cB 256 T), (o, rc_ab cB no O), (e1, .inr (1, [.ref st, .int (rc_z i), .int (rc_z j), .ref w, .int 1])), (st, rc_ab cB 256 S), (w, rc_ab cB (m + 1) U)]) (metX0_key l G cB cI h k sz K x a b d g (.ref e1) (.int 1) (.int (nI gv)) (.ref n) (.ref t) (.int (nI z)) (.ref o)) [0, 1] [2, 3, 4, 5, 6, 7] rfl rfl rfl rfl (by decide) [6, 7, 0, 1, 2, 3, 4, 5] rfl (fun _ _ => ⟨(e1, k, n, t, o, st, w, N), trivial, rfl⟩)

set_option maxHeartbeats 4000000 in
set_option maxRecDepth 100000 in
/-- nonce -/
theorem dk_nonce (l : Launch) (G : va_G) (cB cI : ClassId) (h sz : Nat) (u : rc_DA) (σ : rc_PS) (hσ : rc_ok σ) (a b d g : Int32) : rc_Mv l yX0_nonce cX0_nonce 5 1 0 0 22 G cB cI (rc_dw cB h u σ) sz [.ref h, .int a, .int b, .int d, .int g] (fun _ : rc_DA => True) (fun u' => rc_dw cB h u' (σ)) := by
  obtain ⟨e1, k, n, t, o, st, w, N⟩ := u
  obtain ⟨un, U, ⟨S, i, j⟩, gv, K, T, z, no, O⟩ := σ
  obtain ⟨hun, hg, hz, ho⟩ := hσ
  cases un with
  | zero =>
    exact rc_liftv (wr := [(k, rc_ab cB 32 K), (t, rc_ab cB 256 T), (o, rc_ab cB no O)]) (metX0_nonce l G cB cI h n sz N a b d g (.ref e1) (.int 0) (.int (nI gv)) (.ref k) (.ref t) (.int (nI z)) (.ref o)) [0, 2] [1, 3, 4] rfl rfl rfl rfl (by decide) [3, 0, 4, 1, 2] rfl (fun _ _ => ⟨(e1, k, n, t, o, st, w, rc_pw (rc_pw (rc_pw (rc_pw N 0 a) 4 b) 8 d) 12 g), trivial, rfl⟩)
  | succ m =>
    exact rc_liftv (wr := [(k, rc_ab cB 32 K), (t, rc_ab cB 256 T), (o, rc_ab cB no O), (e1, .inr (1, [.ref st, .int (rc_z i), .int (rc_z j), .ref w, .int 1])), (st, rc_ab cB 256 S), (w, rc_ab cB (m + 1) U)]) (metX0_nonce l G cB cI h n sz N a b d g (.ref e1) (.int 1) (.int (nI gv)) (.ref k) (.ref t) (.int (nI z)) (.ref o)) [0, 2] [1, 3, 4, 5, 6, 7] rfl rfl rfl rfl (by decide) [6, 0, 7, 1, 2, 3, 4, 5] rfl (fun _ _ => ⟨(e1, k, n, t, o, st, w, rc_pw (rc_pw (rc_pw (rc_pw N 0 a) 4 b) 8 d) 12 g), trivial, rfl⟩)

set_option maxHeartbeats 4000000 in
set_option maxRecDepth 100000 in
/-- out -/
theorem dk_out (l : Launch) (G : va_G) (cB cI : ClassId) (h sz : Nat) (u : rc_DA) (σ : rc_PS) (hσ : rc_ok σ) (x : Int32) : rc_Mi l yX0_out cX0_out 2 .int 0 0 0 0 G cB cI (rc_dw cB h u σ) sz [.ref h, .int x] (fun (r : Int32) (_ : rc_DA) => r = rc_rout x σ) (fun u' => rc_dw cB h u' (σ)) := by
  obtain ⟨e1, k, n, t, o, st, w, N⟩ := u
  obtain ⟨un, U, ⟨S, i, j⟩, gv, K, T, z, no, O⟩ := σ
  obtain ⟨hun, hg, hz, ho⟩ := hσ
  cases un with
  | zero =>
    exact rc_lifti (wr := [(k, rc_ab cB 32 K), (n, rc_ab cB 16 N), (t, rc_ab cB 256 T)]) (metX0_out l G cB cI h o sz no O x (.ref e1) (.int 0) (.int (nI gv)) (.ref k) (.ref n) (.ref t) (.int (nI z)) ho) [0, 4] [1, 2, 3] rfl rfl rfl rfl (by decide) [3, 0, 1, 2, 4] rfl (fun _ _ hq => ⟨(e1, k, n, t, o, st, w, N), hq, rfl⟩)
  | succ m =>
    exact rc_lifti (wr := [(k, rc_ab cB 32 K), (n, rc_ab cB 16 N), (t, rc_ab cB 256 T), (e1, .inr (1, [.ref st, .int (rc_z i), .int (rc_z j), .ref w, .int 1])), (st, rc_ab cB 256 S), (w, rc_ab cB (m + 1) U)]) (metX0_out l G cB cI h o sz no O x (.ref e1) (.int 1) (.int (nI gv)) (.ref k) (.ref n) (.ref t) (.int (nI z)) ho) [0, 4] [1, 2, 3, 5, 6, 7] rfl rfl rfl rfl (by decide) [6, 0, 1, 2, 7, 3, 4, 5] rfl (fun _ _ hq => ⟨(e1, k, n, t, o, st, w, N), hq, rfl⟩)

set_option maxHeartbeats 4000000 in
set_option maxRecDepth 100000 in
/-- begin -/
theorem dk_begin (l : Launch) (G : va_G) (cB cI : ClassId) (h sz : Nat) (u : rc_DA) (σ : rc_PS) (hσ : rc_ok σ) (x : Int32) : rc_Mv l yX0_begin cX0_begin 4 4 5 326 77 G cB cI (rc_dw cB h u σ) sz [.ref h, .int x] (fun _ : rc_DA => True) (fun u' => rc_dw cB h u' (rc_fbegin x σ)) := by
  obtain ⟨e1, k, n, t, o, st, w, N⟩ := u
  obtain ⟨un, U, ⟨S, i, j⟩, gv, K, T, z, no, O⟩ := σ
  obtain ⟨hun, hg, hz, ho⟩ := hσ
  cases un with
  | zero =>
    exact rc_liftv (wr := [(n, rc_ab cB 16 N), (t, rc_ab cB 256 T), (o, rc_ab cB no O)]) (metX0_begin l G cB cI h k sz K x (.ref e1) (.int 0) (.int (nI gv)) (.ref n) (.ref t) (.int (nI z)) (.ref o)) [0, 1] [2, 3, 4] rfl rfl rfl rfl (by decide) [3, 4, 0, 1, 2, 5, 6, 7] rfl (fun u _ => ⟨(u.1, k, n, t, o, u.2.1, u.2.2, N), trivial, rfl⟩)
  | succ m =>
    exact rc_liftv (wr := [(n, rc_ab cB 16 N), (t, rc_ab cB 256 T), (o, rc_ab cB no O), (e1, .inr (1, [.ref st, .int (rc_z i), .int (rc_z j), .ref w, .int 1])), (st, rc_ab cB 256 S), (w, rc_ab cB (m + 1) U)]) (metX0_begin l G cB cI h k sz K x (.ref e1) (.int 1) (.int (nI gv)) (.ref n) (.ref t) (.int (nI z)) (.ref o)) [0, 1] [2, 3, 4, 5, 6, 7] rfl rfl rfl rfl (by decide) [6, 7, 0, 1, 2, 8, 9, 10] rfl (fun u _ => ⟨(u.1, k, n, t, o, u.2.1, u.2.2, N), trivial, rfl⟩)

set_option maxHeartbeats 4000000 in
set_option maxRecDepth 100000 in
/-- run -/
theorem dk_run (l : Launch) (G : va_G) (cB cI : ClassId) (h sz : Nat) (u : rc_DA) (σ : rc_PS) (hσ : rc_ok σ) (x y : Int32) : rc_Mi l yX0_run cX0_run 6 .int 1 1 256 27 G cB cI (rc_dw cB h u σ) sz [.ref h, .int x, .int y] (fun (r : Int32) (_ : rc_DA) => r = rc_rrun x y σ) (fun u' => rc_dw cB h u' (rc_frun x y σ)) := by
  obtain ⟨e1, k, n, t, o, st, w, N⟩ := u
  obtain ⟨un, U, ⟨S, i, j⟩, gv, K, T, z, no, O⟩ := σ
  obtain ⟨hun, hg, hz, ho⟩ := hσ
  cases un with
  | zero =>
    exact rc_lifti (wr := [(k, rc_ab cB 32 K), (n, rc_ab cB 16 N), (t, rc_ab cB 256 T), (o, rc_ab cB no O)]) (metX0_run_n l G cB cI h sz x y (.ref e1) (.int (nI gv)) (.ref k) (.ref n) (.ref t) (.int (nI z)) (.ref o)) [0] [1, 2, 3, 4] rfl rfl rfl rfl (by decide) [4, 0, 1, 2, 3] rfl (fun _ _ hq => ⟨(e1, k, n, t, o, st, w, N), hq, rfl⟩)
  | succ m =>
    refine rc_lifti (wr := [(k, rc_ab cB 32 K), (n, rc_ab cB 16 N), (w, rc_ab cB (m + 1) U)]) (metX0_run_s l G cB cI h e1 st t o sz gv z no S T O i j x y (.ref k) (.ref n) (.ref w) (.int 1) hg hz) [0, 3, 5, 6, 4] [1, 2, 7] rfl rfl rfl rfl (by decide) [3, 0, 1, 4, 7, 5, 6, 2] rfl (fun r u hq => ?_)
    rcases hq with ⟨c, q1, q2⟩ | ⟨c, q1, q2⟩
    · obtain ⟨oo, gg, RR, nn, OO⟩ := u
      have q2 : (gg, RR, nn, OO) = (gv + rc_rc z x y, (rc_rn T (rc_rf z x) (S, i, j) (fun _ => 0) (rc_rc z x y)).1, rc_rc z x y, (rc_rn T (rc_rf z x) (S, i, j) (fun _ => 0) (rc_rc z x y)).2) := q2
      cases q2
      refine ⟨(e1, k, n, t, oo, st, w, N), q1.trans (if_pos c).symm, ?_⟩
      rw [show rc_frun x y (m + 1, U, (S, i, j), gv, K, T, z, no, O) = (m + 1, U, (rc_rn T (rc_rf z x) (S, i, j) (fun _ => 0) (rc_rc z x y)).1, gv + rc_rc z x y, K, T, z, rc_rc z x y, (rc_rn T (rc_rf z x) (S, i, j) (fun _ => 0) (rc_rc z x y)).2) from if_pos c]
      rfl
    · cases q2
      refine ⟨(e1, k, n, t, o, st, w, N), q1.trans (if_neg c).symm, ?_⟩
      rw [show rc_frun x y (m + 1, U, (S, i, j), gv, K, T, z, no, O) = (m + 1, U, (S, i, j), gv, K, T, z, no, O) from if_neg c]
      rfl

set_option maxHeartbeats 4000000 in
set_option maxRecDepth 100000 in
/-- one -/
theorem dk_one (l : Launch) (G : va_G) (cB cI : ClassId) (h sz : Nat) (u : rc_DA) (σ : rc_PS) (hσ : rc_ok σ) (x : Int32) : rc_Mi l yX0_one cX0_one 2 .int 1 0 0 22 G cB cI (rc_dw cB h u σ) sz [.ref h, .int x] (fun (r : Int32) (_ : rc_DA) => r = rc_rone x σ) (fun u' => rc_dw cB h u' (rc_fone σ)) := by
  obtain ⟨e1, k, n, t, o, st, w, N⟩ := u
  obtain ⟨un, U, ⟨S, i, j⟩, gv, K, T, z, no, O⟩ := σ
  obtain ⟨hun, hg, hz, ho⟩ := hσ
  cases un with
  | zero =>
    exact rc_lifti (wr := [(k, rc_ab cB 32 K), (n, rc_ab cB 16 N), (t, rc_ab cB 256 T), (o, rc_ab cB no O)]) (metX0_one_n l G cB cI h sz x (.ref e1) (.int (nI gv)) (.ref k) (.ref n) (.ref t) (.int (nI z)) (.ref o)) [0] [1, 2, 3, 4] rfl rfl rfl rfl (by decide) [4, 0, 1, 2, 3] rfl (fun _ _ hq => ⟨(e1, k, n, t, o, st, w, N), hq, rfl⟩)
  | succ m =>
    refine rc_lifti (wr := [(k, rc_ab cB 32 K), (n, rc_ab cB 16 N), (t, rc_ab cB 256 T), (o, rc_ab cB no O), (w, rc_ab cB (m + 1) U)]) (metX0_one_s l G cB cI h e1 st sz gv S i j x (.ref k) (.ref n) (.ref t) (.int (nI z)) (.ref o) (.ref w) (.int 1) hg) [0, 5, 6] [1, 2, 3, 4, 7] rfl rfl rfl rfl (by decide) [5, 0, 1, 2, 3, 6, 7, 4] rfl (fun r u hq => ?_)
    rcases hq with ⟨c, q1, rfl⟩ | ⟨c, q1, rfl⟩
    · refine ⟨(e1, k, n, t, o, st, w, N), q1.trans (if_pos c).symm, ?_⟩
      rw [show rc_fone (m + 1, U, (S, i, j), gv, K, T, z, no, O) = (m + 1, U, rc_nx (S, i, j), gv + 1, K, T, z, no, O) from if_pos c]
      rfl
    · refine ⟨(e1, k, n, t, o, st, w, N), q1.trans (if_neg c).symm, ?_⟩
      rw [show rc_fone (m + 1, U, (S, i, j), gv, K, T, z, no, O) = (m + 1, U, (S, i, j), gv, K, T, z, no, O) from if_neg c]
      rfl

set_option maxHeartbeats 4000000 in
set_option maxRecDepth 100000 in
/-- again -/
theorem dk_again (l : Launch) (G : va_G) (cB cI : ClassId) (h sz : Nat) (u : rc_DA) (σ : rc_PS) (hσ : rc_ok σ) : rc_Mv l yX0_again cX0_again 1 2 0 0 45 G cB cI (rc_dw cB h u σ) sz [.ref h] (fun _ : rc_DA => True) (fun u' => rc_dw cB h u' (rc_fagain σ)) := by
  obtain ⟨e1, k, n, t, o, st, w, N⟩ := u
  obtain ⟨un, U, ⟨S, i, j⟩, gv, K, T, z, no, O⟩ := σ
  obtain ⟨hun, hg, hz, ho⟩ := hσ
  cases un with
  | zero =>
    exact rc_liftv (wr := [(k, rc_ab cB 32 K), (n, rc_ab cB 16 N), (t, rc_ab cB 256 T), (o, rc_ab cB no O)]) (metX0_again_n l G cB cI h sz (.ref e1) (.int (nI gv)) (.ref k) (.ref n) (.ref t) (.int (nI z)) (.ref o)) [0] [1, 2, 3, 4] rfl rfl rfl rfl (by decide) [4, 0, 1, 2, 3] rfl (fun _ _ => ⟨(e1, k, n, t, o, st, w, N), trivial, rfl⟩)
  | succ m =>
    exact rc_liftv (wr := [(k, rc_ab cB 32 K), (n, rc_ab cB 16 N), (t, rc_ab cB 256 T), (o, rc_ab cB no O)]) (metX0_again_s l G cB cI h e1 w st sz (m + 1) U S (.int (rc_z i)) (.int (rc_z j)) (.int 1) (.int (nI gv)) (.ref k) (.ref n) (.ref t) (.int (nI z)) (.ref o) (Nat.succ_pos m) hun) [0, 5, 7, 6] [1, 2, 3, 4] rfl rfl rfl rfl (by decide) [4, 0, 1, 2, 3, 5, 7, 6] rfl (fun _ _ => ⟨(e1, k, n, t, o, st, w, N), trivial, rfl⟩)
end
section
/-! the reference as the law sees it -/

set_option maxHeartbeats 4000000 in
set_option maxRecDepth 100000 in
/-- put -/
theorem ml_put (l : Launch) (G : va_G) (cB cI : ClassId) (h sz : Nat) (u : rc_MA) (σ : rc_PS) (hσ : rc_ok σ) (a b d g : Int32) : rc_Mi l yX2_put cX2_put 5 .boolean 1 0 0 23 G cB cI (rc_mw cI h u σ) sz [.ref h, .int a, .int b, .int d, .int g] (fun (r : Int32) (_ : rc_MA) => r = rc_rput σ) (fun u' => rc_mw cI h u' (rc_fput a b d g σ)) := by
  obtain ⟨k, t, o, w, st⟩ := u
  obtain ⟨un, U, ⟨S, i, j⟩, gv, K, T, z, no, O⟩ := σ
  obtain ⟨hun, hg, hz, ho⟩ := hσ
  exact rc_lifti (wr := [(k, rc_ai cI 32 K), (o, rc_ai cI no O), (w, rc_ai cI un U), (st, rc_ai cI 256 S)]) (metX2_put l G cB cI h t sz z T a b d g (.ref k) (.ref o) (.ref w) (.int (nI gv)) (.ref st) (.int (rc_z i)) (.int (rc_z j)) hz) [0, 2] [1, 3, 4, 5] rfl rfl rfl rfl (by decide) [4, 0, 5, 1, 2, 3] rfl (fun _ _ hq => ⟨(k, t, o, w, st), hq, rfl⟩)

set_option maxHeartbeats 4000000 in
set_option maxRecDepth 100000 in
/-- trim -/
theorem ml_trim (l : Launch) (G : va_G) (cB cI : ClassId) (h sz : Nat) (u : rc_MA) (σ : rc_PS) (hσ : rc_ok σ) (x : Int32) : rc_Mv l yX2_trim cX2_trim 2 1 0 0 21 G cB cI (rc_mw cI h u σ) sz [.ref h, .int x] (fun _ : rc_MA => True) (fun u' => rc_mw cI h u' (rc_ftrim x σ)) := by
  obtain ⟨k, t, o, w, st⟩ := u
  obtain ⟨un, U, ⟨S, i, j⟩, gv, K, T, z, no, O⟩ := σ
  obtain ⟨hun, hg, hz, ho⟩ := hσ
  exact rc_liftv (wr := [(k, rc_ai cI 32 K), (t, rc_ai cI 256 T), (o, rc_ai cI no O), (w, rc_ai cI un U), (st, rc_ai cI 256 S)]) (metX2_trim l G cB cI h sz z x (.ref k) (.ref t) (.ref o) (.ref w) (.int (nI gv)) (.ref st) (.int (rc_z i)) (.int (rc_z j)) hz) [0] [1, 2, 3, 4, 5] rfl rfl rfl rfl (by decide) [5, 0, 1, 2, 3, 4] rfl (fun _ _ => ⟨(k, t, o, w, st), trivial, rfl⟩)

set_option maxHeartbeats 4000000 in
set_option maxRecDepth 100000 in
/-- key -/
theorem ml_key (l : Launch) (G : va_G) (cB cI : ClassId) (h sz : Nat) (u : rc_MA) (σ : rc_PS) (hσ : rc_ok σ) (x a b d g : Int32) : rc_Mv l yX2_key cX2_key 7 1 0 0 23 G cB cI (rc_mw cI h u σ) sz [.ref h, .int x, .int a, .int b, .int d, .int g] (fun _ : rc_MA => True) (fun u' => rc_mw cI h u' (rc_fkey x a b d g σ)) := by
  obtain ⟨k, t, o, w, st⟩ := u
  obtain ⟨un, U, ⟨S, i, j⟩, gv, K, T, z, no, O⟩ := σ
  obtain ⟨hun, hg, hz, ho⟩ := hσ
  exact rc_liftv (wr := [(t, rc_ai cI 256 T), (o, rc_ai cI no O), (w, rc_ai cI un U), (st, rc_ai cI 256 S)]) (metX2_key l G cB cI h k sz K x a b d g (.ref t) (.int (nI z)) (.ref o) (.ref w) (.int (nI gv)) (.ref st) (.int (rc_z i)) (.int (rc_z j))) [0, 1] [2, 3, 4, 5] rfl rfl rfl rfl (by decide) [4, 5, 0, 1, 2, 3] rfl (fun _ _ => ⟨(k, t, o, w, st), trivial, rfl⟩)

set_option maxHeartbeats 4000000 in
set_option maxRecDepth 100000 in
/-- nonce -/
theorem ml_nonce (l : Launch) (G : va_G) (cB cI : ClassId) (h sz : Nat) (u : rc_MA) (σ : rc_PS) (hσ : rc_ok σ) (a b d g : Int32) : rc_Mv l yX2_nonce cX2_nonce 5 0 0 0 0 G cB cI (rc_mw cI h u σ) sz [.ref h, .int a, .int b, .int d, .int g] (fun _ : rc_MA => True) (fun u' => rc_mw cI h u' (σ)) := by
  obtain ⟨k, t, o, w, st⟩ := u
  obtain ⟨un, U, ⟨S, i, j⟩, gv, K, T, z, no, O⟩ := σ
  obtain ⟨hun, hg, hz, ho⟩ := hσ
  exact rc_liftv (wr := [(k, rc_ai cI 32 K), (t, rc_ai cI 256 T), (o, rc_ai cI no O), (w, rc_ai cI un U), (st, rc_ai cI 256 S)]) (metX2_nonce l G cB cI h sz a b d g (.ref k) (.ref t) (.int (nI z)) (.ref o) (.ref w) (.int (nI gv)) (.ref st) (.int (rc_z i)) (.int (rc_z j))) [0] [1, 2, 3, 4, 5] rfl rfl rfl rfl (by decide) [5, 0, 1, 2, 3, 4] rfl (fun _ _ => ⟨(k, t, o, w, st), trivial, rfl⟩)

set_option maxHeartbeats 4000000 in
set_option maxRecDepth 100000 in
/-- out -/
theorem ml_out (l : Launch) (G : va_G) (cB cI : ClassId) (h sz : Nat) (u : rc_MA) (σ : rc_PS) (hσ : rc_ok σ) (x : Int32) : rc_Mi l yX2_out cX2_out 2 .int 0 0 0 0 G cB cI (rc_mw cI h u σ) sz [.ref h, .int x] (fun (r : Int32) (_ : rc_MA) => r = rc_rout x σ) (fun u' => rc_mw cI h u' (σ)) := by
  obtain ⟨k, t, o, w, st⟩ := u
  obtain ⟨un, U, ⟨S, i, j⟩, gv, K, T, z, no, O⟩ := σ
  obtain ⟨hun, hg, hz, ho⟩ := hσ
  exact rc_lifti (wr := [(k, rc_ai cI 32 K), (t, rc_ai cI 256 T), (w, rc_ai cI un U), (st, rc_ai cI 256 S)]) (metX2_out l G cB cI h o sz no O x (.ref k) (.ref t) (.int (nI z)) (.ref w) (.int (nI gv)) (.ref st) (.int (rc_z i)) (.int (rc_z j)) ho) [0, 3] [1, 2, 4, 5] rfl rfl rfl rfl (by decide) [4, 0, 1, 5, 2, 3] rfl (fun _ _ hq => ⟨(k, t, o, w, st), hq, rfl⟩)

set_option maxHeartbeats 4000000 in
set_option maxRecDepth 100000 in
/-- begin -/
theorem ml_begin (l : Launch) (G : va_G) (cB cI : ClassId) (h sz : Nat) (u : rc_MA) (σ : rc_PS) (hσ : rc_ok σ) (x : Int32) : rc_Mv l yX2_begin cX2_begin 3 2 1 32 45 G cB cI (rc_mw cI h u σ) sz [.ref h, .int x] (fun _ : rc_MA => True) (fun u' => rc_mw cI h u' (rc_fbegin x σ)) := by
  obtain ⟨k, t, o, w, st⟩ := u
  obtain ⟨un, U, ⟨S, i, j⟩, gv, K, T, z, no, O⟩ := σ
  obtain ⟨hun, hg, hz, ho⟩ := hσ
  exact rc_liftv (wr := [(t, rc_ai cI 256 T), (o, rc_ai cI no O), (w, rc_ai cI un U)]) (metX2_begin l G cB cI h k st sz K S x (.ref t) (.int (nI z)) (.ref o) (.ref w) (.int (nI gv)) (.int (rc_z i)) (.int (rc_z j))) [0, 1, 5] [2, 3, 4] rfl rfl rfl rfl (by decide) [3, 4, 0, 1, 5, 6] rfl (fun u _ => ⟨(k, t, o, u, st), trivial, rfl⟩)

set_option maxHeartbeats 4000000 in
set_option maxRecDepth 100000 in
/-- run -/
theorem ml_run (l : Launch) (G : va_G) (cB cI : ClassId) (h sz : Nat) (u : rc_MA) (σ : rc_PS) (hσ : rc_ok σ) (x y : Int32) : rc_Mi l yX2_run cX2_run 6 .int 2 1 256 43 G cB cI (rc_mw cI h u σ) sz [.ref h, .int x, .int y] (fun (r : Int32) (_ : rc_MA) => r = rc_rrun x y σ) (fun u' => rc_mw cI h u' (rc_frun x y σ)) := by
  obtain ⟨k, t, o, w, st⟩ := u
  obtain ⟨un, U, ⟨S, i, j⟩, gv, K, T, z, no, O⟩ := σ
  obtain ⟨hun, hg, hz, ho⟩ := hσ
  cases un with
  | zero =>
    exact rc_lifti (wr := [(k, rc_ai cI 32 K)]) (metX2_run_n l G cB cI h t w st o sz gv z no U S T O i j x y (.ref k)) [0, 2, 4, 5, 3] [1] rfl rfl rfl rfl (by decide) [1, 0, 2, 5, 3, 4] rfl (fun _ _ hq => ⟨(k, t, o, w, st), hq, rfl⟩)
  | succ m =>
    refine rc_lifti (wr := [(k, rc_ai cI 32 K)]) (metX2_run_s l G cB cI h t w st o sz gv z no (m + 1) U S T O i j x y (.ref k) hg hz (Nat.succ_pos m) hun) [0, 2, 4, 5, 3] [1] rfl rfl rfl rfl (by decide) [1, 0, 2, 5, 3, 4] rfl (fun r u hq => ?_)
    rcases hq with ⟨c, q1, q2⟩ | ⟨c, q1, q2⟩
    · obtain ⟨oo, gg, RR, nn, OO⟩ := u
      have q2 : (gg, RR, nn, OO) = (gv + rc_rc z x y, (rc_rn T (rc_rf z x) (S, i, j) (fun _ => 0) (rc_rc z x y)).1, rc_rc z x y, (rc_rn T (rc_rf z x) (S, i, j) (fun _ => 0) (rc_rc z x y)).2) := q2
      cases q2
      refine ⟨(k, t, oo, w, st), q1.trans (if_pos c).symm, ?_⟩
      rw [show rc_frun x y (m + 1, U, (S, i, j), gv, K, T, z, no, O) = (m + 1, U, (rc_rn T (rc_rf z x) (S, i, j) (fun _ => 0) (rc_rc z x y)).1, gv + rc_rc z x y, K, T, z, rc_rc z x y, (rc_rn T (rc_rf z x) (S, i, j) (fun _ => 0) (rc_rc z x y)).2) from if_pos c]
      rfl
    · cases q2
      refine ⟨(k, t, o, w, st), q1.trans (if_neg c).symm, ?_⟩
      rw [show rc_frun x y (m + 1, U, (S, i, j), gv, K, T, z, no, O) = (m + 1, U, (S, i, j), gv, K, T, z, no, O) from if_neg c]
      rfl

set_option maxHeartbeats 4000000 in
set_option maxRecDepth 100000 in
/-- one -/
theorem ml_one (l : Launch) (G : va_G) (cB cI : ClassId) (h sz : Nat) (u : rc_MA) (σ : rc_PS) (hσ : rc_ok σ) (x : Int32) : rc_Mi l yX2_one cX2_one 2 .int 2 0 0 43 G cB cI (rc_mw cI h u σ) sz [.ref h, .int x] (fun (r : Int32) (_ : rc_MA) => r = rc_rone x σ) (fun u' => rc_mw cI h u' (rc_fone σ)) := by
  obtain ⟨k, t, o, w, st⟩ := u
  obtain ⟨un, U, ⟨S, i, j⟩, gv, K, T, z, no, O⟩ := σ
  obtain ⟨hun, hg, hz, ho⟩ := hσ
  cases un with
  | zero =>
    exact rc_lifti (wr := [(k, rc_ai cI 32 K), (t, rc_ai cI 256 T), (o, rc_ai cI no O)]) (metX2_one_n l G cB cI h w st sz gv U S i j x (.ref k) (.ref t) (.int (nI z)) (.ref o)) [0, 4, 5] [1, 2, 3] rfl rfl rfl rfl (by decide) [3, 0, 1, 2, 4, 5] rfl (fun _ _ hq => ⟨(k, t, o, w, st), hq, rfl⟩)
  | succ m =>
    refine rc_lifti (wr := [(k, rc_ai cI 32 K), (t, rc_ai cI 256 T), (o, rc_ai cI no O)]) (metX2_one_s l G cB cI h w st sz gv (m + 1) U S i j x (.ref k) (.ref t) (.int (nI z)) (.ref o) hg (Nat.succ_pos m) hun) [0, 4, 5] [1, 2, 3] rfl rfl rfl rfl (by decide) [3, 0, 1, 2, 4, 5] rfl (fun r u hq => ?_)
    rcases hq with ⟨c, q1, rfl⟩ | ⟨c, q1, rfl⟩
    · refine ⟨(k, t, o, w, st), q1.trans (if_pos c).symm, ?_⟩
      rw [show rc_fone (m + 1, U, (S, i, j), gv, K, T, z, no, O) = (m + 1, U, rc_nx (S, i, j), gv + 1, K, T, z, no, O) from if_pos c]
      rfl
    · refine ⟨(k, t, o, w, st), q1.trans (if_neg c).symm, ?_⟩
      rw [show rc_fone (m + 1, U, (S, i, j), gv, K, T, z, no, O) = (m + 1, U, (S, i, j), gv, K, T, z, no, O) from if_neg c]
      rfl

set_option maxHeartbeats 4000000 in
set_option maxRecDepth 100000 in
/-- again -/
theorem ml_again (l : Launch) (G : va_G) (cB cI : ClassId) (h sz : Nat) (u : rc_MA) (σ : rc_PS) (hσ : rc_ok σ) : rc_Mv l yX2_again cX2_again 1 2 0 0 45 G cB cI (rc_mw cI h u σ) sz [.ref h] (fun _ : rc_MA => True) (fun u' => rc_mw cI h u' (rc_fagain σ)) := by
  obtain ⟨k, t, o, w, st⟩ := u
  obtain ⟨un, U, ⟨S, i, j⟩, gv, K, T, z, no, O⟩ := σ
  obtain ⟨hun, hg, hz, ho⟩ := hσ
  cases un with
  | zero =>
    exact rc_liftv (wr := [(k, rc_ai cI 32 K), (t, rc_ai cI 256 T), (o, rc_ai cI no O)]) (metX2_again_n l G cB cI h w st sz U S (.ref k) (.ref t) (.int (nI z)) (.ref o) (.int (nI gv)) (.int (rc_z i)) (.int (rc_z j))) [0, 4, 5] [1, 2, 3] rfl rfl rfl rfl (by decide) [3, 0, 1, 2, 4, 5] rfl (fun _ _ => ⟨(k, t, o, w, st), trivial, rfl⟩)
  | succ m =>
    exact rc_liftv (wr := [(k, rc_ai cI 32 K), (t, rc_ai cI 256 T), (o, rc_ai cI no O)]) (metX2_again_s l G cB cI h w st sz (m + 1) U S (.ref k) (.ref t) (.int (nI z)) (.ref o) (.int (nI gv)) (.int (rc_z i)) (.int (rc_z j)) (Nat.succ_pos m) hun) [0, 4, 5] [1, 2, 3] rfl rfl rfl rfl (by decide) [3, 0, 1, 2, 4, 5] rfl (fun _ _ => ⟨(k, t, o, w, st), trivial, rfl⟩)
end
section
/-! two objects side by side -/
def rc_two (G : va_G) (A : Nat → Prop) (wa wb : va_W) (H : Heap) : Prop := va_P G rc_cl wa H ∧ va_P G rc_cl wb H ∧ va_D A wa ∧ va_D A wb ∧ ∀ p ∈ wa, ∀ q ∈ wb, p.1 ≠ q.1
theorem rc_two.symm {G : va_G} {A : Nat → Prop} {wa wb : va_W} {H : Heap} (h : rc_two G A wa wb H) : rc_two G A wb wa H := ⟨h.2.1, h.1, h.2.2.2.1, h.2.2.1, fun p hp q hq e => h.2.2.2.2 q hq p hp e.symm⟩
theorem rc_two_A {G : va_G} {A : Nat → Prop} {wa wb : va_W} {H H0 : Heap} {locs : List Loc} (h : rc_two G A wa wb H) (hS : va_S A H0 H locs) (hA : ∀ q, H0.size ≤ q → A q) : ∀ q, va_A wa H.size q → A q := by
  intro q hq
  rcases hq with ⟨k, e, hk⟩ | hq
  · exact h.2.2.1.2 k (q, e) hk
  · exact hA q (Nat.le_trans hS.1 hq)
theorem rc_two_step {G : va_G} {A : Nat → Prop} {wa wb w1 : va_W} {H H1 : Heap} (h : rc_two G A wa wb H) (hF : ∀ q, va_A wa H.size q → A q) (hk : ∀ q : Nat, q < H.size → ¬ va_A wa H.size q → H1[q]? = H[q]?) (hP1 : va_P G rc_cl w1 H1) (hD1 : va_D (va_A wa H.size) w1) : rc_two G A w1 wb H1 := by
  obtain ⟨pa, pb, da, db, hx⟩ := h
  have ap : ∀ (k : Nat) (q : Nat × va_E), wb[k]? = some q → q.1 < H.size ∧ ¬ va_A wa H.size q.1 := by
    intro k q hq
    have hl := (pb k q hq).lt
    refine ⟨hl, fun z => ?_⟩
    rcases z with ⟨k2, e, z⟩ | z
    · exact hx (q.1, e) (List.mem_of_getElem? z) q (List.mem_of_getElem? hq) rfl
    · omega
  refine ⟨hP1, fun k q hq => (pb k q hq).kept (hk q.1 (ap k q hq).1 (ap k q hq).2), hD1.weaken (fun _ q _ z => hF q.1 z), db, ?_⟩
  intro p hp q hq e
  obtain ⟨i, hi⟩ := List.getElem?_of_mem hp
  obtain ⟨j, hj⟩ := List.getElem?_of_mem hq
  exact (ap j q hj).2 (by rw [← e]; exact hD1.2 i p hi)
theorem rc_preA {s : State} {H : Heap} {G : va_G} {cB cI : ClassId} {A : Nat → Prop} {wa : va_W} {b : Nat} {As : List Value} (hK : va_K G rc_cl (rc_ty cB cI) s) (hP : va_P G rc_cl wa H) (hD : va_D A wa) (ci : Nat) {C : String} {T : u_T} {N : Nat} (hc : rc_cl[ci]? = some (C, T, N)) (he : ∃ fs, wa[0]? = some (b, .inr (ci, fs))) : PreV s H C b (rc_Pr G cB cI wa H.size (.ref b :: As)) As := by
  obtain ⟨fs, he⟩ := he
  exact ⟨rc_blind, va_recv hK hP hc he, fun U hU hW => ⟨rfl, by rw [hU], by rw [hU]; exact hP, va_K.moved hW.alike hK, hD.weaken (fun _ _ _ _ => trivial)⟩⟩
section RC3
variable {p : Program} {l : Launch} {e : Env} {R : Room} {s : State} {m : MethodId} {args : Array Value} {below : List Frame} {meth : Method} {c : Code} {H : Heap} {locs : List Loc} {cells slots : Nat} {Q : State → Prop}
variable {cc : ByteArray} {pc : Nat} {ls : Array Slot} {rest st0 : List Value} {G : va_G} {cB cI : ClassId} {A : Nat → Prop} {wa wb : va_W} {H0 : Heap} {mc ms : Nat} {av : Array Value}
theorem rc_Lv {S : Type} {post : S → Prop} {w1 : S → va_W} (h2 : rc_two G A wa wb H) (hS : va_S A H0 H locs) (hA : ∀ q, H0.size ≤ q → A q)
    (hr : va_Run p l e R s m args below meth c H locs cells slots mc ms (F0 m pc ls st0) rest (rc_Qv G (va_A wa H.size) post w1 av) (va_A wa H.size))
    (kk : ∀ (u : S) (H1 : Heap) (locs1 : List Loc), post u → rc_two G A (w1 u) wb H1 → va_S A H0 H1 locs1 → W p l e R s m args below meth c H1 locs1 (cells + mc) (slots + ms) Q (F0 m (pc + 3) ls rest)) : W p l e R s m args below meth c H locs cells slots Q (F0 m pc ls st0) := by
  have hF := rc_two_A h2 hS hA
  refine va_callv hr hS (fun q _ h => hF q h) hF (fun u t H1 locs1 ht _ hq hB _ hk hS1 => ?_)
  obtain ⟨hP1, hD1⟩ := hB
  rw [ht] at hP1
  exact kk u H1 locs1 hq (rc_two_step h2 hF hk hP1 hD1) hS1
theorem rc_Li {S : Type} {post : Int32 → S → Prop} {w1 : S → va_W} (h2 : rc_two G A wa wb H) (hS : va_S A H0 H locs) (hA : ∀ q, H0.size ≤ q → A q)
    (hr : va_Run p l e R s m args below meth c H locs cells slots mc ms (F0 m pc ls st0) rest (rc_Qi G (va_A wa H.size) post w1 av) (va_A wa H.size))
    (kk : ∀ (r : Int32) (u : S) (H1 : Heap) (locs1 : List Loc), post r u → rc_two G A (w1 u) wb H1 → va_S A H0 H1 locs1 → W p l e R s m args below meth c H1 locs1 (cells + mc) (slots + ms) Q (F0 m (pc + 3) ls (.int r :: rest))) : W p l e R s m args below meth c H locs cells slots Q (F0 m pc ls st0) := by
  have hF := rc_two_A h2 hS hA
  refine va_calli hr hS (fun q _ h => hF q h) hF (fun r u t H1 locs1 ht _ hq hB _ hk hS1 => ?_)
  obtain ⟨hP1, hD1⟩ := hB
  rw [ht] at hP1
  exact kk r u H1 locs1 hq (rc_two_step h2 hF hk hP1 hD1) hS1
theorem rc_sl (hexec : p.tables.exec = Jvm.exec) (hb : c.code = cc) {b L : Nat} {xs : Nat → Int32} (hX : va_X b L xs s H0) (hbl : b < H0.size) (hbA : ¬ A b) (hS : va_S A H0 H locs) (k : Nat) {i : Int32} (hi : i = nI k) (hk : k < L) (hL : L ≤ 100000) (hdg : decode cc pc = .ok (.iaload, 1))
    (kk : W p l e R s m args below meth c H locs cells slots Q (F0 m (pc + 1) ls (.int (xs k) :: rest))) : W p l e R s m args below meth c H locs cells slots Q (F0 m pc ls (.int i :: .ref b :: rest)) := by
  subst hi
  refine va_sld hexec hb hX hbl hbA hS (vp_in_nI hk (rc_big hL)) hdg ?_
  rw [nI_clamp (Nat.lt_trans hk (rc_big hL))]
  exact kk
end RC3
theorem rc_lc {L i : Nat} (hL : L ≤ 400) (hi : i ≤ 400) : (nI L - 6 < nI i) ↔ L < i + 6 := by
  have e1 : (nI L - nI 6).toInt = (L : Int) - (6 : Nat) := pk_sub_toInt (Nat.lt_of_le_of_lt hL (Nat.le_of_ble_eq_true rfl)) (Nat.le_of_ble_eq_true rfl)
  have e2 : (nI i).toInt = (i : Int) := nI_toInt (rc_big (by omega))
  have e3 : (nI L - 6 < nI i) ↔ (nI L - nI 6).toInt < (nI i).toInt := Int32.lt_iff_toInt_lt
  rw [e3, e1, e2]
  omega
end
section
/-! THE LAW, one call of each kind on both objects -/

set_option maxHeartbeats 4000000 in
set_option maxRecDepth 100000 in
theorem la_put {p : Program} {l : Launch} {e : Env} {s : State} {m : MethodId} {below : List Frame} {meth : Method} {c : Code} {cells slots : Nat} {Q : State → Prop} {G : va_G} {cB cI : ClassId} {A : Nat → Prop} {b L : Nat} {xs : Nat → Int32} (hx : p.tables.exec = Jvm.exec) (hb : c.code = cL_law) (hml : c.maxLocals = 4) (hown : s.vm.findClass "RcFourDeskLaw" = some m.cls) (hts : ∀ w ∈ lw_all, w.before #[Value.ref b] s = true) (hK : va_K G rc_cl (rc_ty cB cI) s) (hA : ∀ q : Nat, s.heap.size ≤ q → A q) (hX : va_X b L xs s s.heap) (hbl : b < s.heap.size) (hbA : ¬ A b) (hL : L ≤ 384) (hc : cells ≤ 10000) (hs : slots ≤ 100000) (h1 h2 : Nat) (ua : rc_DA) (ub : rc_MA) (σ : rc_PS) (hσ : rc_ok σ) (i : Nat) (hi : i + 6 ≤ L)
    (kk : ∀ (ua : rc_DA) (ub : rc_MA) (H : Heap) (locs : List Loc) (ls : Array Slot), rc_two G A (rc_dw cB h1 ua (rc_fput (xs (i + 1)) (xs (i + 2)) (xs (i + 3)) (xs (i + 4)) σ)) (rc_mw cI h2 ub (rc_fput (xs (i + 1)) (xs (i + 2)) (xs (i + 3)) (xs (i + 4)) σ)) H → va_S A s.heap H locs → lv_has ls 4 [(0, .ref b), (1, .ref h1), (2, .ref h2), (3, .int (nI i))] → W p l e room_1 s m #[Value.ref b] below meth c H locs (cells + 10) (slots + 1000) Q (F0 m 381 ls [])) :
    ∀ (H : Heap) (locs : List Loc) (ls : Array Slot), rc_two G A (rc_dw cB h1 ua σ) (rc_mw cI h2 ub σ) H → va_S A s.heap H locs → lv_has ls 4 [(0, .ref b), (1, .ref h1), (2, .ref h2), (3, .int (nI i))] → W p l e room_1 s m #[Value.ref b] below meth c H locs cells slots Q (F0 m 84 ls []) := by
  intro H locs ls h2w hS hl
  refine lv_aload_n hx hb dL_law_84 rfl (lv_at hl 1 rfl) ?_
  refine lv_aload_n hx hb dL_law_85 rfl (lv_at hl 0 rfl) ?_
  refine lv_iload_n hx hb dL_law_86 rfl (lv_at hl 3 rfl) ?_
  refine lv_iconst (v := 1) hx hb dL_law_87 (by decide) ?_
  refine lv_iadd hx hb dL_law_88 ?_
  refine rc_ti (y := nI (i + 1)) (nI_add i 1) ?_
  refine rc_sl hx hb hX hbl hbA hS (i + 1) rfl (by omega) (by omega) dL_law_89 ?_
  refine lv_aload_n hx hb dL_law_90 rfl (lv_at hl 0 rfl) ?_
  refine lv_iload_n hx hb dL_law_91 rfl (lv_at hl 3 rfl) ?_
  refine lv_iconst (v := 2) hx hb dL_law_92 (by decide) ?_
  refine lv_iadd hx hb dL_law_93 ?_
  refine rc_ti (y := nI (i + 2)) (nI_add i 2) ?_
  refine rc_sl hx hb hX hbl hbA hS (i + 2) rfl (by omega) (by omega) dL_law_94 ?_
  refine lv_aload_n hx hb dL_law_95 rfl (lv_at hl 0 rfl) ?_
  refine lv_iload_n hx hb dL_law_96 rfl (lv_at hl 3 rfl) ?_
  refine lv_iconst (v := 3) hx hb dL_law_97 (by decide) ?_
  refine lv_iadd hx hb dL_law_98 ?_
  refine rc_ti (y := nI (i + 3)) (nI_add i 3) ?_
  refine rc_sl hx hb hX hbl hbA hS (i + 3) rfl (by omega) (by omega) dL_law_99 ?_
  refine lv_aload_n hx hb dL_law_100 rfl (lv_at hl 0 rfl) ?_
  refine lv_iload_n hx hb dL_law_101 rfl (lv_at hl 3 rfl) ?_
  refine lv_iconst (v := 4) hx hb dL_law_102 (by decide) ?_
  refine lv_iadd hx hb dL_law_103 ?_
  refine rc_ti (y := nI (i + 4)) (nI_add i 4) ?_
  refine rc_sl hx hb hX hbl hbA hS (i + 4) rfl (by omega) (by omega) dL_law_104 ?_
  refine rc_Li h2w hS hA (va_runV (As := [.int (xs (i + 1)), .int (xs (i + 2)), .int (xs (i + 3)), .int (xs (i + 4))]) (rest := []) ⟨hx, hb, hml, hown, hts⟩ (dk_put l G cB cI h1 _ ua σ hσ (xs (i + 1)) (xs (i + 2)) (xs (i + 3)) (xs (i + 4))) (cwV 4 hts (lw_V q77 q78 q79 q9 q80) rfl rfl rfl (by decide +kernel) ⟨Nat.le_of_ble_eq_true rfl, Nat.le_of_ble_eq_true rfl⟩) (rc_preA hK h2w.1 h2w.2.2.1 0 rfl (rc_dw_0 _ _ _ _)) rfl rfl hl.1 rfl (lv_room (Nat.le_of_ble_eq_true rfl)) dL_law_105 ⟨Nat.le_trans (Nat.add_le_add_right (show cells ≤ 20000 by omega) _) (Nat.le_of_ble_eq_true rfl), Nat.le_trans (Nat.add_le_add_right (show slots ≤ 200000 by omega) _) (Nat.le_of_ble_eq_true rfl)⟩) (fun r1 ua H locs hq1 h2w hS => ?_)
  refine rc_ti (y := rc_rput σ) (hq1) ?_
  refine W.widen (k := cells + 0) (n := slots + 0) (by omega) (by omega) ?_
  refine lv_aload_n hx hb dL_law_108 rfl (lv_at hl 2 rfl) ?_
  refine lv_aload_n hx hb dL_law_109 rfl (lv_at hl 0 rfl) ?_
  refine lv_iload_n hx hb dL_law_110 rfl (lv_at hl 3 rfl) ?_
  refine lv_iconst (v := 1) hx hb dL_law_111 (by decide) ?_
  refine lv_iadd hx hb dL_law_112 ?_
  refine rc_ti (y := nI (i + 1)) (nI_add i 1) ?_
  refine rc_sl hx hb hX hbl hbA hS (i + 1) rfl (by omega) (by omega) dL_law_113 ?_
  refine lv_aload_n hx hb dL_law_114 rfl (lv_at hl 0 rfl) ?_
  refine lv_iload_n hx hb dL_law_115 rfl (lv_at hl 3 rfl) ?_
  refine lv_iconst (v := 2) hx hb dL_law_116 (by decide) ?_
  refine lv_iadd hx hb dL_law_117 ?_
  refine rc_ti (y := nI (i + 2)) (nI_add i 2) ?_
  refine rc_sl hx hb hX hbl hbA hS (i + 2) rfl (by omega) (by omega) dL_law_118 ?_
  refine lv_aload_n hx hb dL_law_119 rfl (lv_at hl 0 rfl) ?_
  refine lv_iload_n hx hb dL_law_120 rfl (lv_at hl 3 rfl) ?_
  refine lv_iconst (v := 3) hx hb dL_law_121 (by decide) ?_
  refine lv_iadd hx hb dL_law_122 ?_
  refine rc_ti (y := nI (i + 3)) (nI_add i 3) ?_
  refine rc_sl hx hb hX hbl hbA hS (i + 3) rfl (by omega) (by omega) dL_law_123 ?_
  refine lv_aload_n hx hb dL_law_124 rfl (lv_at hl 0 rfl) ?_
  refine lv_iload_n hx hb dL_law_125 rfl (lv_at hl 3 rfl) ?_
  refine lv_iconst (v := 4) hx hb dL_law_126 (by decide) ?_
  refine lv_iadd hx hb dL_law_127 ?_
  refine rc_ti (y := nI (i + 4)) (nI_add i 4) ?_
  refine rc_sl hx hb hX hbl hbA hS (i + 4) rfl (by omega) (by omega) dL_law_128 ?_
  refine rc_Li h2w.symm hS hA (va_runV (As := [.int (xs (i + 1)), .int (xs (i + 2)), .int (xs (i + 3)), .int (xs (i + 4))]) (rest := [.int (rc_rput σ)]) ⟨hx, hb, hml, hown, hts⟩ (ml_put l G cB cI h2 _ ub σ hσ (xs (i + 1)) (xs (i + 2)) (xs (i + 3)) (xs (i + 4))) (cwV 4 hts (lw_V q308 q309 q310 q11 q311) rfl rfl rfl (by decide +kernel) ⟨Nat.le_of_ble_eq_true rfl, Nat.le_of_ble_eq_true rfl⟩) (rc_preA hK h2w.2.1 h2w.2.2.2.1 2 rfl (rc_mw_0 _ _ _ _)) rfl rfl hl.1 rfl (lv_room (Nat.le_of_ble_eq_true rfl)) dL_law_129 ⟨Nat.le_trans (Nat.add_le_add_right (show cells + 0 ≤ 20000 by omega) _) (Nat.le_of_ble_eq_true rfl), Nat.le_trans (Nat.add_le_add_right (show slots + 0 ≤ 200000 by omega) _) (Nat.le_of_ble_eq_true rfl)⟩) (fun r2 ub H locs hq2 h2w hS => ?_)
  have h2w := h2w.symm
  refine rc_ti (y := rc_rput σ) (hq2) ?_
  refine W.widen (k := cells + 0) (n := slots + 0) (by omega) (by omega) ?_
  refine lv_icmp_eq (tgt := 381) hx hb dL_law_132 (by decide) (fun _ => ?_) (fun h9 => absurd (rfl) h9)
  refine W.widen (k := cells + 10) (n := slots + 1000) (by omega) (by omega) ?_
  exact kk ua ub H locs ls h2w hS hl

set_option maxHeartbeats 4000000 in
set_option maxRecDepth 100000 in
theorem la_trim {p : Program} {l : Launch} {e : Env} {s : State} {m : MethodId} {below : List Frame} {meth : Method} {c : Code} {cells slots : Nat} {Q : State → Prop} {G : va_G} {cB cI : ClassId} {A : Nat → Prop} {b L : Nat} {xs : Nat → Int32} (hx : p.tables.exec = Jvm.exec) (hb : c.code = cL_law) (hml : c.maxLocals = 4) (hown : s.vm.findClass "RcFourDeskLaw" = some m.cls) (hts : ∀ w ∈ lw_all, w.before #[Value.ref b] s = true) (hK : va_K G rc_cl (rc_ty cB cI) s) (hA : ∀ q : Nat, s.heap.size ≤ q → A q) (hX : va_X b L xs s s.heap) (hbl : b < s.heap.size) (hbA : ¬ A b) (hL : L ≤ 384) (hc : cells ≤ 10000) (hs : slots ≤ 100000) (h1 h2 : Nat) (ua : rc_DA) (ub : rc_MA) (σ : rc_PS) (hσ : rc_ok σ) (i : Nat) (hi : i + 6 ≤ L)
    (kk : ∀ (ua : rc_DA) (ub : rc_MA) (H : Heap) (locs : List Loc) (ls : Array Slot), rc_two G A (rc_dw cB h1 ua (rc_ftrim (xs (i + 1)) σ)) (rc_mw cI h2 ub (rc_ftrim (xs (i + 1)) σ)) H → va_S A s.heap H locs → lv_has ls 4 [(0, .ref b), (1, .ref h1), (2, .ref h2), (3, .int (nI i))] → W p l e room_1 s m #[Value.ref b] below meth c H locs (cells + 10) (slots + 1000) Q (F0 m 381 ls [])) :
    ∀ (H : Heap) (locs : List Loc) (ls : Array Slot), rc_two G A (rc_dw cB h1 ua σ) (rc_mw cI h2 ub σ) H → va_S A s.heap H locs → lv_has ls 4 [(0, .ref b), (1, .ref h1), (2, .ref h2), (3, .int (nI i))] → W p l e room_1 s m #[Value.ref b] below meth c H locs cells slots Q (F0 m 137 ls []) := by
  intro H locs ls h2w hS hl
  refine lv_aload_n hx hb dL_law_137 rfl (lv_at hl 1 rfl) ?_
  refine lv_aload_n hx hb dL_law_138 rfl (lv_at hl 0 rfl) ?_
  refine lv_iload_n hx hb dL_law_139 rfl (lv_at hl 3 rfl) ?_
  refine lv_iconst (v := 1) hx hb dL_law_140 (by decide) ?_
  refine lv_iadd hx hb dL_law_141 ?_
  refine rc_ti (y := nI (i + 1)) (nI_add i 1) ?_
  refine rc_sl hx hb hX hbl hbA hS (i + 1) rfl (by omega) (by omega) dL_law_142 ?_
  refine rc_Lv h2w hS hA (va_runV (As := [.int (xs (i + 1))]) (rest := []) ⟨hx, hb, hml, hown, hts⟩ (dk_trim l G cB cI h1 _ ua σ hσ (xs (i + 1))) (cwV 1 hts (lw_V q84 q85 q86 q9 q87) rfl rfl rfl (by decide +kernel) ⟨Nat.le_of_ble_eq_true rfl, Nat.le_of_ble_eq_true rfl⟩) (rc_preA hK h2w.1 h2w.2.2.1 0 rfl (rc_dw_0 _ _ _ _)) rfl rfl hl.1 rfl (lv_room (Nat.le_of_ble_eq_true rfl)) dL_law_143 ⟨Nat.le_trans (Nat.add_le_add_right (show cells ≤ 20000 by omega) _) (Nat.le_of_ble_eq_true rfl), Nat.le_trans (Nat.add_le_add_right (show slots ≤ 200000 by omega) _) (Nat.le_of_ble_eq_true rfl)⟩) (fun ua H locs hq1 h2w hS => ?_)
  refine W.widen (k := cells + 0) (n := slots + 0) (by omega) (by omega) ?_
  refine lv_aload_n hx hb dL_law_146 rfl (lv_at hl 2 rfl) ?_
  refine lv_aload_n hx hb dL_law_147 rfl (lv_at hl 0 rfl) ?_
  refine lv_iload_n hx hb dL_law_148 rfl (lv_at hl 3 rfl) ?_
  refine lv_iconst (v := 1) hx hb dL_law_149 (by decide) ?_
  refine lv_iadd hx hb dL_law_150 ?_
  refine rc_ti (y := nI (i + 1)) (nI_add i 1) ?_
  refine rc_sl hx hb hX hbl hbA hS (i + 1) rfl (by omega) (by omega) dL_law_151 ?_
  refine rc_Lv h2w.symm hS hA (va_runV (As := [.int (xs (i + 1))]) (rest := []) ⟨hx, hb, hml, hown, hts⟩ (ml_trim l G cB cI h2 _ ub σ hσ (xs (i + 1))) (cwV 1 hts (lw_V q315 q316 q317 q11 q318) rfl rfl rfl (by decide +kernel) ⟨Nat.le_of_ble_eq_true rfl, Nat.le_of_ble_eq_true rfl⟩) (rc_preA hK h2w.2.1 h2w.2.2.2.1 2 rfl (rc_mw_0 _ _ _ _)) rfl rfl hl.1 rfl (lv_room (Nat.le_of_ble_eq_true rfl)) dL_law_152 ⟨Nat.le_trans (Nat.add_le_add_right (show cells + 0 ≤ 20000 by omega) _) (Nat.le_of_ble_eq_true rfl), Nat.le_trans (Nat.add_le_add_right (show slots + 0 ≤ 200000 by omega) _) (Nat.le_of_ble_eq_true rfl)⟩) (fun ub H locs hq2 h2w hS => ?_)
  have h2w := h2w.symm
  refine W.widen (k := cells + 0) (n := slots + 0) (by omega) (by omega) ?_
  refine lv_goto (tgt := 381) hx hb dL_law_155 (by decide) ?_
  refine W.widen (k := cells + 10) (n := slots + 1000) (by omega) (by omega) ?_
  exact kk ua ub H locs ls h2w hS hl

set_option maxHeartbeats 4000000 in
set_option maxRecDepth 100000 in
theorem la_key {p : Program} {l : Launch} {e : Env} {s : State} {m : MethodId} {below : List Frame} {meth : Method} {c : Code} {cells slots : Nat} {Q : State → Prop} {G : va_G} {cB cI : ClassId} {A : Nat → Prop} {b L : Nat} {xs : Nat → Int32} (hx : p.tables.exec = Jvm.exec) (hb : c.code = cL_law) (hml : c.maxLocals = 4) (hown : s.vm.findClass "RcFourDeskLaw" = some m.cls) (hts : ∀ w ∈ lw_all, w.before #[Value.ref b] s = true) (hK : va_K G rc_cl (rc_ty cB cI) s) (hA : ∀ q : Nat, s.heap.size ≤ q → A q) (hX : va_X b L xs s s.heap) (hbl : b < s.heap.size) (hbA : ¬ A b) (hL : L ≤ 384) (hc : cells ≤ 10000) (hs : slots ≤ 100000) (h1 h2 : Nat) (ua : rc_DA) (ub : rc_MA) (σ : rc_PS) (hσ : rc_ok σ) (i : Nat) (hi : i + 6 ≤ L)
    (kk : ∀ (ua : rc_DA) (ub : rc_MA) (H : Heap) (locs : List Loc) (ls : Array Slot), rc_two G A (rc_dw cB h1 ua (rc_fkey (xs (i + 1)) (xs (i + 2)) (xs (i + 3)) (xs (i + 4)) (xs (i + 5)) σ)) (rc_mw cI h2 ub (rc_fkey (xs (i + 1)) (xs (i + 2)) (xs (i + 3)) (xs (i + 4)) (xs (i + 5)) σ)) H → va_S A s.heap H locs → lv_has ls 4 [(0, .ref b), (1, .ref h1), (2, .ref h2), (3, .int (nI i))] → W p l e room_1 s m #[Value.ref b] below meth c H locs (cells + 10) (slots + 1000) Q (F0 m 381 ls [])) :
    ∀ (H : Heap) (locs : List Loc) (ls : Array Slot), rc_two G A (rc_dw cB h1 ua σ) (rc_mw cI h2 ub σ) H → va_S A s.heap H locs → lv_has ls 4 [(0, .ref b), (1, .ref h1), (2, .ref h2), (3, .int (nI i))] → W p l e room_1 s m #[Value.ref b] below meth c H locs cells slots Q (F0 m 158 ls []) := by
  intro H locs ls h2w hS hl
  refine lv_aload_n hx hb dL_law_158 rfl (lv_at hl 1 rfl) ?_
  refine lv_aload_n hx hb dL_law_159 rfl (lv_at hl 0 rfl) ?_
  refine lv_iload_n hx hb dL_law_160 rfl (lv_at hl 3 rfl) ?_
  refine lv_iconst (v := 1) hx hb dL_law_161 (by decide) ?_
  refine lv_iadd hx hb dL_law_162 ?_
  refine rc_ti (y := nI (i + 1)) (nI_add i 1) ?_
  refine rc_sl hx hb hX hbl hbA hS (i + 1) rfl (by omega) (by omega) dL_law_163 ?_
  refine lv_aload_n hx hb dL_law_164 rfl (lv_at hl 0 rfl) ?_
  refine lv_iload_n hx hb dL_law_165 rfl (lv_at hl 3 rfl) ?_
  refine lv_iconst (v := 2) hx hb dL_law_166 (by decide) ?_
  refine lv_iadd hx hb dL_law_167 ?_
  refine rc_ti (y := nI (i + 2)) (nI_add i 2) ?_
  refine rc_sl hx hb hX hbl hbA hS (i + 2) rfl (by omega) (by omega) dL_law_168 ?_
  refine lv_aload_n hx hb dL_law_169 rfl (lv_at hl 0 rfl) ?_
  refine lv_iload_n hx hb dL_law_170 rfl (lv_at hl 3 rfl) ?_
  refine lv_iconst (v := 3) hx hb dL_law_171 (by decide) ?_
  refine lv_iadd hx hb dL_law_172 ?_
  refine rc_ti (y := nI (i + 3)) (nI_add i 3) ?_
  refine rc_sl hx hb hX hbl hbA hS (i + 3) rfl (by omega) (by omega) dL_law_173 ?_
  refine lv_aload_n hx hb dL_law_174 rfl (lv_at hl 0 rfl) ?_
  refine lv_iload_n hx hb dL_law_175 rfl (lv_at hl 3 rfl) ?_
  refine lv_iconst (v := 4) hx hb dL_law_176 (by decide) ?_
  refine lv_iadd hx hb dL_law_177 ?_
  refine rc_ti (y := nI (i + 4)) (nI_add i 4) ?_
  refine rc_sl hx hb hX hbl hbA hS (i + 4) rfl (by omega) (by omega) dL_law_178 ?_
  refine lv_aload_n hx hb dL_law_179 rfl (lv_at hl 0 rfl) ?_
  refine lv_iload_n hx hb dL_law_180 rfl (lv_at hl 3 rfl) ?_
  refine lv_iconst (v := 5) hx hb dL_law_181 (by decide) ?_
  refine lv_iadd hx hb dL_law_182 ?_
  refine rc_ti (y := nI (i + 5)) (nI_add i 5) ?_
  refine rc_sl hx hb hX hbl hbA hS (i + 5) rfl (by omega) (by omega) dL_law_183 ?_
  refine rc_Lv h2w hS hA (va_runV (As := [.int (xs (i + 1)), .int (xs (i + 2)), .int (xs (i + 3)), .int (xs (i + 4)), .int (xs (i + 5))]) (rest := []) ⟨hx, hb, hml, hown, hts⟩ (dk_key l G cB cI h1 _ ua σ hσ (xs (i + 1)) (xs (i + 2)) (xs (i + 3)) (xs (i + 4)) (xs (i + 5))) (cwV 5 hts (lw_V q93 q94 q95 q9 q96) rfl rfl rfl (by decide +kernel) ⟨Nat.le_of_ble_eq_true rfl, Nat.le_of_ble_eq_true rfl⟩) (rc_preA hK h2w.1 h2w.2.2.1 0 rfl (rc_dw_0 _ _ _ _)) rfl rfl hl.1 rfl (lv_room (Nat.le_of_ble_eq_true rfl)) dL_law_184 ⟨Nat.le_trans (Nat.add_le_add_right (show cells ≤ 20000 by omega) _) (Nat.le_of_ble_eq_true rfl), Nat.le_trans (Nat.add_le_add_right (show slots ≤ 200000 by omega) _) (Nat.le_of_ble_eq_true rfl)⟩) (fun ua H locs hq1 h2w hS => ?_)
  refine W.widen (k := cells + 0) (n := slots + 0) (by omega) (by omega) ?_
  refine lv_aload_n hx hb dL_law_187 rfl (lv_at hl 2 rfl) ?_
  refine lv_aload_n hx hb dL_law_188 rfl (lv_at hl 0 rfl) ?_
  refine lv_iload_n hx hb dL_law_189 rfl (lv_at hl 3 rfl) ?_
  refine lv_iconst (v := 1) hx hb dL_law_190 (by decide) ?_
  refine lv_iadd hx hb dL_law_191 ?_
  refine rc_ti (y := nI (i + 1)) (nI_add i 1) ?_
  refine rc_sl hx hb hX hbl hbA hS (i + 1) rfl (by omega) (by omega) dL_law_192 ?_
  refine lv_aload_n hx hb dL_law_193 rfl (lv_at hl 0 rfl) ?_
  refine lv_iload_n hx hb dL_law_194 rfl (lv_at hl 3 rfl) ?_
  refine lv_iconst (v := 2) hx hb dL_law_195 (by decide) ?_
  refine lv_iadd hx hb dL_law_196 ?_
  refine rc_ti (y := nI (i + 2)) (nI_add i 2) ?_
  refine rc_sl hx hb hX hbl hbA hS (i + 2) rfl (by omega) (by omega) dL_law_197 ?_
  refine lv_aload_n hx hb dL_law_198 rfl (lv_at hl 0 rfl) ?_
  refine lv_iload_n hx hb dL_law_199 rfl (lv_at hl 3 rfl) ?_
  refine lv_iconst (v := 3) hx hb dL_law_200 (by decide) ?_
  refine lv_iadd hx hb dL_law_201 ?_
  refine rc_ti (y := nI (i + 3)) (nI_add i 3) ?_
  refine rc_sl hx hb hX hbl hbA hS (i + 3) rfl (by omega) (by omega) dL_law_202 ?_
  refine lv_aload_n hx hb dL_law_203 rfl (lv_at hl 0 rfl) ?_
  refine lv_iload_n hx hb dL_law_204 rfl (lv_at hl 3 rfl) ?_
  refine lv_iconst (v := 4) hx hb dL_law_205 (by decide) ?_
  refine lv_iadd hx hb dL_law_206 ?_
  refine rc_ti (y := nI (i + 4)) (nI_add i 4) ?_
  refine rc_sl hx hb hX hbl hbA hS (i + 4) rfl (by omega) (by omega) dL_law_207 ?_
  refine lv_aload_n hx hb dL_law_208 rfl (lv_at hl 0 rfl) ?_
  refine lv_iload_n hx hb dL_law_209 rfl (lv_at hl 3 rfl) ?_
  refine lv_iconst (v := 5) hx hb dL_law_210 (by decide) ?_
  refine lv_iadd hx hb dL_law_211 ?_
  refine rc_ti (y := nI (i + 5)) (nI_add i 5) ?_
  refine rc_sl hx hb hX hbl hbA hS (i + 5) rfl (by omega) (by omega) dL_law_212 ?_
  refine rc_Lv h2w.symm hS hA (va_runV (As := [.int (xs (i + 1)), .int (xs (i + 2)), .int (xs (i + 3)), .int (xs (i + 4)), .int (xs (i + 5))]) (rest := []) ⟨hx, hb, hml, hown, hts⟩ (ml_key l G cB cI h2 _ ub σ hσ (xs (i + 1)) (xs (i + 2)) (xs (i + 3)) (xs (i + 4)) (xs (i + 5))) (cwV 5 hts (lw_V q324 q325 q326 q11 q327) rfl rfl rfl (by decide +kernel) ⟨Nat.le_of_ble_eq_true rfl, Nat.le_of_ble_eq_true rfl⟩) (rc_preA hK h2w.2.1 h2w.2.2.2.1 2 rfl (rc_mw_0 _ _ _ _)) rfl rfl hl.1 rfl (lv_room (Nat.le_of_ble_eq_true rfl)) dL_law_213 ⟨Nat.le_trans (Nat.add_le_add_right (show cells + 0 ≤ 20000 by omega) _) (Nat.le_of_ble_eq_true rfl), Nat.le_trans (Nat.add_le_add_right (show slots + 0 ≤ 200000 by omega) _) (Nat.le_of_ble_eq_true rfl)⟩) (fun ub H locs hq2 h2w hS => ?_)
  have h2w := h2w.symm
  refine W.widen (k := cells + 0) (n := slots + 0) (by omega) (by omega) ?_
  refine lv_goto (tgt := 381) hx hb dL_law_216 (by decide) ?_
  refine W.widen (k := cells + 10) (n := slots + 1000) (by omega) (by omega) ?_
  exact kk ua ub H locs ls h2w hS hl

set_option maxHeartbeats 4000000 in
set_option maxRecDepth 100000 in
theorem la_nonce {p : Program} {l : Launch} {e : Env} {s : State} {m : MethodId} {below : List Frame} {meth : Method} {c : Code} {cells slots : Nat} {Q : State → Prop} {G : va_G} {cB cI : ClassId} {A : Nat → Prop} {b L : Nat} {xs : Nat → Int32} (hx : p.tables.exec = Jvm.exec) (hb : c.code = cL_law) (hml : c.maxLocals = 4) (hown : s.vm.findClass "RcFourDeskLaw" = some m.cls) (hts : ∀ w ∈ lw_all, w.before #[Value.ref b] s = true) (hK : va_K G rc_cl (rc_ty cB cI) s) (hA : ∀ q : Nat, s.heap.size ≤ q → A q) (hX : va_X b L xs s s.heap) (hbl : b < s.heap.size) (hbA : ¬ A b) (hL : L ≤ 384) (hc : cells ≤ 10000) (hs : slots ≤ 100000) (h1 h2 : Nat) (ua : rc_DA) (ub : rc_MA) (σ : rc_PS) (hσ : rc_ok σ) (i : Nat) (hi : i + 6 ≤ L)
    (kk : ∀ (ua : rc_DA) (ub : rc_MA) (H : Heap) (locs : List Loc) (ls : Array Slot), rc_two G A (rc_dw cB h1 ua σ) (rc_mw cI h2 ub σ) H → va_S A s.heap H locs → lv_has ls 4 [(0, .ref b), (1, .ref h1), (2, .ref h2), (3, .int (nI i))] → W p l e room_1 s m #[Value.ref b] below meth c H locs (cells + 10) (slots + 1000) Q (F0 m 381 ls [])) :
    ∀ (H : Heap) (locs : List Loc) (ls : Array Slot), rc_two G A (rc_dw cB h1 ua σ) (rc_mw cI h2 ub σ) H → va_S A s.heap H locs → lv_has ls 4 [(0, .ref b), (1, .ref h1), (2, .ref h2), (3, .int (nI i))] → W p l e room_1 s m #[Value.ref b] below meth c H locs cells slots Q (F0 m 219 ls []) := by
  intro H locs ls h2w hS hl
  refine lv_aload_n hx hb dL_law_219 rfl (lv_at hl 1 rfl) ?_
  refine lv_aload_n hx hb dL_law_220 rfl (lv_at hl 0 rfl) ?_
  refine lv_iload_n hx hb dL_law_221 rfl (lv_at hl 3 rfl) ?_
  refine lv_iconst (v := 1) hx hb dL_law_222 (by decide) ?_
  refine lv_iadd hx hb dL_law_223 ?_
  refine rc_ti (y := nI (i + 1)) (nI_add i 1) ?_
  refine rc_sl hx hb hX hbl hbA hS (i + 1) rfl (by omega) (by omega) dL_law_224 ?_
  refine lv_aload_n hx hb dL_law_225 rfl (lv_at hl 0 rfl) ?_
  refine lv_iload_n hx hb dL_law_226 rfl (lv_at hl 3 rfl) ?_
  refine lv_iconst (v := 2) hx hb dL_law_227 (by decide) ?_
  refine lv_iadd hx hb dL_law_228 ?_
  refine rc_ti (y := nI (i + 2)) (nI_add i 2) ?_
  refine rc_sl hx hb hX hbl hbA hS (i + 2) rfl (by omega) (by omega) dL_law_229 ?_
  refine lv_aload_n hx hb dL_law_230 rfl (lv_at hl 0 rfl) ?_
  refine lv_iload_n hx hb dL_law_231 rfl (lv_at hl 3 rfl) ?_
  refine lv_iconst (v := 3) hx hb dL_law_232 (by decide) ?_
  refine lv_iadd hx hb dL_law_233 ?_
  refine rc_ti (y := nI (i + 3)) (nI_add i 3) ?_
  refine rc_sl hx hb hX hbl hbA hS (i + 3) rfl (by omega) (by omega) dL_law_234 ?_
  refine lv_aload_n hx hb dL_law_235 rfl (lv_at hl 0 rfl) ?_
  refine lv_iload_n hx hb dL_law_236 rfl (lv_at hl 3 rfl) ?_
  refine lv_iconst (v := 4) hx hb dL_law_237 (by decide) ?_
  refine lv_iadd hx hb dL_law_238 ?_
  refine rc_ti (y := nI (i + 4)) (nI_add i 4) ?_
  refine rc_sl hx hb hX hbl hbA hS (i + 4) rfl (by omega) (by omega) dL_law_239 ?_
  refine rc_Lv h2w hS hA (va_runV (As := [.int (xs (i + 1)), .int (xs (i + 2)), .int (xs (i + 3)), .int (xs (i + 4))]) (rest := []) ⟨hx, hb, hml, hown, hts⟩ (dk_nonce l G cB cI h1 _ ua σ hσ (xs (i + 1)) (xs (i + 2)) (xs (i + 3)) (xs (i + 4))) (cwV 4 hts (lw_V q97 q98 q99 q9 q100) rfl rfl rfl (by decide +kernel) ⟨Nat.le_of_ble_eq_true rfl, Nat.le_of_ble_eq_true rfl⟩) (rc_preA hK h2w.1 h2w.2.2.1 0 rfl (rc_dw_0 _ _ _ _)) rfl rfl hl.1 rfl (lv_room (Nat.le_of_ble_eq_true rfl)) dL_law_240 ⟨Nat.le_trans (Nat.add_le_add_right (show cells ≤ 20000 by omega) _) (Nat.le_of_ble_eq_true rfl), Nat.le_trans (Nat.add_le_add_right (show slots ≤ 200000 by omega) _) (Nat.le_of_ble_eq_true rfl)⟩) (fun ua H locs hq1 h2w hS => ?_)
  refine W.widen (k := cells + 0) (n := slots + 0) (by omega) (by omega) ?_
  refine lv_aload_n hx hb dL_law_243 rfl (lv_at hl 2 rfl) ?_
  refine lv_aload_n hx hb dL_law_244 rfl (lv_at hl 0 rfl) ?_
  refine lv_iload_n hx hb dL_law_245 rfl (lv_at hl 3 rfl) ?_
  refine lv_iconst (v := 1) hx hb dL_law_246 (by decide) ?_
  refine lv_iadd hx hb dL_law_247 ?_
  refine rc_ti (y := nI (i + 1)) (nI_add i 1) ?_
  refine rc_sl hx hb hX hbl hbA hS (i + 1) rfl (by omega) (by omega) dL_law_248 ?_
  refine lv_aload_n hx hb dL_law_249 rfl (lv_at hl 0 rfl) ?_
  refine lv_iload_n hx hb dL_law_250 rfl (lv_at hl 3 rfl) ?_
  refine lv_iconst (v := 2) hx hb dL_law_251 (by decide) ?_
  refine lv_iadd hx hb dL_law_252 ?_
  refine rc_ti (y := nI (i + 2)) (nI_add i 2) ?_
  refine rc_sl hx hb hX hbl hbA hS (i + 2) rfl (by omega) (by omega) dL_law_253 ?_
  refine lv_aload_n hx hb dL_law_254 rfl (lv_at hl 0 rfl) ?_
  refine lv_iload_n hx hb dL_law_255 rfl (lv_at hl 3 rfl) ?_
  refine lv_iconst (v := 3) hx hb dL_law_256 (by decide) ?_
  refine lv_iadd hx hb dL_law_257 ?_
  refine rc_ti (y := nI (i + 3)) (nI_add i 3) ?_
  refine rc_sl hx hb hX hbl hbA hS (i + 3) rfl (by omega) (by omega) dL_law_258 ?_
  refine lv_aload_n hx hb dL_law_259 rfl (lv_at hl 0 rfl) ?_
  refine lv_iload_n hx hb dL_law_260 rfl (lv_at hl 3 rfl) ?_
  refine lv_iconst (v := 4) hx hb dL_law_261 (by decide) ?_
  refine lv_iadd hx hb dL_law_262 ?_
  refine rc_ti (y := nI (i + 4)) (nI_add i 4) ?_
  refine rc_sl hx hb hX hbl hbA hS (i + 4) rfl (by omega) (by omega) dL_law_263 ?_
  refine rc_Lv h2w.symm hS hA (va_runV (As := [.int (xs (i + 1)), .int (xs (i + 2)), .int (xs (i + 3)), .int (xs (i + 4))]) (rest := []) ⟨hx, hb, hml, hown, hts⟩ (ml_nonce l G cB cI h2 _ ub σ hσ (xs (i + 1)) (xs (i + 2)) (xs (i + 3)) (xs (i + 4))) (cwV 4 hts (lw_V q328 q329 q330 q11 q331) rfl rfl rfl (by decide +kernel) ⟨Nat.le_of_ble_eq_true rfl, Nat.le_of_ble_eq_true rfl⟩) (rc_preA hK h2w.2.1 h2w.2.2.2.1 2 rfl (rc_mw_0 _ _ _ _)) rfl rfl hl.1 rfl (lv_room (Nat.le_of_ble_eq_true rfl)) dL_law_264 ⟨Nat.le_trans (Nat.add_le_add_right (show cells + 0 ≤ 20000 by omega) _) (Nat.le_of_ble_eq_true rfl), Nat.le_trans (Nat.add_le_add_right (show slots + 0 ≤ 200000 by omega) _) (Nat.le_of_ble_eq_true rfl)⟩) (fun ub H locs hq2 h2w hS => ?_)
  have h2w := h2w.symm
  refine W.widen (k := cells + 0) (n := slots + 0) (by omega) (by omega) ?_
  refine lv_goto (tgt := 381) hx hb dL_law_267 (by decide) ?_
  refine W.widen (k := cells + 10) (n := slots + 1000) (by omega) (by omega) ?_
  exact kk ua ub H locs ls h2w hS hl

set_option maxHeartbeats 4000000 in
set_option maxRecDepth 100000 in
theorem la_begin {p : Program} {l : Launch} {e : Env} {s : State} {m : MethodId} {below : List Frame} {meth : Method} {c : Code} {cells slots : Nat} {Q : State → Prop} {G : va_G} {cB cI : ClassId} {A : Nat → Prop} {b L : Nat} {xs : Nat → Int32} (hx : p.tables.exec = Jvm.exec) (hb : c.code = cL_law) (hml : c.maxLocals = 4) (hown : s.vm.findClass "RcFourDeskLaw" = some m.cls) (hts : ∀ w ∈ lw_all, w.before #[Value.ref b] s = true) (hK : va_K G rc_cl (rc_ty cB cI) s) (hA : ∀ q : Nat, s.heap.size ≤ q → A q) (hX : va_X b L xs s s.heap) (hbl : b < s.heap.size) (hbA : ¬ A b) (hL : L ≤ 384) (hc : cells ≤ 10000) (hs : slots ≤ 100000) (h1 h2 : Nat) (ua : rc_DA) (ub : rc_MA) (σ : rc_PS) (hσ : rc_ok σ) (i : Nat) (hi : i + 6 ≤ L)
    (kk : ∀ (ua : rc_DA) (ub : rc_MA) (H : Heap) (locs : List Loc) (ls : Array Slot), rc_two G A (rc_dw cB h1 ua (rc_fbegin (xs (i + 1)) σ)) (rc_mw cI h2 ub (rc_fbegin (xs (i + 1)) σ)) H → va_S A s.heap H locs → lv_has ls 4 [(0, .ref b), (1, .ref h1), (2, .ref h2), (3, .int (nI i))] → W p l e room_1 s m #[Value.ref b] below meth c H locs (cells + 10) (slots + 1000) Q (F0 m 381 ls [])) :
    ∀ (H : Heap) (locs : List Loc) (ls : Array Slot), rc_two G A (rc_dw cB h1 ua σ) (rc_mw cI h2 ub σ) H → va_S A s.heap H locs → lv_has ls 4 [(0, .ref b), (1, .ref h1), (2, .ref h2), (3, .int (nI i))] → W p l e room_1 s m #[Value.ref b] below meth c H locs cells slots Q (F0 m 270 ls []) := by
  intro H locs ls h2w hS hl
  refine lv_aload_n hx hb dL_law_270 rfl (lv_at hl 1 rfl) ?_
  refine lv_aload_n hx hb dL_law_271 rfl (lv_at hl 0 rfl) ?_
  refine lv_iload_n hx hb dL_law_272 rfl (lv_at hl 3 rfl) ?_
  refine lv_iconst (v := 1) hx hb dL_law_273 (by decide) ?_
  refine lv_iadd hx hb dL_law_274 ?_
  refine rc_ti (y := nI (i + 1)) (nI_add i 1) ?_
  refine rc_sl hx hb hX hbl hbA hS (i + 1) rfl (by omega) (by omega) dL_law_275 ?_
  refine rc_Lv h2w hS hA (va_runV (As := [.int (xs (i + 1))]) (rest := []) ⟨hx, hb, hml, hown, hts⟩ (dk_begin l G cB cI h1 _ ua σ hσ (xs (i + 1))) (cwV 1 hts (lw_V q101 q102 q103 q9 q104) rfl rfl rfl (by decide +kernel) ⟨Nat.le_of_ble_eq_true rfl, Nat.le_of_ble_eq_true rfl⟩) (rc_preA hK h2w.1 h2w.2.2.1 0 rfl (rc_dw_0 _ _ _ _)) rfl rfl hl.1 rfl (lv_room (Nat.le_of_ble_eq_true rfl)) dL_law_276 ⟨Nat.le_trans (Nat.add_le_add_right (show cells ≤ 20000 by omega) _) (Nat.le_of_ble_eq_true rfl), Nat.le_trans (Nat.add_le_add_right (show slots ≤ 200000 by omega) _) (Nat.le_of_ble_eq_true rfl)⟩) (fun ua H locs hq1 h2w hS => ?_)
  refine W.widen (k := cells + 5) (n := slots + 326) (by omega) (by omega) ?_
  refine lv_aload_n hx hb dL_law_279 rfl (lv_at hl 2 rfl) ?_
  refine lv_aload_n hx hb dL_law_280 rfl (lv_at hl 0 rfl) ?_
  refine lv_iload_n hx hb dL_law_281 rfl (lv_at hl 3 rfl) ?_
  refine lv_iconst (v := 1) hx hb dL_law_282 (by decide) ?_
  refine lv_iadd hx hb dL_law_283 ?_
  refine rc_ti (y := nI (i + 1)) (nI_add i 1) ?_
  refine rc_sl hx hb hX hbl hbA hS (i + 1) rfl (by omega) (by omega) dL_law_284 ?_
  refine rc_Lv h2w.symm hS hA (va_runV (As := [.int (xs (i + 1))]) (rest := []) ⟨hx, hb, hml, hown, hts⟩ (ml_begin l G cB cI h2 _ ub σ hσ (xs (i + 1))) (cwV 1 hts (lw_V q332 q333 q334 q11 q335) rfl rfl rfl (by decide +kernel) ⟨Nat.le_of_ble_eq_true rfl, Nat.le_of_ble_eq_true rfl⟩) (rc_preA hK h2w.2.1 h2w.2.2.2.1 2 rfl (rc_mw_0 _ _ _ _)) rfl rfl hl.1 rfl (lv_room (Nat.le_of_ble_eq_true rfl)) dL_law_285 ⟨Nat.le_trans (Nat.add_le_add_right (show cells + 5 ≤ 20000 by omega) _) (Nat.le_of_ble_eq_true rfl), Nat.le_trans (Nat.add_le_add_right (show slots + 326 ≤ 200000 by omega) _) (Nat.le_of_ble_eq_true rfl)⟩) (fun ub H locs hq2 h2w hS => ?_)
  have h2w := h2w.symm
  refine W.widen (k := cells + 6) (n := slots + 358) (by omega) (by omega) ?_
  refine lv_goto (tgt := 381) hx hb dL_law_288 (by decide) ?_
  refine W.widen (k := cells + 10) (n := slots + 1000) (by omega) (by omega) ?_
  exact kk ua ub H locs ls h2w hS hl

set_option maxHeartbeats 4000000 in
set_option maxRecDepth 100000 in
theorem la_run {p : Program} {l : Launch} {e : Env} {s : State} {m : MethodId} {below : List Frame} {meth : Method} {c : Code} {cells slots : Nat} {Q : State → Prop} {G : va_G} {cB cI : ClassId} {A : Nat → Prop} {b L : Nat} {xs : Nat → Int32} (hx : p.tables.exec = Jvm.exec) (hb : c.code = cL_law) (hml : c.maxLocals = 4) (hown : s.vm.findClass "RcFourDeskLaw" = some m.cls) (hts : ∀ w ∈ lw_all, w.before #[Value.ref b] s = true) (hK : va_K G rc_cl (rc_ty cB cI) s) (hA : ∀ q : Nat, s.heap.size ≤ q → A q) (hX : va_X b L xs s s.heap) (hbl : b < s.heap.size) (hbA : ¬ A b) (hL : L ≤ 384) (hc : cells ≤ 10000) (hs : slots ≤ 100000) (h1 h2 : Nat) (ua : rc_DA) (ub : rc_MA) (σ : rc_PS) (hσ : rc_ok σ) (i : Nat) (hi : i + 6 ≤ L)
    (kk : ∀ (ua : rc_DA) (ub : rc_MA) (H : Heap) (locs : List Loc) (ls : Array Slot), rc_two G A (rc_dw cB h1 ua (rc_frun (xs (i + 1)) (xs (i + 2)) σ)) (rc_mw cI h2 ub (rc_frun (xs (i + 1)) (xs (i + 2)) σ)) H → va_S A s.heap H locs → lv_has ls 4 [(0, .ref b), (1, .ref h1), (2, .ref h2), (3, .int (nI i))] → W p l e room_1 s m #[Value.ref b] below meth c H locs (cells + 10) (slots + 1000) Q (F0 m 381 ls [])) :
    ∀ (H : Heap) (locs : List Loc) (ls : Array Slot), rc_two G A (rc_dw cB h1 ua σ) (rc_mw cI h2 ub σ) H → va_S A s.heap H locs → lv_has ls 4 [(0, .ref b), (1, .ref h1), (2, .ref h2), (3, .int (nI i))] → W p l e room_1 s m #[Value.ref b] below meth c H locs cells slots Q (F0 m 291 ls []) := by
  intro H locs ls h2w hS hl
  refine lv_aload_n hx hb dL_law_291 rfl (lv_at hl 1 rfl) ?_
  refine lv_aload_n hx hb dL_law_292 rfl (lv_at hl 0 rfl) ?_
  refine lv_iload_n hx hb dL_law_293 rfl (lv_at hl 3 rfl) ?_
  refine lv_iconst (v := 1) hx hb dL_law_294 (by decide) ?_
  refine lv_iadd hx hb dL_law_295 ?_
  refine rc_ti (y := nI (i + 1)) (nI_add i 1) ?_
  refine rc_sl hx hb hX hbl hbA hS (i + 1) rfl (by omega) (by omega) dL_law_296 ?_
  refine lv_aload_n hx hb dL_law_297 rfl (lv_at hl 0 rfl) ?_
  refine lv_iload_n hx hb dL_law_298 rfl (lv_at hl 3 rfl) ?_
  refine lv_iconst (v := 2) hx hb dL_law_299 (by decide) ?_
  refine lv_iadd hx hb dL_law_300 ?_
  refine rc_ti (y := nI (i + 2)) (nI_add i 2) ?_
  refine rc_sl hx hb hX hbl hbA hS (i + 2) rfl (by omega) (by omega) dL_law_301 ?_
  refine rc_Li h2w hS hA (va_runV (As := [.int (xs (i + 1)), .int (xs (i + 2))]) (rest := []) ⟨hx, hb, hml, hown, hts⟩ (dk_run l G cB cI h1 _ ua σ hσ (xs (i + 1)) (xs (i + 2))) (cwV 2 hts (lw_V q204 q205 q206 q9 q207) rfl rfl rfl (by decide +kernel) ⟨Nat.le_of_ble_eq_true rfl, Nat.le_of_ble_eq_true rfl⟩) (rc_preA hK h2w.1 h2w.2.2.1 0 rfl (rc_dw_0 _ _ _ _)) rfl rfl hl.1 rfl (lv_room (Nat.le_of_ble_eq_true rfl)) dL_law_302 ⟨Nat.le_trans (Nat.add_le_add_right (show cells ≤ 20000 by omega) _) (Nat.le_of_ble_eq_true rfl), Nat.le_trans (Nat.add_le_add_right (show slots ≤ 200000 by omega) _) (Nat.le_of_ble_eq_true rfl)⟩) (fun r1 ua H locs hq1 h2w hS => ?_)
  refine rc_ti (y := rc_rrun (xs (i + 1)) (xs (i + 2)) σ) (hq1) ?_
  refine W.widen (k := cells + 1) (n := slots + 256) (by omega) (by omega) ?_
  refine lv_aload_n hx hb dL_law_305 rfl (lv_at hl 2 rfl) ?_
  refine lv_aload_n hx hb dL_law_306 rfl (lv_at hl 0 rfl) ?_
  refine lv_iload_n hx hb dL_law_307 rfl (lv_at hl 3 rfl) ?_
  refine lv_iconst (v := 1) hx hb dL_law_308 (by decide) ?_
  refine lv_iadd hx hb dL_law_309 ?_
  refine rc_ti (y := nI (i + 1)) (nI_add i 1) ?_
  refine rc_sl hx hb hX hbl hbA hS (i + 1) rfl (by omega) (by omega) dL_law_310 ?_
  refine lv_aload_n hx hb dL_law_311 rfl (lv_at hl 0 rfl) ?_
  refine lv_iload_n hx hb dL_law_312 rfl (lv_at hl 3 rfl) ?_
  refine lv_iconst (v := 2) hx hb dL_law_313 (by decide) ?_
  refine lv_iadd hx hb dL_law_314 ?_
  refine rc_ti (y := nI (i + 2)) (nI_add i 2) ?_
  refine rc_sl hx hb hX hbl hbA hS (i + 2) rfl (by omega) (by omega) dL_law_315 ?_
  refine rc_Li h2w.symm hS hA (va_runV (As := [.int (xs (i + 1)), .int (xs (i + 2))]) (rest := [.int (rc_rrun (xs (i + 1)) (xs (i + 2)) σ)]) ⟨hx, hb, hml, hown, hts⟩ (ml_run l G cB cI h2 _ ub σ hσ (xs (i + 1)) (xs (i + 2))) (cwV 2 hts (lw_V q344 q345 q346 q11 q347) rfl rfl rfl (by decide +kernel) ⟨Nat.le_of_ble_eq_true rfl, Nat.le_of_ble_eq_true rfl⟩) (rc_preA hK h2w.2.1 h2w.2.2.2.1 2 rfl (rc_mw_0 _ _ _ _)) rfl rfl hl.1 rfl (lv_room (Nat.le_of_ble_eq_true rfl)) dL_law_316 ⟨Nat.le_trans (Nat.add_le_add_right (show cells + 1 ≤ 20000 by omega) _) (Nat.le_of_ble_eq_true rfl), Nat.le_trans (Nat.add_le_add_right (show slots + 256 ≤ 200000 by omega) _) (Nat.le_of_ble_eq_true rfl)⟩) (fun r2 ub H locs hq2 h2w hS => ?_)
  have h2w := h2w.symm
  refine rc_ti (y := rc_rrun (xs (i + 1)) (xs (i + 2)) σ) (hq2) ?_
  refine W.widen (k := cells + 2) (n := slots + 512) (by omega) (by omega) ?_
  refine lv_icmp_eq (tgt := 381) hx hb dL_law_319 (by decide) (fun _ => ?_) (fun h9 => absurd (rfl) h9)
  refine W.widen (k := cells + 10) (n := slots + 1000) (by omega) (by omega) ?_
  exact kk ua ub H locs ls h2w hS hl

set_option maxHeartbeats 4000000 in
set_option maxRecDepth 100000 in
theorem la_one {p : Program} {l : Launch} {e : Env} {s : State} {m : MethodId} {below : List Frame} {meth : Method} {c : Code} {cells slots : Nat} {Q : State → Prop} {G : va_G} {cB cI : ClassId} {A : Nat → Prop} {b L : Nat} {xs : Nat → Int32} (hx : p.tables.exec = Jvm.exec) (hb : c.code = cL_law) (hml : c.maxLocals = 4) (hown : s.vm.findClass "RcFourDeskLaw" = some m.cls) (hts : ∀ w ∈ lw_all, w.before #[Value.ref b] s = true) (hK : va_K G rc_cl (rc_ty cB cI) s) (hA : ∀ q : Nat, s.heap.size ≤ q → A q) (hX : va_X b L xs s s.heap) (hbl : b < s.heap.size) (hbA : ¬ A b) (hL : L ≤ 384) (hc : cells ≤ 10000) (hs : slots ≤ 100000) (h1 h2 : Nat) (ua : rc_DA) (ub : rc_MA) (σ : rc_PS) (hσ : rc_ok σ) (i : Nat) (hi : i + 6 ≤ L)
    (kk : ∀ (ua : rc_DA) (ub : rc_MA) (H : Heap) (locs : List Loc) (ls : Array Slot), rc_two G A (rc_dw cB h1 ua (rc_fone σ)) (rc_mw cI h2 ub (rc_fone σ)) H → va_S A s.heap H locs → lv_has ls 4 [(0, .ref b), (1, .ref h1), (2, .ref h2), (3, .int (nI i))] → W p l e room_1 s m #[Value.ref b] below meth c H locs (cells + 10) (slots + 1000) Q (F0 m 381 ls [])) :
    ∀ (H : Heap) (locs : List Loc) (ls : Array Slot), rc_two G A (rc_dw cB h1 ua σ) (rc_mw cI h2 ub σ) H → va_S A s.heap H locs → lv_has ls 4 [(0, .ref b), (1, .ref h1), (2, .ref h2), (3, .int (nI i))] → W p l e room_1 s m #[Value.ref b] below meth c H locs cells slots Q (F0 m 324 ls []) := by
  intro H locs ls h2w hS hl
  refine lv_aload_n hx hb dL_law_324 rfl (lv_at hl 1 rfl) ?_
  refine lv_aload_n hx hb dL_law_325 rfl (lv_at hl 0 rfl) ?_
  refine lv_iload_n hx hb dL_law_326 rfl (lv_at hl 3 rfl) ?_
  refine lv_iconst (v := 1) hx hb dL_law_327 (by decide) ?_
  refine lv_iadd hx hb dL_law_328 ?_
  refine rc_ti (y := nI (i + 1)) (nI_add i 1) ?_
  refine rc_sl hx hb hX hbl hbA hS (i + 1) rfl (by omega) (by omega) dL_law_329 ?_
  refine rc_Li h2w hS hA (va_runV (As := [.int (xs (i + 1))]) (rest := []) ⟨hx, hb, hml, hown, hts⟩ (dk_one l G cB cI h1 _ ua σ hσ (xs (i + 1))) (cwV 1 hts (lw_V q253 q254 q255 q9 q256) rfl rfl rfl (by decide +kernel) ⟨Nat.le_of_ble_eq_true rfl, Nat.le_of_ble_eq_true rfl⟩) (rc_preA hK h2w.1 h2w.2.2.1 0 rfl (rc_dw_0 _ _ _ _)) rfl rfl hl.1 rfl (lv_room (Nat.le_of_ble_eq_true rfl)) dL_law_330 ⟨Nat.le_trans (Nat.add_le_add_right (show cells ≤ 20000 by omega) _) (Nat.le_of_ble_eq_true rfl), Nat.le_trans (Nat.add_le_add_right (show slots ≤ 200000 by omega) _) (Nat.le_of_ble_eq_true rfl)⟩) (fun r1 ua H locs hq1 h2w hS => ?_)
  refine rc_ti (y := rc_rone (xs (i + 1)) σ) (hq1) ?_
  refine W.widen (k := cells + 0) (n := slots + 0) (by omega) (by omega) ?_
  refine lv_aload_n hx hb dL_law_333 rfl (lv_at hl 2 rfl) ?_
  refine lv_aload_n hx hb dL_law_334 rfl (lv_at hl 0 rfl) ?_
  refine lv_iload_n hx hb dL_law_335 rfl (lv_at hl 3 rfl) ?_
  refine lv_iconst (v := 1) hx hb dL_law_336 (by decide) ?_
  refine lv_iadd hx hb dL_law_337 ?_
  refine rc_ti (y := nI (i + 1)) (nI_add i 1) ?_
  refine rc_sl hx hb hX hbl hbA hS (i + 1) rfl (by omega) (by omega) dL_law_338 ?_
  refine rc_Li h2w.symm hS hA (va_runV (As := [.int (xs (i + 1))]) (rest := [.int (rc_rone (xs (i + 1)) σ)]) ⟨hx, hb, hml, hown, hts⟩ (ml_one l G cB cI h2 _ ub σ hσ (xs (i + 1))) (cwV 1 hts (lw_V q352 q353 q354 q11 q355) rfl rfl rfl (by decide +kernel) ⟨Nat.le_of_ble_eq_true rfl, Nat.le_of_ble_eq_true rfl⟩) (rc_preA hK h2w.2.1 h2w.2.2.2.1 2 rfl (rc_mw_0 _ _ _ _)) rfl rfl hl.1 rfl (lv_room (Nat.le_of_ble_eq_true rfl)) dL_law_339 ⟨Nat.le_trans (Nat.add_le_add_right (show cells + 0 ≤ 20000 by omega) _) (Nat.le_of_ble_eq_true rfl), Nat.le_trans (Nat.add_le_add_right (show slots + 0 ≤ 200000 by omega) _) (Nat.le_of_ble_eq_true rfl)⟩) (fun r2 ub H locs hq2 h2w hS => ?_)
  have h2w := h2w.symm
  refine rc_ti (y := rc_rone (xs (i + 1)) σ) (hq2) ?_
  refine W.widen (k := cells + 0) (n := slots + 0) (by omega) (by omega) ?_
  refine lv_icmp_eq (tgt := 381) hx hb dL_law_342 (by decide) (fun _ => ?_) (fun h9 => absurd (rfl) h9)
  refine W.widen (k := cells + 10) (n := slots + 1000) (by omega) (by omega) ?_
  exact kk ua ub H locs ls h2w hS hl

set_option maxHeartbeats 4000000 in
set_option maxRecDepth 100000 in
theorem la_again {p : Program} {l : Launch} {e : Env} {s : State} {m : MethodId} {below : List Frame} {meth : Method} {c : Code} {cells slots : Nat} {Q : State → Prop} {G : va_G} {cB cI : ClassId} {A : Nat → Prop} {b L : Nat} {xs : Nat → Int32} (hx : p.tables.exec = Jvm.exec) (hb : c.code = cL_law) (hml : c.maxLocals = 4) (hown : s.vm.findClass "RcFourDeskLaw" = some m.cls) (hts : ∀ w ∈ lw_all, w.before #[Value.ref b] s = true) (hK : va_K G rc_cl (rc_ty cB cI) s) (hA : ∀ q : Nat, s.heap.size ≤ q → A q) (hX : va_X b L xs s s.heap) (hbl : b < s.heap.size) (hbA : ¬ A b) (hL : L ≤ 384) (hc : cells ≤ 10000) (hs : slots ≤ 100000) (h1 h2 : Nat) (ua : rc_DA) (ub : rc_MA) (σ : rc_PS) (hσ : rc_ok σ) (i : Nat) (hi : i + 6 ≤ L)
    (kk : ∀ (ua : rc_DA) (ub : rc_MA) (H : Heap) (locs : List Loc) (ls : Array Slot), rc_two G A (rc_dw cB h1 ua (rc_fagain σ)) (rc_mw cI h2 ub (rc_fagain σ)) H → va_S A s.heap H locs → lv_has ls 4 [(0, .ref b), (1, .ref h1), (2, .ref h2), (3, .int (nI i))] → W p l e room_1 s m #[Value.ref b] below meth c H locs (cells + 10) (slots + 1000) Q (F0 m 381 ls [])) :
    ∀ (H : Heap) (locs : List Loc) (ls : Array Slot), rc_two G A (rc_dw cB h1 ua σ) (rc_mw cI h2 ub σ) H → va_S A s.heap H locs → lv_has ls 4 [(0, .ref b), (1, .ref h1), (2, .ref h2), (3, .int (nI i))] → W p l e room_1 s m #[Value.ref b] below meth c H locs cells slots Q (F0 m 347 ls []) := by
  intro H locs ls h2w hS hl
  refine lv_aload_n hx hb dL_law_347 rfl (lv_at hl 1 rfl) ?_
  refine rc_Lv h2w hS hA (va_runV (As := []) (rest := []) ⟨hx, hb, hml, hown, hts⟩ (dk_again l G cB cI h1 _ ua σ hσ) (cwV 0 hts (lw_V q261 q262 q263 q9 q264) rfl rfl rfl (by decide +kernel) ⟨Nat.le_of_ble_eq_true rfl, Nat.le_of_ble_eq_true rfl⟩) (rc_preA hK h2w.1 h2w.2.2.1 0 rfl (rc_dw_0 _ _ _ _)) rfl rfl hl.1 rfl (lv_room (Nat.le_of_ble_eq_true rfl)) dL_law_348 ⟨Nat.le_trans (Nat.add_le_add_right (show cells ≤ 20000 by omega) _) (Nat.le_of_ble_eq_true rfl), Nat.le_trans (Nat.add_le_add_right (show slots ≤ 200000 by omega) _) (Nat.le_of_ble_eq_true rfl)⟩) (fun ua H locs hq1 h2w hS => ?_)
  refine W.widen (k := cells + 0) (n := slots + 0) (by omega) (by omega) ?_
  refine lv_aload_n hx hb dL_law_351 rfl (lv_at hl 2 rfl) ?_
  refine rc_Lv h2w.symm hS hA (va_runV (As := []) (rest := []) ⟨hx, hb, hml, hown, hts⟩ (ml_again l G cB cI h2 _ ub σ hσ) (cwV 0 hts (lw_V q356 q357 q358 q11 q359) rfl rfl rfl (by decide +kernel) ⟨Nat.le_of_ble_eq_true rfl, Nat.le_of_ble_eq_true rfl⟩) (rc_preA hK h2w.2.1 h2w.2.2.2.1 2 rfl (rc_mw_0 _ _ _ _)) rfl rfl hl.1 rfl (lv_room (Nat.le_of_ble_eq_true rfl)) dL_law_352 ⟨Nat.le_trans (Nat.add_le_add_right (show cells + 0 ≤ 20000 by omega) _) (Nat.le_of_ble_eq_true rfl), Nat.le_trans (Nat.add_le_add_right (show slots + 0 ≤ 200000 by omega) _) (Nat.le_of_ble_eq_true rfl)⟩) (fun ub H locs hq2 h2w hS => ?_)
  have h2w := h2w.symm
  refine W.widen (k := cells + 0) (n := slots + 0) (by omega) (by omega) ?_
  refine lv_goto (tgt := 381) hx hb dL_law_355 (by decide) ?_
  refine W.widen (k := cells + 10) (n := slots + 1000) (by omega) (by omega) ?_
  exact kk ua ub H locs ls h2w hS hl

set_option maxHeartbeats 4000000 in
set_option maxRecDepth 100000 in
theorem la_out {p : Program} {l : Launch} {e : Env} {s : State} {m : MethodId} {below : List Frame} {meth : Method} {c : Code} {cells slots : Nat} {Q : State → Prop} {G : va_G} {cB cI : ClassId} {A : Nat → Prop} {b L : Nat} {xs : Nat → Int32} (hx : p.tables.exec = Jvm.exec) (hb : c.code = cL_law) (hml : c.maxLocals = 4) (hown : s.vm.findClass "RcFourDeskLaw" = some m.cls) (hts : ∀ w ∈ lw_all, w.before #[Value.ref b] s = true) (hK : va_K G rc_cl (rc_ty cB cI) s) (hA : ∀ q : Nat, s.heap.size ≤ q → A q) (hX : va_X b L xs s s.heap) (hbl : b < s.heap.size) (hbA : ¬ A b) (hL : L ≤ 384) (hc : cells ≤ 10000) (hs : slots ≤ 100000) (h1 h2 : Nat) (ua : rc_DA) (ub : rc_MA) (σ : rc_PS) (hσ : rc_ok σ) (i : Nat) (hi : i + 6 ≤ L)
    (kk : ∀ (ua : rc_DA) (ub : rc_MA) (H : Heap) (locs : List Loc) (ls : Array Slot), rc_two G A (rc_dw cB h1 ua σ) (rc_mw cI h2 ub σ) H → va_S A s.heap H locs → lv_has ls 4 [(0, .ref b), (1, .ref h1), (2, .ref h2), (3, .int (nI i))] → W p l e room_1 s m #[Value.ref b] below meth c H locs (cells + 10) (slots + 1000) Q (F0 m 381 ls [])) :
    ∀ (H : Heap) (locs : List Loc) (ls : Array Slot), rc_two G A (rc_dw cB h1 ua σ) (rc_mw cI h2 ub σ) H → va_S A s.heap H locs → lv_has ls 4 [(0, .ref b), (1, .ref h1), (2, .ref h2), (3, .int (nI i))] → W p l e room_1 s m #[Value.ref b] below meth c H locs cells slots Q (F0 m 358 ls []) := by
  intro H locs ls h2w hS hl
  refine lv_aload_n hx hb dL_law_358 rfl (lv_at hl 1 rfl) ?_
  refine lv_aload_n hx hb dL_law_359 rfl (lv_at hl 0 rfl) ?_
  refine lv_iload_n hx hb dL_law_360 rfl (lv_at hl 3 rfl) ?_
  refine lv_iconst (v := 1) hx hb dL_law_361 (by decide) ?_
  refine lv_iadd hx hb dL_law_362 ?_
  refine rc_ti (y := nI (i + 1)) (nI_add i 1) ?_
  refine rc_sl hx hb hX hbl hbA hS (i + 1) rfl (by omega) (by omega) dL_law_363 ?_
  refine rc_Li h2w hS hA (va_runV (As := [.int (xs (i + 1))]) (rest := []) ⟨hx, hb, hml, hown, hts⟩ (dk_out l G cB cI h1 _ ua σ hσ (xs (i + 1))) (cwV 1 hts (lw_V q269 q270 q271 q9 q272) rfl rfl rfl (by decide +kernel) ⟨Nat.le_of_ble_eq_true rfl, Nat.le_of_ble_eq_true rfl⟩) (rc_preA hK h2w.1 h2w.2.2.1 0 rfl (rc_dw_0 _ _ _ _)) rfl rfl hl.1 rfl (lv_room (Nat.le_of_ble_eq_true rfl)) dL_law_364 ⟨Nat.le_trans (Nat.add_le_add_right (show cells ≤ 20000 by omega) _) (Nat.le_of_ble_eq_true rfl), Nat.le_trans (Nat.add_le_add_right (show slots ≤ 200000 by omega) _) (Nat.le_of_ble_eq_true rfl)⟩) (fun r1 ua H locs hq1 h2w hS => ?_)
  refine rc_ti (y := rc_rout (xs (i + 1)) σ) (hq1) ?_
  refine W.widen (k := cells + 0) (n := slots + 0) (by omega) (by omega) ?_
  refine lv_aload_n hx hb dL_law_367 rfl (lv_at hl 2 rfl) ?_
  refine lv_aload_n hx hb dL_law_368 rfl (lv_at hl 0 rfl) ?_
  refine lv_iload_n hx hb dL_law_369 rfl (lv_at hl 3 rfl) ?_
  refine lv_iconst (v := 1) hx hb dL_law_370 (by decide) ?_
  refine lv_iadd hx hb dL_law_371 ?_
  refine rc_ti (y := nI (i + 1)) (nI_add i 1) ?_
  refine rc_sl hx hb hX hbl hbA hS (i + 1) rfl (by omega) (by omega) dL_law_372 ?_
  refine rc_Li h2w.symm hS hA (va_runV (As := [.int (xs (i + 1))]) (rest := [.int (rc_rout (xs (i + 1)) σ)]) ⟨hx, hb, hml, hown, hts⟩ (ml_out l G cB cI h2 _ ub σ hσ (xs (i + 1))) (cwV 1 hts (lw_V q360 q361 q362 q11 q363) rfl rfl rfl (by decide +kernel) ⟨Nat.le_of_ble_eq_true rfl, Nat.le_of_ble_eq_true rfl⟩) (rc_preA hK h2w.2.1 h2w.2.2.2.1 2 rfl (rc_mw_0 _ _ _ _)) rfl rfl hl.1 rfl (lv_room (Nat.le_of_ble_eq_true rfl)) dL_law_373 ⟨Nat.le_trans (Nat.add_le_add_right (show cells + 0 ≤ 20000 by omega) _) (Nat.le_of_ble_eq_true rfl), Nat.le_trans (Nat.add_le_add_right (show slots + 0 ≤ 200000 by omega) _) (Nat.le_of_ble_eq_true rfl)⟩) (fun r2 ub H locs hq2 h2w hS => ?_)
  have h2w := h2w.symm
  refine rc_ti (y := rc_rout (xs (i + 1)) σ) (hq2) ?_
  refine W.widen (k := cells + 0) (n := slots + 0) (by omega) (by omega) ?_
  refine lv_icmp_eq (tgt := 381) hx hb dL_law_376 (by decide) (fun _ => ?_) (fun h9 => absurd (rfl) h9)
  refine W.widen (k := cells + 10) (n := slots + 1000) (by omega) (by omega) ?_
  exact kk ua ub H locs ls h2w hS hl
end
section
/-! THE CLAIM OUT OF ONE WALK OF THE LAW'S BODY. Your part is whole_start (and what it stands on); all else here is the same for every law, but numbers. -/
def R_law : String := "RcFourDeskLaw"
def lw_P (b : Addr) (xs : List Int32) (args : Array Value) (s : State) : Prop := args = #[.ref b] ∧ s.IntsAt b xs ∧ xs.length ≤ 384 ∧ (Jvm.Cond.and given_1 narrow_1).before args s = true
def lw_Q (_ : Array Value) (s : State) (o : Outcome) (t : State) : Prop := o = .returned (some (.int 1)) ∧ Framed s o t [] 600128 7301098
def lw_Z (below : List Frame) (a : Array Value) (s : State) : State → Prop := fun t => ∃ o, t.status = .running ∧ Ended t below o ∧ lw_Q a s o t
/-- the law's own end, with 1 on the stack, nothing written that was there before, its room as the claim has it -/
theorem lw_ret {p : Program} {l : Launch} {e : Env} {s : State} {m : MethodId} {below : List Frame} {meth : Method} {c : Code} {b : Nat} (hx : p.tables.exec = Jvm.exec) (hb : c.code = code) (hr : meth.sig.returnType = ret) (hlocks : meth.locks = false) {pc : Nat} {H : Heap} {ls : Array Slot} (hdg : decode code pc = .ok (.ireturn, 1)) : W p l e room_1 s m #[Value.ref b] below meth c H [] 600128 7301098 (lw_Z below #[Value.ref b] s) (F0 m pc ls [.int 1]) := by
  intro T hT X
  obtain ⟨fs, hret, hrun, hended, hW, hframe⟩ := X.leave (v := some (.int 1)) (hlocks := hlocks) (fun h => by rw [hr] at h; cases h)
  have hmeth' : T.vm.method? m = some meth := X.method'
  refine ⟨T.setFrames fs, ?_, .returned (some (.int 1)), hrun, hended, rfl, ⟨_, rfl⟩, hW, hframe⟩
  jvm_step X.here [X.here.top, hx, hb, hdg, hmeth', hr, ret, narrow_b1]
  (try refine ⟨rfl, ?_⟩); (try refine ⟨rfl, ?_⟩)
  first | (intro acts; rw [hret _ acts rfl rfl rfl]) | rw [hret _ _ rfl rfl rfl]
  exact Steps.refl _
/-- what holds at the law's entry: the machine, the code, the tables' words (any of lw_tbl by 'hts w (by decide +kernel)'), the script of L ints xs at the cell b, what the Statement gives of the start (any of its parts by flat_of_before) -/
def lw_At (p : Program) (s : State) (m : MethodId) (meth : Method) (c : Code) (b L : Nat) (xs : Nat → Int32) : Prop :=
  p.tables.exec = Jvm.exec ∧ c.code = code ∧ meth.sig.returnType = ret ∧ c.maxLocals = 4 ∧ s.vm.findClass R_law = some m.cls ∧ (∀ w ∈ lw_tbl, w.before #[Value.ref b] s = true) ∧ va_X b L xs s s.heap ∧ b < s.heap.size ∧ meth.locks = false ∧ (Jvm.Cond.and given_1 narrow_1).before #[Value.ref b] s = true
/-! THE LAW: its loop -/
set_option maxHeartbeats 4000000 in
set_option maxRecDepth 100000 in
/-- the end of a round: i grows by six -/
theorem la_next {p : Program} {l : Launch} {e : Env} {s : State} {m : MethodId} {below : List Frame} {meth : Method} {c : Code} {cells slots : Nat} {Q : State → Prop} {b : Nat} (hx : p.tables.exec = Jvm.exec) (hb : c.code = cL_law) {H : Heap} {locs : List Loc} {h1 h2 i : Nat} {ls : Array Slot} (hl : lv_has ls 4 [(0, .ref b), (1, .ref h1), (2, .ref h2), (3, .int (nI i))])
    (kk : ∀ ls : Array Slot, lv_has ls 4 [(0, .ref b), (1, .ref h1), (2, .ref h2), (3, .int (nI (i + 6)))] → W p l e room_1 s m #[Value.ref b] below meth c H locs cells slots Q (F0 m 18 ls [])) : W p l e room_1 s m #[Value.ref b] below meth c H locs cells slots Q (F0 m 381 ls []) := by
  refine lv_iinc (v := nI (i + 6)) (lv' := [(3, .int (nI (i + 6))), (0, .ref b), (1, .ref h1), (2, .ref h2)]) hx hb dL_law_381 hl (k := 3) rfl (nI_add i 6) (by decide) rfl (fun ls hl => ?_)
  refine lv_goto (tgt := 18) hx hb dL_law_384 (by decide) ?_
  exact kk ls (lv_sub hl [1, 2, 3, 0] rfl)
set_option maxHeartbeats 4000000 in
set_option maxRecDepth 100000 in
theorem la_loop {p : Program} {l : Launch} {e : Env} {s : State} {m : MethodId} {below : List Frame} {meth : Method} {c : Code} {G : va_G} {cB cI : ClassId} {b L : Nat} {xs : Nat → Int32} (hL : L ≤ 384) (C0 : lw_At p s m meth c b L xs) (hK : va_K G rc_cl (rc_ty cB cI) s) (h1 h2 : Nat) :
    ∀ (d j : Nat), 6 * j ≤ L → L < 6 * j + 6 * d + 6 → ∀ (ua : rc_DA) (ub : rc_MA) (σ : rc_PS), rc_ok σ → ∀ (H : Heap) (locs : List Loc) (ls : Array Slot), rc_two G (fun q : Nat => s.heap.size ≤ q) (rc_dw cB h1 ua σ) (rc_mw cI h2 ub σ) H → va_S (fun q : Nat => s.heap.size ≤ q) s.heap H locs → lv_has ls 4 [(0, .ref b), (1, .ref h1), (2, .ref h2), (3, .int (nI (6 * j)))] → W p l e room_1 s m #[Value.ref b] below meth c H locs (20 + 10 * j) (2000 + 1000 * j) (lw_Z below #[Value.ref b] s) (F0 m 18 ls []) := by
  obtain ⟨hx, hb, hr, hml, hown, hts0, hX, hbl, hlocks, hgv⟩ := C0
  have hb : c.code = cL_law := hb
  have hown : s.vm.findClass "RcFourDeskLaw" = some m.cls := hown
  have hts : ∀ w ∈ lw_all, w.before #[Value.ref b] s = true := fun w h => hts0 w (lw_all_tbl h)
  have hA : ∀ q : Nat, s.heap.size ≤ q → (fun q : Nat => s.heap.size ≤ q) q := fun _ h => h
  have hbA : ¬ (fun q : Nat => s.heap.size ≤ q) b := Nat.not_le.mpr hbl
  intro d
  induction d with
  | zero =>
    intro j hj hd ua ub σ hσ H locs ls h2w hS hl
    refine lv_iload_n hx hb dL_law_18 rfl (lv_at hl 3 rfl) ?_
    refine lv_aload_n hx hb dL_law_19 rfl (lv_at hl 0 rfl) ?_
    refine va_slen hx hb hX hbl hbA hS dL_law_20 ?_
    refine lv_bipush (v := 6) hx hb dL_law_21 (by decide) ?_
    refine lv_isub hx hb dL_law_23 ?_
    refine lv_icmp_gt (tgt := 387) hx hb dL_law_24 (by decide) (fun _ => ?_) (fun h9 => absurd ((rc_lc (by omega) (by omega)).mpr (by omega)) h9)
    refine lv_iconst (v := 1) hx hb dL_law_387 (by decide) ?_
    refine va_forget (fun q hq => hS.2.2 q hq) ?_
    refine W.widen (k := 600128) (n := 7301098) (Nat.le_trans (show 20 + 10 * j ≤ 10000 by omega) (Nat.le_of_ble_eq_true rfl)) (Nat.le_trans (show 2000 + 1000 * j ≤ 100000 by omega) (Nat.le_of_ble_eq_true rfl)) ?_
    exact lw_ret hx hb hr hlocks dL_law_388
  | succ d ih =>
    intro j hj hd ua ub σ hσ H locs ls h2w hS hl
    refine lv_iload_n hx hb dL_law_18 rfl (lv_at hl 3 rfl) ?_
    refine lv_aload_n hx hb dL_law_19 rfl (lv_at hl 0 rfl) ?_
    refine va_slen hx hb hX hbl hbA hS dL_law_20 ?_
    refine lv_bipush (v := 6) hx hb dL_law_21 (by decide) ?_
    refine lv_isub hx hb dL_law_23 ?_
    refine lv_icmp_gt (tgt := 387) hx hb dL_law_24 (by decide) (fun c1 => ?_) (fun c1 => ?_)
    · refine lv_iconst (v := 1) hx hb dL_law_387 (by decide) ?_
      refine va_forget (fun q hq => hS.2.2 q hq) ?_
      refine W.widen (k := 600128) (n := 7301098) (Nat.le_trans (show 20 + 10 * j ≤ 10000 by omega) (Nat.le_of_ble_eq_true rfl)) (Nat.le_trans (show 2000 + 1000 * j ≤ 100000 by omega) (Nat.le_of_ble_eq_true rfl)) ?_
      exact lw_ret hx hb hr hlocks dL_law_388
    · have hi : 6 * j + 6 ≤ L := Nat.not_lt.mp (fun z => c1 ((rc_lc (by omega) (by omega)).mpr z))
      have hn : ∀ (ua : rc_DA) (ub : rc_MA) (σ : rc_PS), rc_ok σ → ∀ (H : Heap) (locs : List Loc) (ls : Array Slot), rc_two G (fun q : Nat => s.heap.size ≤ q) (rc_dw cB h1 ua σ) (rc_mw cI h2 ub σ) H → va_S (fun q : Nat => s.heap.size ≤ q) s.heap H locs → lv_has ls 4 [(0, .ref b), (1, .ref h1), (2, .ref h2), (3, .int (nI (6 * j)))] → W p l e room_1 s m #[Value.ref b] below meth c H locs (20 + 10 * j + 10) (2000 + 1000 * j + 1000) (lw_Z below #[Value.ref b] s) (F0 m 381 ls []) := fun ua ub σ hσ H locs ls h2w hS hl => la_next hx hb hl (fun ls hl => W.widen (k := 20 + 10 * (j + 1)) (n := 2000 + 1000 * (j + 1)) (by omega) (by omega) (ih (j + 1) (by omega) (by omega) ua ub σ hσ H locs ls h2w hS (by rw [show 6 * (j + 1) = 6 * j + 6 from by omega]; exact hl)))
      refine lv_aload_n hx hb dL_law_27 rfl (lv_at hl 0 rfl) ?_
      refine lv_iload_n hx hb dL_law_28 rfl (lv_at hl 3 rfl) ?_
      refine rc_sl hx hb hX hbl hbA hS (6 * j) rfl (by omega) (by omega) dL_law_29 ?_
      refine lv_bipush (v := 15) hx hb dL_law_30 (by decide) ?_
      refine lv_iand hx hb dL_law_32 ?_
      refine rc_ti (y := nI ((xs (6 * j)).toBitVec.toNat % 16)) (rc_and15 _) ?_
      have hv : (xs (6 * j)).toBitVec.toNat % 16 < 16 := Nat.mod_lt _ (by decide)
      generalize (xs (6 * j)).toBitVec.toNat % 16 = v at hv ⊢
      rcases Nat.lt_or_ge v 9 with hv9 | hv9
      · rcases (show v = 0 ∨ v = 1 ∨ v = 2 ∨ v = 3 ∨ v = 4 ∨ v = 5 ∨ v = 6 ∨ v = 7 ∨ v = 8 by omega) with rfl | rfl | rfl | rfl | rfl | rfl | rfl | rfl | rfl
        · refine lv_tableIn (off := 51) (tgt := 84) hx hb dL_law_33 (by decide +kernel) (by decide +kernel) (by decide +kernel) (by decide) ?_
          exact la_put hx hb hml hown hts hK hA hX hbl hbA hL (by omega) (by omega) h1 h2 ua ub σ hσ (6 * j) hi (fun ua ub H locs ls => hn ua ub _ (rc_ok_put _ _ _ _ hσ) H locs ls) H locs ls h2w hS hl
        · refine lv_tableIn (off := 104) (tgt := 137) hx hb dL_law_33 (by decide +kernel) (by decide +kernel) (by decide +kernel) (by decide) ?_
          exact la_trim hx hb hml hown hts hK hA hX hbl hbA hL (by omega) (by omega) h1 h2 ua ub σ hσ (6 * j) hi (fun ua ub H locs ls => hn ua ub _ (rc_ok_trim _ hσ) H locs ls) H locs ls h2w hS hl
        · refine lv_tableIn (off := 125) (tgt := 158) hx hb dL_law_33 (by decide +kernel) (by decide +kernel) (by decide +kernel) (by decide) ?_
          exact la_key hx hb hml hown hts hK hA hX hbl hbA hL (by omega) (by omega) h1 h2 ua ub σ hσ (6 * j) hi (fun ua ub H locs ls => hn ua ub _ (rc_ok_key _ _ _ _ _ hσ) H locs ls) H locs ls h2w hS hl
        · refine lv_tableIn (off := 186) (tgt := 219) hx hb dL_law_33 (by decide +kernel) (by decide +kernel) (by decide +kernel) (by decide) ?_
          exact la_nonce hx hb hml hown hts hK hA hX hbl hbA hL (by omega) (by omega) h1 h2 ua ub σ hσ (6 * j) hi (fun ua ub H locs ls => hn ua ub _ (hσ) H locs ls) H locs ls h2w hS hl
        · refine lv_tableIn (off := 237) (tgt := 270) hx hb dL_law_33 (by decide +kernel) (by decide +kernel) (by decide +kernel) (by decide) ?_
          exact la_begin hx hb hml hown hts hK hA hX hbl hbA hL (by omega) (by omega) h1 h2 ua ub σ hσ (6 * j) hi (fun ua ub H locs ls => hn ua ub _ (rc_ok_begin _ hσ) H locs ls) H locs ls h2w hS hl
        · refine lv_tableIn (off := 258) (tgt := 291) hx hb dL_law_33 (by decide +kernel) (by decide +kernel) (by decide +kernel) (by decide) ?_
          exact la_run hx hb hml hown hts hK hA hX hbl hbA hL (by omega) (by omega) h1 h2 ua ub σ hσ (6 * j) hi (fun ua ub H locs ls => hn ua ub _ (rc_ok_run _ _ hσ) H locs ls) H locs ls h2w hS hl
        · refine lv_tableIn (off := 291) (tgt := 324) hx hb dL_law_33 (by decide +kernel) (by decide +kernel) (by decide +kernel) (by decide) ?_
          exact la_one hx hb hml hown hts hK hA hX hbl hbA hL (by omega) (by omega) h1 h2 ua ub σ hσ (6 * j) hi (fun ua ub H locs ls => hn ua ub _ (rc_ok_one hσ) H locs ls) H locs ls h2w hS hl
        · refine lv_tableIn (off := 314) (tgt := 347) hx hb dL_law_33 (by decide +kernel) (by decide +kernel) (by decide +kernel) (by decide) ?_
          exact la_again hx hb hml hown hts hK hA hX hbl hbA hL (by omega) (by omega) h1 h2 ua ub σ hσ (6 * j) hi (fun ua ub H locs ls => hn ua ub _ (rc_ok_again hσ) H locs ls) H locs ls h2w hS hl
        · refine lv_tableIn (off := 325) (tgt := 358) hx hb dL_law_33 (by decide +kernel) (by decide +kernel) (by decide +kernel) (by decide) ?_
          exact la_out hx hb hml hown hts hK hA hX hbl hbA hL (by omega) (by omega) h1 h2 ua ub σ hσ (6 * j) hi (fun ua ub H locs ls => hn ua ub _ (hσ) H locs ls) H locs ls h2w hS hl
      · refine lv_tableOut (tgt := 381) hx hb dL_law_33 (Or.inr (by rw [nI_toInt (n := v) (rc_big (by omega))]; omega)) (by decide) ?_
        refine W.widen (by omega) (by omega) (hn ua ub σ hσ H locs ls h2w hS hl)
end
section
theorem rc_apart {A : Nat → Prop} {wa wb : va_W} (h : va_D A (wa ++ wb)) : ∀ p ∈ wa, ∀ q ∈ wb, p.1 ≠ q.1 := by
  intro p hp q hq e
  obtain ⟨i, hi⟩ := List.getElem?_of_mem hp
  obtain ⟨j, hj⟩ := List.getElem?_of_mem hq
  have hil := (List.getElem?_eq_some_iff.mp hi).1
  have h1 : (wa ++ wb)[i]? = some p := by rw [List.getElem?_append_left hil]; exact hi
  have h2 : (wa ++ wb)[wa.length + j]? = some q := by
    rw [List.getElem?_append_right (Nat.le_add_right _ _), Nat.add_sub_cancel_left]
    exact hj
  have := h.1 i (wa.length + j) p q h1 h2 e
  omega
set_option maxHeartbeats 4000000 in
set_option maxRecDepth 100000 in
theorem whole_start {p : Program} {e : Env} {s : State} {m : MethodId} {below : List Frame} {meth : Method} {c : Code} (l : Launch) (hflags : l.flags = flags0) {b L : Nat} {xs : Nat → Int32} (hL : L ≤ 384) (C0 : lw_At p s m meth c b L xs) : W p l e room_1 s m #[Value.ref b] below meth c s.heap [] 0 0 (lw_Z below #[Value.ref b] s) (entryFrame m ([Value.ref b] : List Value).toArray 4) := by
  obtain ⟨hx, hb, hr, hml, hown, hts0, hX, hbl, hlocks, hgv⟩ := id C0
  have hb : c.code = cL_law := hb
  have hown : s.vm.findClass "RcFourDeskLaw" = some m.cls := hown
  have hts : ∀ w ∈ lw_all, w.before #[Value.ref b] s = true := fun w h => hts0 w (lw_all_tbl h)
  obtain ⟨c0_, iS0, hKn0⟩ := u_known (C := RX0) (T := TX0) (N := 8) (n := 8) hts in_X0 (hts _ q22)
  obtain ⟨c1_, iS1, hKn1⟩ := u_known (C := RX1) (T := TX1) (N := 5) (n := 5) hts in_X1 (hts _ q30)
  obtain ⟨c2_, iS2, hKn2⟩ := u_known (C := RX2) (T := TX2) (N := 9) (n := 9) hts in_X2 (hts _ q274)
  obtain ⟨c3_, iS3, hKn3⟩ := u_known (C := RX3) (T := TX3) (N := 1) (n := 1) hts in_X3 (hts _ q106)
  obtain ⟨cB, kB, compB, fB, gB, eB⟩ := Cond.arrayClass_spec (hts _ q76)
  obtain ⟨cI, kI, compI, fI, gI, eI⟩ := Cond.arrayClass_spec (hts _ q307)
  obtain ⟨G, hKc⟩ : ∃ G : va_G, ∀ (k : Nat) (q : vw_C), rc_cl[k]? = some q → u_Kn s q.1 q.2.1 q.2.2 (G.1 k) (G.2 k) := by
    refine ⟨(fun k => if k = 0 then c0_ else if k = 1 then c1_ else if k = 2 then c2_ else c3_, fun k => if k = 0 then iS0 else if k = 1 then iS1 else if k = 2 then iS2 else iS3), ?_⟩
    intro k q hq
    match k, hq with
    | 0, hq => cases hq; exact hKn0
    | 1, hq => cases hq; exact hKn1
    | 2, hq => cases hq; exact hKn2
    | 3, hq => cases hq; exact hKn3
    | k + 4, hq => simp [rc_cl] at hq
  have hK : va_K G rc_cl (rc_ty cB cI) s := by
    refine ⟨hKc, fun k q h => ?_⟩
    match k, h with
    | 0, h => cases h; exact ⟨fun n z => ⟨fun k h => (by cases h), kB, gB, compB, eB⟩, fB⟩
    | 1, h => cases h; exact ⟨fun n z => ⟨fun k h => (by cases h), kI, gI, compI, eI⟩, fI⟩
    | k + 2, h => simp at h
  obtain ⟨A, hAe⟩ : ∃ A : Nat → Prop, A = fun q : Nat => s.heap.size ≤ q := ⟨_, rfl⟩
  have hA : ∀ q : Nat, s.heap.size ≤ q → A q := fun q h => by rw [hAe]; exact h
  have hS : va_S A s.heap s.heap [] := va_S.rf
  have hP : va_P G rc_cl [] s.heap := fun k q h => by simp at h
  have hD : va_D A [] := ⟨fun i j p q h => by simp at h, fun k q h => by simp at h⟩
  have hl := lv_entry ([.ref b]) (n := 4) (Nat.le_of_ble_eq_true rfl)
  rw [lg_entry_eq]
  generalize (lg_sl ([.ref b]) ++ List.replicate (4 - (lg_sl ([.ref b])).length) Slot.unset).toArray = ls at hl ⊢
  have hl : lv_has ls 4 [(0, .ref b)] := hl
  refine va_new (ci := 0) (fs := [.null, .int 0, .int 0, .null, .null, .null, .int 0, .null]) (C := RX0) (T := TX0) (N := 8) hx hb hts in_X0 tyX0 tyX0_ok hown (hts _ q21) (hts _ q22) (hts _ q9) hK hP hD hS hA rfl (fun j hj => by rcases (show j = 0 ∨ j = 1 ∨ j = 2 ∨ j = 3 ∨ j = 4 ∨ j = 5 ∨ j = 6 ∨ j = 7 by omega) with rfl | rfl | rfl | rfl | rfl | rfl | rfl | rfl <;> rfl) (Nat.le_of_ble_eq_true rfl) (Nat.le_of_ble_eq_true rfl) dL_law_0 (fun h1 H hP hD hS => ?_)
  have hP : va_P G rc_cl [(h1, .inr (0, [.null, .int 0, .int 0, .null, .null, .null, .int 0, .null]))] H := hP
  have hD : va_D A [(h1, .inr (0, [.null, .int 0, .int 0, .null, .null, .null, .int 0, .null]))] := hD
  refine W.widen (k := 1) (n := 8) (by omega) (by omega) ?_
  refine lv_dup hx hb dL_law_3 rfl ?_
  refine rc_cv (wc := [(h1, .inr (0, [.null, .int 0, .int 0, .null, .null, .null, .int 0, .null]))]) (wr := []) [0] [] rfl rfl rfl (by decide) hP hD hS hA (va_runI (As := []) (rest := [.ref h1]) ⟨hx, hb, hml, hown, hts⟩ (metX0_init l G cB cI h1 _) (cwI 0 hts (lw_meth q25) rfl rfl rfl (hts _ q9) (hts _ q23) (hts _ q24) rfl (by decide +kernel) ⟨Nat.le_of_ble_eq_true rfl, Nat.le_of_ble_eq_true rfl⟩) (rc_pre hK hP hD [0] rfl rfl) rfl rfl hl.1 rfl (lv_room (Nat.le_of_ble_eq_true rfl)) dL_law_4 ⟨Nat.le_of_ble_eq_true rfl, Nat.le_of_ble_eq_true rfl⟩) (fun ua H locs hq hP hD hS => ?_)
  have hP : va_P G rc_cl [(h1, .inr (0, [.ref ua.1, .int 0, .int 0, .ref ua.2.1, .ref ua.2.2.1, .ref ua.2.2.2.1, .int 0, .ref ua.2.2.2.2])), (ua.2.1, rc_ab cB 32 (fun _ => 0)), (ua.2.2.1, rc_ab cB 16 (fun _ => 0)), (ua.2.2.2.1, rc_ab cB 256 (fun _ => 0)), (ua.2.2.2.2, rc_ab cB 0 (fun _ => 0))] H := hP
  have hD : va_D A [(h1, .inr (0, [.ref ua.1, .int 0, .int 0, .ref ua.2.1, .ref ua.2.2.1, .ref ua.2.2.2.1, .int 0, .ref ua.2.2.2.2])), (ua.2.1, rc_ab cB 32 (fun _ => 0)), (ua.2.2.1, rc_ab cB 16 (fun _ => 0)), (ua.2.2.2.1, rc_ab cB 256 (fun _ => 0)), (ua.2.2.2.2, rc_ab cB 0 (fun _ => 0))] := hD
  refine W.widen (k := 6) (n := 317) (by omega) (by omega) ?_
  refine lv_astore_n (lv' := [(1, .ref h1), (0, .ref b)]) hx hb dL_law_7 rfl hl (by decide) rfl (fun ls hl => ?_)
  refine va_new (ci := 2) (fs := [.null, .null, .int 0, .null, .null, .int 0, .null, .int 0, .int 0]) (C := RX2) (T := TX2) (N := 9) hx hb hts in_X2 tyX2 tyX2_ok hown (hts _ q273) (hts _ q274) (hts _ q11) hK hP hD hS hA rfl (fun j hj => by rcases (show j = 0 ∨ j = 1 ∨ j = 2 ∨ j = 3 ∨ j = 4 ∨ j = 5 ∨ j = 6 ∨ j = 7 ∨ j = 8 by omega) with rfl | rfl | rfl | rfl | rfl | rfl | rfl | rfl | rfl <;> rfl) (Nat.le_of_ble_eq_true rfl) (Nat.le_of_ble_eq_true rfl) dL_law_8 (fun h2 H hP hD hS => ?_)
  have hP : va_P G rc_cl [(h1, .inr (0, [.ref ua.1, .int 0, .int 0, .ref ua.2.1, .ref ua.2.2.1, .ref ua.2.2.2.1, .int 0, .ref ua.2.2.2.2])), (ua.2.1, rc_ab cB 32 (fun _ => 0)), (ua.2.2.1, rc_ab cB 16 (fun _ => 0)), (ua.2.2.2.1, rc_ab cB 256 (fun _ => 0)), (ua.2.2.2.2, rc_ab cB 0 (fun _ => 0)), (h2, .inr (2, [.null, .null, .int 0, .null, .null, .int 0, .null, .int 0, .int 0]))] H := hP
  have hD : va_D A [(h1, .inr (0, [.ref ua.1, .int 0, .int 0, .ref ua.2.1, .ref ua.2.2.1, .ref ua.2.2.2.1, .int 0, .ref ua.2.2.2.2])), (ua.2.1, rc_ab cB 32 (fun _ => 0)), (ua.2.2.1, rc_ab cB 16 (fun _ => 0)), (ua.2.2.2.1, rc_ab cB 256 (fun _ => 0)), (ua.2.2.2.2, rc_ab cB 0 (fun _ => 0)), (h2, .inr (2, [.null, .null, .int 0, .null, .null, .int 0, .null, .int 0, .int 0]))] := hD
  refine W.widen (k := 7) (n := 326) (by omega) (by omega) ?_
  refine lv_dup hx hb dL_law_11 rfl ?_
  refine rc_cv (wc := [(h2, .inr (2, [.null, .null, .int 0, .null, .null, .int 0, .null, .int 0, .int 0]))]) (wr := [(h1, .inr (0, [.ref ua.1, .int 0, .int 0, .ref ua.2.1, .ref ua.2.2.1, .ref ua.2.2.2.1, .int 0, .ref ua.2.2.2.2])), (ua.2.1, rc_ab cB 32 (fun _ => 0)), (ua.2.2.1, rc_ab cB 16 (fun _ => 0)), (ua.2.2.2.1, rc_ab cB 256 (fun _ => 0)), (ua.2.2.2.2, rc_ab cB 0 (fun _ => 0))]) [5] [0, 1, 2, 3, 4] rfl rfl rfl (by decide) hP hD hS hA (va_runI (As := []) (rest := [.ref h2]) ⟨hx, hb, hml, hown, hts⟩ (metX2_init l G cB cI h2 _) (cwI 0 hts (lw_meth q277) rfl rfl rfl (hts _ q11) (hts _ q275) (hts _ q276) rfl (by decide +kernel) ⟨Nat.le_of_ble_eq_true rfl, Nat.le_of_ble_eq_true rfl⟩) (rc_pre hK hP hD [5] rfl rfl) rfl rfl hl.1 rfl (lv_room (Nat.le_of_ble_eq_true rfl)) dL_law_12 ⟨Nat.le_of_ble_eq_true rfl, Nat.le_of_ble_eq_true rfl⟩) (fun ub H locs hq hP hD hS => ?_)
  have hP : va_P G rc_cl [(h1, .inr (0, [.ref ua.1, .int 0, .int 0, .ref ua.2.1, .ref ua.2.2.1, .ref ua.2.2.2.1, .int 0, .ref ua.2.2.2.2])), (ua.2.1, rc_ab cB 32 (fun _ => 0)), (ua.2.2.1, rc_ab cB 16 (fun _ => 0)), (ua.2.2.2.1, rc_ab cB 256 (fun _ => 0)), (ua.2.2.2.2, rc_ab cB 0 (fun _ => 0)), (h2, .inr (2, [.ref ub.1, .ref ub.2.1, .int 0, .ref ub.2.2.1, .ref ub.2.2.2.1, .int 0, .ref ub.2.2.2.2, .int 0, .int 0])), (ub.1, rc_ai cI 32 (fun _ => 0)), (ub.2.1, rc_ai cI 256 (fun _ => 0)), (ub.2.2.1, rc_ai cI 0 (fun _ => 0)), (ub.2.2.2.1, rc_ai cI 0 (fun _ => 0)), (ub.2.2.2.2, rc_ai cI 256 (fun _ => 0))] H := hP
  have hD : va_D A [(h1, .inr (0, [.ref ua.1, .int 0, .int 0, .ref ua.2.1, .ref ua.2.2.1, .ref ua.2.2.2.1, .int 0, .ref ua.2.2.2.2])), (ua.2.1, rc_ab cB 32 (fun _ => 0)), (ua.2.2.1, rc_ab cB 16 (fun _ => 0)), (ua.2.2.2.1, rc_ab cB 256 (fun _ => 0)), (ua.2.2.2.2, rc_ab cB 0 (fun _ => 0)), (h2, .inr (2, [.ref ub.1, .ref ub.2.1, .int 0, .ref ub.2.2.1, .ref ub.2.2.2.1, .int 0, .ref ub.2.2.2.2, .int 0, .int 0])), (ub.1, rc_ai cI 32 (fun _ => 0)), (ub.2.1, rc_ai cI 256 (fun _ => 0)), (ub.2.2.1, rc_ai cI 0 (fun _ => 0)), (ub.2.2.2.1, rc_ai cI 0 (fun _ => 0)), (ub.2.2.2.2, rc_ai cI 256 (fun _ => 0))] := hD
  refine W.widen (k := 12) (n := 870) (by omega) (by omega) ?_
  refine lv_astore_n (lv' := [(2, .ref h2), (1, .ref h1), (0, .ref b)]) hx hb dL_law_15 rfl hl (by decide) rfl (fun ls hl => ?_)
  refine lv_iconst (v := 0) hx hb dL_law_16 (by decide) ?_
  refine rc_ti (y := nI (6 * 0)) (nI_0.symm) ?_
  refine lv_istore_n (lv' := [(3, .int (nI (6 * 0))), (2, .ref h2), (1, .ref h1), (0, .ref b)]) hx hb dL_law_17 rfl hl (by decide) rfl (fun ls hl => ?_)
  have hPd := hP.sub [0, 1, 2, 3, 4] (ws' := [(h1, .inr (0, [.ref ua.1, .int 0, .int 0, .ref ua.2.1, .ref ua.2.2.1, .ref ua.2.2.2.1, .int 0, .ref ua.2.2.2.2])), (ua.2.1, rc_ab cB 32 (fun _ => 0)), (ua.2.2.1, rc_ab cB 16 (fun _ => 0)), (ua.2.2.2.1, rc_ab cB 256 (fun _ => 0)), (ua.2.2.2.2, rc_ab cB 0 (fun _ => 0))]) rfl
  have hPm := hP.sub [5, 6, 7, 8, 9, 10] (ws' := [(h2, .inr (2, [.ref ub.1, .ref ub.2.1, .int 0, .ref ub.2.2.1, .ref ub.2.2.2.1, .int 0, .ref ub.2.2.2.2, .int 0, .int 0])), (ub.1, rc_ai cI 32 (fun _ => 0)), (ub.2.1, rc_ai cI 256 (fun _ => 0)), (ub.2.2.1, rc_ai cI 0 (fun _ => 0)), (ub.2.2.2.1, rc_ai cI 0 (fun _ => 0)), (ub.2.2.2.2, rc_ai cI 256 (fun _ => 0))]) rfl
  have hDd := hD.sub [0, 1, 2, 3, 4] (ws' := [(h1, .inr (0, [.ref ua.1, .int 0, .int 0, .ref ua.2.1, .ref ua.2.2.1, .ref ua.2.2.2.1, .int 0, .ref ua.2.2.2.2])), (ua.2.1, rc_ab cB 32 (fun _ => 0)), (ua.2.2.1, rc_ab cB 16 (fun _ => 0)), (ua.2.2.2.1, rc_ab cB 256 (fun _ => 0)), (ua.2.2.2.2, rc_ab cB 0 (fun _ => 0))]) rfl rfl
  have hDm := hD.sub [5, 6, 7, 8, 9, 10] (ws' := [(h2, .inr (2, [.ref ub.1, .ref ub.2.1, .int 0, .ref ub.2.2.1, .ref ub.2.2.2.1, .int 0, .ref ub.2.2.2.2, .int 0, .int 0])), (ub.1, rc_ai cI 32 (fun _ => 0)), (ub.2.1, rc_ai cI 256 (fun _ => 0)), (ub.2.2.1, rc_ai cI 0 (fun _ => 0)), (ub.2.2.2.1, rc_ai cI 0 (fun _ => 0)), (ub.2.2.2.2, rc_ai cI 256 (fun _ => 0))]) rfl rfl
  have hap : ∀ p ∈ [(h1, .inr (0, [.ref ua.1, .int 0, .int 0, .ref ua.2.1, .ref ua.2.2.1, .ref ua.2.2.2.1, .int 0, .ref ua.2.2.2.2])), (ua.2.1, rc_ab cB 32 (fun _ => 0)), (ua.2.2.1, rc_ab cB 16 (fun _ => 0)), (ua.2.2.2.1, rc_ab cB 256 (fun _ => 0)), (ua.2.2.2.2, rc_ab cB 0 (fun _ => 0))], ∀ q ∈ [(h2, .inr (2, [.ref ub.1, .ref ub.2.1, .int 0, .ref ub.2.2.1, .ref ub.2.2.2.1, .int 0, .ref ub.2.2.2.2, .int 0, .int 0])), (ub.1, rc_ai cI 32 (fun _ => 0)), (ub.2.1, rc_ai cI 256 (fun _ => 0)), (ub.2.2.1, rc_ai cI 0 (fun _ => 0)), (ub.2.2.2.1, rc_ai cI 0 (fun _ => 0)), (ub.2.2.2.2, rc_ai cI 256 (fun _ => 0))], p.1 ≠ q.1 := rc_apart (wa := [(h1, .inr (0, [.ref ua.1, .int 0, .int 0, .ref ua.2.1, .ref ua.2.2.1, .ref ua.2.2.2.1, .int 0, .ref ua.2.2.2.2])), (ua.2.1, rc_ab cB 32 (fun _ => 0)), (ua.2.2.1, rc_ab cB 16 (fun _ => 0)), (ua.2.2.2.1, rc_ab cB 256 (fun _ => 0)), (ua.2.2.2.2, rc_ab cB 0 (fun _ => 0))]) (wb := [(h2, .inr (2, [.ref ub.1, .ref ub.2.1, .int 0, .ref ub.2.2.1, .ref ub.2.2.2.1, .int 0, .ref ub.2.2.2.2, .int 0, .int 0])), (ub.1, rc_ai cI 32 (fun _ => 0)), (ub.2.1, rc_ai cI 256 (fun _ => 0)), (ub.2.2.1, rc_ai cI 0 (fun _ => 0)), (ub.2.2.2.1, rc_ai cI 0 (fun _ => 0)), (ub.2.2.2.2, rc_ai cI 256 (fun _ => 0))]) hD
  subst hAe
  refine W.widen (k := 20 + 10 * 0) (n := 2000 + 1000 * 0) (by omega) (by omega) ?_
  exact la_loop hL C0 hK h1 h2 (L + 1) 0 (Nat.zero_le _) (by omega) (ua.1, ua.2.1, ua.2.2.1, ua.2.2.2.1, ua.2.2.2.2, 0, 0, (fun _ => 0)) (ub.1, ub.2.1, ub.2.2.1, ub.2.2.2.1, ub.2.2.2.2) (0, (fun _ => 0), ((fun _ => 0), 0, 0), 0, (fun _ => 0), (fun _ => 0), 0, 0, (fun _ => 0)) ⟨Nat.zero_le _, Nat.zero_le _, Nat.zero_le _, Nat.zero_le _⟩ H locs ls ⟨hPd, hPm, hDd, hDm, hap⟩ hS (lv_sub hl [3, 2, 1, 0] rfl)
end
section
-- ===== YOUR PART ENDS =====
set_option maxHeartbeats 4000000 in
theorem lw_walk (l : Launch) (hflags : l.flags = flags0) (b : Addr) (xs : List Int32) : MetFree l x (headSpec (Jvm.Cond.code x code maxLocals ret :: tables_1) room_1) (lw_P b xs) (fun _ _ _ _ _ => True) lw_Q := by
  refine MetFree.of_bodyS (code := code) (maxLocals := maxLocals) (ret := ret) (by decide) ?_ ?_
  · intro args s m h hn
    obtain ⟨meth, c, h1, h2, h3, h4, h5, h6, -, -⟩ := Cond.code_spec hn (atoms_spec (ws := Jvm.Cond.code x code maxLocals ret :: tables_1) h _ List.mem_cons_self)
    exact ⟨meth, c, h1, h2, h3, h4, h5, h6⟩
  · intro p e s m args below meth c s₁ B hml0 hP _
    obtain ⟨rfl, hx, hbd, hgv⟩ := hP
    obtain ⟨scr, harrAt, hlist, hof, hsmall⟩ := hx
    obtain ⟨hcb, hkn, -, -⟩ := State.arrayAt?_spec harrAt
    have hown : s.vm.findClass R_law = some m.cls := findClass_of_methodNamed B.named
    have hts0 : ∀ c ∈ (Jvm.Cond.code x code maxLocals ret :: tables_1), c.before #[Value.ref b] s = true := atoms_spec (ws := Jvm.Cond.code x code maxLocals ret :: tables_1) B.pre
    have hts : ∀ w ∈ lw_tbl, w.before #[Value.ref b] s = true := k2_hts_sels lw_privs (fun w hw => hts0 w (List.mem_cons_of_mem _ hw)) lw_privs_ok
    have hml : c.maxLocals = 4 := B.maxLocals_eq (hts0 _ List.mem_cons_self)
    have X₀ : Stand p l e room_1 s m #[Value.ref b] below meth c s₁ [] 0 0 := Stand.of_body B
    have hh0 : s₁.heap = s.heap := by rw [B.state]; rfl
    have hsz : scr.slots.size = xs.length := by rw [← Array.length_toList, hlist, List.length_map]
    have hval : ∀ j : Nat, j < xs.length → scr.slots[j]? = some (.int (xs.getD j 0)) := fun j hj => by
      rw [← Array.getElem?_toList, hlist]
      simp [hj]
    have hbl : b < s.heap.size := (Array.getElem?_eq_some_iff.mp hcb).1
    have hX : va_X b xs.length (fun j => xs.getD j 0) s s.heap := ⟨scr, hcb, hof, hkn, hsz, hval⟩
    have K : W p l e room_1 s m #[Value.ref b] below meth c s₁.heap [] 0 0 (lw_Z below #[Value.ref b] s) (entryFrame m ([Value.ref b] : List Value).toArray 4) := by
      rw [hh0]
      exact whole_start l hflags hbd ⟨B.exec, B.bytes, B.returns, hml, hown, hts, hX, hbl, B.notSynchronized, hgv⟩
    obtain ⟨t, a1, o, b1, b2, b3⟩ := K s₁ rfl X₀
    exact ⟨t, o, a1, b1, b2, b3⟩
theorem lw_pre_spec {args : Array Value} {s : State} (h : (Jvm.Cond.and given_1 narrow_1).before args s = true) (hr : rest_1_c.before args s = true) : ∃ (b : Addr) (xs : List Int32), lw_P b xs args s := by
  have hs := flat_of_before _ h
  have hq := flat_of_before _ hr
  have hc : (Cond.count 1).before args s = true := hs _ (by decide +kernel)
  have harr : (Cond.arrayOf (.arg 0) .int).before args s = true := hs _ (by decide +kernel)
  have hle : (Cond.le (.length (.arg 0)) (.int 384)).before args s = true := hs _ (by decide +kernel)
  have hlen : (Cond.isInt (.length (.arg 0))).before args s = true := hq _ (by decide +kernel)
  have hall : (Cond.all (.arg 0) (.isInt (.elem (.arg 0) (.index 0)))).before args s = true := hq _ (by decide +kernel)
  obtain ⟨b, xs, hb, hx⟩ := State.ints_of_pre rfl harr hlen hall
  have hsm : xs.length < 2 ^ 31 := hx.choose_spec.2.2.2
  have hev : (Term.length (.arg 0)).eval args s none [] s = some (.int xs.length.toInt32) := hx.length_eval hb
  have hv := Cond.le_ints hev (show (Term.int 384).eval args s none [] s = some (.int 384) from rfl)
  have hd : xs.length.toInt32 ≤ 384 := by
    simpa [Cond.before, Cond.holds, hv] using hle
  have hN : xs.length ≤ 384 := (Int32.ofNat_le_ofNat hsm (by decide)).mp (show Int32.ofNat xs.length ≤ Int32.ofNat 384 from hd)
  exact ⟨b, xs, Cond.one_arg hc (show args[0]? = some (.ref b) from hb), hx, hN, h⟩
theorem lw_comes (l : Launch) (hflags : l.flags = flags0) : Comes l x (Jvm.Cond.code x code maxLocals ret :: tables_1) room_1 (fun tb e args s => Calls_1 tb e args s ∧ rest_1 tb e args s ∧ Pre_1 tb e args s)
    (fun _ _ args s o t => lw_Q args s o t) := by
  intro p e ha hc hk s m args below hf hfit hheap happ hpre
  obtain ⟨b, xs, hP⟩ := lw_pre_spec hpre.2.2 hpre.2.1
  obtain ⟨k, o, h1, h2, h3, hQ⟩ := lw_walk l hflags b xs p e ha hc hk s m args below hf ((Spec.applies_iff_loose hf).mp happ).1 hP trivial
  exact ⟨k, o, h1, h2, h3, hQ⟩
theorem lw_frame {s t : State} {o : Outcome} {args : Array Value} (h : Framed s o t [] 600128 7301098) :
    Framed s o t (fieldLocs frame_1_writes args s ++ arrayLocs frame_1_arrays args s ++ staticLocs frame_1_statics s) 600128 7301098 := h
theorem lw_limb (L : Cond) (hL : ∀ (args : Array Value) (s t : State), L.after args s (.returned (some (.int 1))) t = true) :
    ArmFor flags0 classFile x code maxLocals ret World_1 tables_1 room_1 Calls_1 rest_1 Pre_1
      (fun tb e a s o t => postC L tb e a s o t ∧ Framed s o t (fieldLocs frame_1_writes a s ++ arrayLocs frame_1_arrays a s ++ staticLocs frame_1_statics s) 600128 7301098) := by
  intro l hflags _ _ p e ha hc hk s m args below hf hfit hheap happ hpre
  obtain ⟨k, o, h1, h2, h3, rfl, hF⟩ := lw_comes l hflags p e ha hc hk s m args below hf hfit hheap happ hpre
  exact ⟨k, _, h1, h2, h3, hL args s _, lw_frame hF⟩
theorem i_vc : Claimed_1_1 ∧ Claimed_1_2 := ⟨lw_limb limb_1_1 (fun args s t => by simp [limb_1_1, Cond.after, Cond.holds, Cond.value]), lw_limb limb_1_2 (fun args s t => Cond.after_iff.mpr (by
  first | (rw [show limb_1_2 = Cond.eq .result (.int 1) from rfl, Cond.eq_ints (x := 1) (y := 1) rfl rfl]; simp; done) | (simp [limb_1_2, Cond.value, Term.eval]; done)))⟩
end
