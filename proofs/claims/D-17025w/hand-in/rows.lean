section
-- ===== PART A: goes FIRST, ahead of the names: the tables' words, and 'selects' of the private methods out of them =====
/-- a private method of a class that the tables say can be made, by its rows of tables_1 -/
def lw_okq (q : MethodName × Nat) : Prop := (q.1.cls ≠ "java/lang/invoke/MethodHandle" ∧ q.1.cls ≠ "java/lang/invoke/VarHandle") ∧ Cond.instantiable q.1.cls q.2 ∈ tables_1 ∧ Cond.privateMethod q.1 ∈ tables_1 ∧ Cond.instanceMethod q.1 ∈ tables_1
set_option maxRecDepth 100000
theorem lw_t1 {w : Cond} (h : w ∈ tables_1_1) : w ∈ tables_1 := List.mem_append_left _ h
theorem lw_t2 {w : Cond} (h : w ∈ tables_1_2) : w ∈ tables_1 := List.mem_append_right _ h
theorem lw_p0 : lw_okq (⟨"java/lang/Throwable", "fillInStackTrace", "(I)Ljava/lang/Throwable;"⟩, 6) := ⟨⟨by decide +kernel, by decide +kernel⟩, lw_t1 (List.mem_of_getElem? (i := 158) rfl), lw_t1 (List.mem_of_getElem? (i := 156) rfl), lw_t1 (List.mem_of_getElem? (i := 157) rfl)⟩
theorem lw_p1 : lw_okq (⟨"HeapLineModel", "best", "()I"⟩, 4) := ⟨⟨by decide +kernel, by decide +kernel⟩, lw_t2 (List.mem_of_getElem? (i := 38) rfl), lw_t2 (List.mem_of_getElem? (i := 65) rfl), lw_t2 (List.mem_of_getElem? (i := 66) rfl)⟩
theorem lw_p2 : lw_okq (⟨"HeapLineModel", "order", "(II)I"⟩, 4) := ⟨⟨by decide +kernel, by decide +kernel⟩, lw_t2 (List.mem_of_getElem? (i := 38) rfl), lw_t2 (List.mem_of_getElem? (i := 94) rfl), lw_t2 (List.mem_of_getElem? (i := 95) rfl)⟩
def lw_privs_1 : List (MethodName × Nat) := [(⟨"java/lang/Throwable", "fillInStackTrace", "(I)Ljava/lang/Throwable;"⟩, 6), (⟨"HeapLineModel", "best", "()I"⟩, 4), (⟨"HeapLineModel", "order", "(II)I"⟩, 4)]
theorem lw_r1 : ∀ q ∈ lw_privs_1, lw_okq q := List.forall_mem_cons.mpr ⟨lw_p0, List.forall_mem_cons.mpr ⟨lw_p1, List.forall_mem_cons.mpr ⟨lw_p2, fun _ h => absurd h List.not_mem_nil⟩⟩⟩
def lw_privs : List (MethodName × Nat) := lw_privs_1
def lw_tbl : List Cond := k2_sels lw_privs ++ tables_1
theorem lw_privs_ok : ∀ q ∈ lw_privs, lw_okq q := lw_r1
-- ===== ONE list of words for every method: the tables' words that hold all through a run =====
def lw_all : List Cond := lw_tbl.filter goodWord
/-- a word of the tables by its place: claim/WORDS.tsv -/
theorem lw_w {w : Cond} (i : Nat) (h : lw_tbl[i]? = some w) (g : goodWord w = true) : w ∈ lw_all := List.mem_filter.mpr ⟨List.mem_of_getElem? h, g⟩
theorem lw_all_tbl {w : Cond} (h : w ∈ lw_all) : w ∈ lw_tbl := (List.mem_filter.mp h).1
theorem lw_self : GoodIn lw_all lw_all := fun w h => ⟨h, good_of_word (List.mem_filter.mp h).2⟩
/-- a class's field words, by their places -/
theorem lw_in (ws : List Cond) (ps : List Nat) (hp : ws = ps.filterMap (fun i => lw_tbl[i]?)) (hg : ws.all goodWord = true) : ∀ w ∈ ws, w ∈ lw_all := by
  intro w h
  have h1 := List.all_eq_true.mp hg w h
  rw [hp] at h
  obtain ⟨i, -, hi⟩ := List.mem_filterMap.mp h
  exact lw_w i hi h1
/-- the words of a contract for the method y with code b, L locals, answer r -/
abbrev ws_ (y : MethodName) (b : ByteArray) (L : Nat) (r : Option FieldType) : List Cond := Cond.code y b L r :: lw_all
theorem lw_meth {y : MethodName} {b : ByteArray} {L : Nat} {r : Option FieldType} (h : Cond.code y b L r ∈ lw_all) : GoodIn lw_all (ws_ y b L r) := by
  intro w hw
  rcases List.mem_cons.mp hw with e | e
  · rw [e]
    exact lw_self _ h
  · exact lw_self _ e
theorem lw_app {a c : List Cond} (ha : ∀ w ∈ a, w ∈ lw_all) (hc : GoodIn lw_all c) : GoodIn lw_all (a ++ c) := by
  intro w hw
  rcases List.mem_append.mp hw with e | e
  · exact lw_self w (ha w e)
  · exact hc w e
/-- what a call through an object asks: cwV n hts (lw_V ..) -/
theorem lw_V {own : String} {idx : Nat} {C : String} {y : MethodName} {b : ByteArray} {L : Nat} {r : Option FieldType} (h1 : Cond.methodLink own idx y ∈ lw_all) (h2 : Cond.instanceMethod y ∈ lw_all) (h3 : Cond.selects C y y ∈ lw_all) (h4 : Cond.initialized C ∈ lw_all) (h5 : Cond.code y b L r ∈ lw_all) : GoodIn lw_all (wsV own idx C y (ws_ y b L r)) := by
  refine lw_app ?_ (lw_meth h5)
  intro w hw
  simp only [List.mem_cons, List.not_mem_nil, or_false] at hw
  rcases hw with e | e | e | e
  · rw [e]; exact h1
  · rw [e]; exact h2
  · rw [e]; exact h3
  · rw [e]; exact h4
/-- what a static call asks: va_cwS n hts (lw_S ..) -/
theorem lw_S {own : String} {idx : Nat} {y : MethodName} {b : ByteArray} {L : Nat} {r : Option FieldType} (h1 : Cond.methodLink own idx y ∈ lw_all) (h2 : Cond.static y ∈ lw_all) (h3 : Cond.initialized y.cls ∈ lw_all) (h4 : Cond.code y b L r ∈ lw_all) : GoodIn lw_all (va_wsS own idx y (ws_ y b L r)) := by
  refine lw_app ?_ (lw_meth h4)
  intro w hw
  simp only [List.mem_cons, List.not_mem_nil, or_false] at hw
  rcases hw with e | e | e
  · rw [e]; exact h1
  · rw [e]; exact h2
  · rw [e]; exact h3
/-- the words of a contract for a method WITH HANDLERS (hh: its table) -/
abbrev wsW_ (y : MethodName) (b : ByteArray) (L : Nat) (r : Option FieldType) (hh : List (Nat × Nat × Nat × Nat)) : List Cond := Cond.codeWith y b L r hh :: lw_all
theorem lw_methW {y : MethodName} {b : ByteArray} {L : Nat} {r : Option FieldType} {hh : List (Nat × Nat × Nat × Nat)} (h : Cond.codeWith y b L r hh ∈ lw_all) : GoodIn lw_all (wsW_ y b L r hh) := by
  intro w hw
  rcases List.mem_cons.mp hw with e | e
  · rw [e]
    exact lw_self _ h
  · exact lw_self _ e
/-- any list of words by their places (lw_in), good -/
theorem lw_good {ws : List Cond} (h : ∀ w ∈ ws, w ∈ lw_all) : GoodIn lw_all ws := fun w hw => lw_self w (h w hw)
/-- what a call of a method with handlers asks: vx_cwVW n hts (lw_VW ..), vx_cwSW n hts (lw_SW ..) -/
theorem lw_VW {own : String} {idx : Nat} {C : String} {y : MethodName} {b : ByteArray} {L : Nat} {r : Option FieldType} {hh : List (Nat × Nat × Nat × Nat)} (h1 : Cond.methodLink own idx y ∈ lw_all) (h2 : Cond.instanceMethod y ∈ lw_all) (h3 : Cond.selects C y y ∈ lw_all) (h4 : Cond.initialized C ∈ lw_all) (h5 : Cond.codeWith y b L r hh ∈ lw_all) : GoodIn lw_all (wsV own idx C y (wsW_ y b L r hh)) := by
  refine lw_app ?_ (lw_methW h5)
  intro w hw
  simp only [List.mem_cons, List.not_mem_nil, or_false] at hw
  rcases hw with e | e | e | e
  · rw [e]; exact h1
  · rw [e]; exact h2
  · rw [e]; exact h3
  · rw [e]; exact h4
theorem lw_SW {own : String} {idx : Nat} {y : MethodName} {b : ByteArray} {L : Nat} {r : Option FieldType} {hh : List (Nat × Nat × Nat × Nat)} (h1 : Cond.methodLink own idx y ∈ lw_all) (h2 : Cond.static y ∈ lw_all) (h3 : Cond.initialized y.cls ∈ lw_all) (h4 : Cond.codeWith y b L r hh ∈ lw_all) : GoodIn lw_all (va_wsS own idx y (wsW_ y b L r hh)) := by
  refine lw_app ?_ (lw_methW h4)
  intro w hw
  simp only [List.mem_cons, List.not_mem_nil, or_false] at hw
  rcases hw with e | e | e
  · rw [e]; exact h1
  · rw [e]; exact h2
  · rw [e]; exact h3
/-- a word by its place in its run of the tables -/
theorem lw_at {r : List Cond} (hr : ∀ w ∈ r, w ∈ lw_tbl) {w : Cond} (i : Nat) (h : r[i]? = some w) : w ∈ lw_tbl := hr w (List.mem_of_getElem? h)
theorem lw_g {w : Cond} (h : w ∈ lw_tbl) (g : goodWord w = true) : w ∈ lw_all := List.mem_filter.mpr ⟨h, g⟩
theorem lw_ms : ∀ w ∈ k2_sels lw_privs, w ∈ lw_tbl := fun w h => show w ∈ k2_sels lw_privs ++ tables_1 from List.mem_append_left _ h
theorem lw_m1 : ∀ w ∈ tables_1_1, w ∈ lw_tbl := fun w h => show w ∈ k2_sels lw_privs ++ tables_1 from List.mem_append_right (k2_sels lw_privs) (show w ∈ tables_1 from List.mem_append_left _ h)
theorem lw_m2 : ∀ w ∈ tables_1_2, w ∈ lw_tbl := fun w h => show w ∈ k2_sels lw_privs ++ tables_1 from List.mem_append_right (k2_sels lw_privs) (show w ∈ tables_1 from List.mem_append_right _ h)
theorem qs0 : (Cond.selects "java/lang/Throwable" ⟨"java/lang/Throwable", "fillInStackTrace", "(I)Ljava/lang/Throwable;"⟩ ⟨"java/lang/Throwable", "fillInStackTrace", "(I)Ljava/lang/Throwable;"⟩) ∈ lw_all := lw_g (lw_at lw_ms 0 rfl) rfl
theorem qs1 : (Cond.selects "HeapLineModel" ⟨"HeapLineModel", "best", "()I"⟩ ⟨"HeapLineModel", "best", "()I"⟩) ∈ lw_all := lw_g (lw_at lw_ms 1 rfl) rfl
theorem qs2 : (Cond.selects "HeapLineModel" ⟨"HeapLineModel", "order", "(II)I"⟩ ⟨"HeapLineModel", "order", "(II)I"⟩) ∈ lw_all := lw_g (lw_at lw_ms 2 rfl) rfl
/-! DECODE ROWS BY BYTES: one lemma an opcode; a method's code is cut into short pieces once, and a row reads its own piece alone. -/
set_option maxRecDepth 100000
/-- the code has just these bytes from pc on -/
def DkAt (code : ByteArray) (pc : Nat) (bs : List UInt8) : Prop := ∀ (j : Nat) (b : UInt8), bs[j]? = some b → code.data.toList[pc + j]? = some b
/-- the piece W has the bytes bs from its place j on -/
def dkIn (W : List UInt8) (j : Nat) (bs : List UInt8) : Bool := decide ((W.drop j).take bs.length = bs)
theorem dk_seg {l W T : List UInt8} {o o2 : Nat} (h : l.drop o = W ++ T) (n : Nat) (hn : W.length = n) (ho : o + n = o2) : l.drop o2 = T := by
  subst ho
  rw [← List.drop_drop, h, List.drop_left' hn]
theorem dk_at {code : ByteArray} {W T bs : List UInt8} {o pc : Nat} (h : code.data.toList.drop o = W ++ T) (j : Nat) (hp : o + j = pc) (hw : dkIn W j bs = true) : DkAt code pc bs := by
  subst hp
  intro i b e
  have h1 := of_decide_eq_true hw
  have h2 : i < bs.length := (List.getElem?_eq_some_iff.mp e).1
  have h3 : W[j + i]? = some b := by
    rw [← h1, List.getElem?_take, if_pos h2, List.getElem?_drop] at e
    exact e
  have h4 : j + i < W.length := (List.getElem?_eq_some_iff.mp h3).1
  have h5 : (code.data.toList.drop o)[j + i]? = some b := by
    rw [h, List.getElem?_append_left h4]
    exact h3
  rw [List.getElem?_drop, ← Nat.add_assoc] at h5
  exact h5
theorem dk_u1 {A : ByteArray} {p : Nat} {b : UInt8} (h : A.data.toList[p]? = some b) : (Reader.u1 : Reader DecodeError Nat) A p = .ok (b.toNat, p + 1) := by
  obtain ⟨h1, h2⟩ := List.getElem?_eq_some_iff.mp h
  have h3 : p < A.size := by simpa using h1
  have h4 : A[p]'h3 = b := h2
  have e : (Reader.u1 : Reader DecodeError Nat) A p = (if h : p < A.size then .ok (A[p].toNat, p + 1) else .error (HasTruncated.truncated p)) := by
    show (do if h : p < A.size then do set (p + 1); Pure.pure A[p].toNat else MonadExcept.throw (HasTruncated.truncated p) : Reader DecodeError Nat) A p = _
    by_cases hi : p < A.size
    · rw [dif_pos hi, dif_pos hi]; rfl
    · rw [dif_neg hi, dif_neg hi]; rfl
  rw [e, dif_pos h3, h4]
theorem dk_bind {α β : Type} {r : Reader DecodeError α} {f : α → Reader DecodeError β} {A : ByteArray} {p s : Nat} {a : α} (h : r A p = .ok (a, s)) : (r >>= f) A p = f a A s := by
  show (do let (a, s) ← r A p; f a A s : Except DecodeError (β × Nat)) = _
  rw [h]
  rfl
theorem dk_map {α β : Type} {r : Reader DecodeError α} {g : α → β} {A : ByteArray} {p s : Nat} {a : α} (h : r A p = .ok (a, s)) : (g <$> r) A p = .ok (g a, s) := by
  show (do let (a, s) ← r A p; .ok (g a, s) : Except DecodeError (β × Nat)) = _
  rw [h]
  rfl
theorem dk_u2 {A : ByteArray} {p : Nat} {a b : UInt8} (h : A.data.toList[p]? = some a) (h2 : A.data.toList[p + 1]? = some b) : (Reader.u2 : Reader DecodeError Nat) A p = .ok (a.toNat * 256 + b.toNat, p + 2) := by
  show (Reader.u1 >>= fun hi => Reader.u1 >>= fun lo => Pure.pure (hi * 256 + lo) : Reader DecodeError Nat) A p = _
  rw [dk_bind (dk_u1 h), dk_bind (dk_u1 h2)]
  rfl
theorem dk_of {code : ByteArray} {pc n : Nat} {i : Instr} (h : Decoder.instr pc code pc = .ok (i, pc + n)) : decode code pc = .ok (i, n) := by
  have e : decode code pc = (match Decoder.instr pc code pc with | .error x => .error x | .ok (j, s) => .ok (j, s - pc)) := by
    show (do let (j, s) ← Decoder.instr pc code pc; Pure.pure (j, s - pc) : Except DecodeError (Instr × Nat)) = _
    cases Decoder.instr pc code pc <;> rfl
  rw [e, h]
  show Except.ok (i, pc + n - pc) = _
  rw [Nat.add_sub_cancel_left]
theorem dk_1 {code : ByteArray} {pc : Nat} (h : DkAt code pc [1]) : decode code pc = .ok (.aconst_null, 1) := dk_of ((dk_bind (dk_u1 (h 0 _ rfl))).trans rfl)
theorem dk_2 {code : ByteArray} {pc : Nat} (h : DkAt code pc [2]) : decode code pc = .ok (.iconst (-1), 1) := dk_of ((dk_bind (dk_u1 (h 0 _ rfl))).trans rfl)
theorem dk_3 {code : ByteArray} {pc : Nat} (h : DkAt code pc [3]) : decode code pc = .ok (.iconst 0, 1) := dk_of ((dk_bind (dk_u1 (h 0 _ rfl))).trans rfl)
theorem dk_4 {code : ByteArray} {pc : Nat} (h : DkAt code pc [4]) : decode code pc = .ok (.iconst 1, 1) := dk_of ((dk_bind (dk_u1 (h 0 _ rfl))).trans rfl)
theorem dk_5 {code : ByteArray} {pc : Nat} (h : DkAt code pc [5]) : decode code pc = .ok (.iconst 2, 1) := dk_of ((dk_bind (dk_u1 (h 0 _ rfl))).trans rfl)
theorem dk_6 {code : ByteArray} {pc : Nat} (h : DkAt code pc [6]) : decode code pc = .ok (.iconst 3, 1) := dk_of ((dk_bind (dk_u1 (h 0 _ rfl))).trans rfl)
theorem dk_7 {code : ByteArray} {pc : Nat} (h : DkAt code pc [7]) : decode code pc = .ok (.iconst 4, 1) := dk_of ((dk_bind (dk_u1 (h 0 _ rfl))).trans rfl)
theorem dk_16 {code : ByteArray} {pc : Nat} (a : UInt8) (h : DkAt code pc [16, a]) : decode code pc = .ok (.bipush (Reader.signed 8 a.toNat), 2) := dk_of ((dk_bind (dk_u1 (h 0 _ rfl))).trans ((dk_bind (dk_map (dk_u1 (h 1 _ rfl)))).trans rfl))
theorem dk_17 {code : ByteArray} {pc : Nat} (a b : UInt8) (h : DkAt code pc [17, a, b]) : decode code pc = .ok (.sipush (Reader.signed 16 (a.toNat * 256 + b.toNat)), 3) := dk_of ((dk_bind (dk_u1 (h 0 _ rfl))).trans ((dk_bind (dk_map (dk_u2 (h 1 _ rfl) (h 2 _ rfl)))).trans rfl))
theorem dk_18 {code : ByteArray} {pc : Nat} (a : UInt8) (h : DkAt code pc [18, a]) : decode code pc = .ok (.ldc a.toNat, 2) := dk_of ((dk_bind (dk_u1 (h 0 _ rfl))).trans ((dk_bind (dk_u1 (h 1 _ rfl))).trans rfl))
theorem dk_20 {code : ByteArray} {pc : Nat} (a b : UInt8) (h : DkAt code pc [20, a, b]) : decode code pc = .ok (.ldc2_w (a.toNat * 256 + b.toNat), 3) := dk_of ((dk_bind (dk_u1 (h 0 _ rfl))).trans ((dk_bind (dk_u2 (h 1 _ rfl) (h 2 _ rfl))).trans rfl))
theorem dk_21 {code : ByteArray} {pc : Nat} (a : UInt8) (h : DkAt code pc [21, a]) : decode code pc = .ok (.iload a.toNat, 2) := dk_of ((dk_bind (dk_u1 (h 0 _ rfl))).trans ((dk_bind (dk_u1 (h 1 _ rfl))).trans rfl))
theorem dk_25 {code : ByteArray} {pc : Nat} (a : UInt8) (h : DkAt code pc [25, a]) : decode code pc = .ok (.aload a.toNat, 2) := dk_of ((dk_bind (dk_u1 (h 0 _ rfl))).trans ((dk_bind (dk_u1 (h 1 _ rfl))).trans rfl))
theorem dk_26 {code : ByteArray} {pc : Nat} (h : DkAt code pc [26]) : decode code pc = .ok (.iload_n 0, 1) := dk_of ((dk_bind (dk_u1 (h 0 _ rfl))).trans rfl)
theorem dk_27 {code : ByteArray} {pc : Nat} (h : DkAt code pc [27]) : decode code pc = .ok (.iload_n 1, 1) := dk_of ((dk_bind (dk_u1 (h 0 _ rfl))).trans rfl)
theorem dk_28 {code : ByteArray} {pc : Nat} (h : DkAt code pc [28]) : decode code pc = .ok (.iload_n 2, 1) := dk_of ((dk_bind (dk_u1 (h 0 _ rfl))).trans rfl)
theorem dk_29 {code : ByteArray} {pc : Nat} (h : DkAt code pc [29]) : decode code pc = .ok (.iload_n 3, 1) := dk_of ((dk_bind (dk_u1 (h 0 _ rfl))).trans rfl)
theorem dk_30 {code : ByteArray} {pc : Nat} (h : DkAt code pc [30]) : decode code pc = .ok (.lload_n 0, 1) := dk_of ((dk_bind (dk_u1 (h 0 _ rfl))).trans rfl)
theorem dk_32 {code : ByteArray} {pc : Nat} (h : DkAt code pc [32]) : decode code pc = .ok (.lload_n 2, 1) := dk_of ((dk_bind (dk_u1 (h 0 _ rfl))).trans rfl)
theorem dk_42 {code : ByteArray} {pc : Nat} (h : DkAt code pc [42]) : decode code pc = .ok (.aload_n 0, 1) := dk_of ((dk_bind (dk_u1 (h 0 _ rfl))).trans rfl)
theorem dk_43 {code : ByteArray} {pc : Nat} (h : DkAt code pc [43]) : decode code pc = .ok (.aload_n 1, 1) := dk_of ((dk_bind (dk_u1 (h 0 _ rfl))).trans rfl)
theorem dk_44 {code : ByteArray} {pc : Nat} (h : DkAt code pc [44]) : decode code pc = .ok (.aload_n 2, 1) := dk_of ((dk_bind (dk_u1 (h 0 _ rfl))).trans rfl)
theorem dk_45 {code : ByteArray} {pc : Nat} (h : DkAt code pc [45]) : decode code pc = .ok (.aload_n 3, 1) := dk_of ((dk_bind (dk_u1 (h 0 _ rfl))).trans rfl)
theorem dk_46 {code : ByteArray} {pc : Nat} (h : DkAt code pc [46]) : decode code pc = .ok (.iaload, 1) := dk_of ((dk_bind (dk_u1 (h 0 _ rfl))).trans rfl)
theorem dk_54 {code : ByteArray} {pc : Nat} (a : UInt8) (h : DkAt code pc [54, a]) : decode code pc = .ok (.istore a.toNat, 2) := dk_of ((dk_bind (dk_u1 (h 0 _ rfl))).trans ((dk_bind (dk_u1 (h 1 _ rfl))).trans rfl))
theorem dk_58 {code : ByteArray} {pc : Nat} (a : UInt8) (h : DkAt code pc [58, a]) : decode code pc = .ok (.astore a.toNat, 2) := dk_of ((dk_bind (dk_u1 (h 0 _ rfl))).trans ((dk_bind (dk_u1 (h 1 _ rfl))).trans rfl))
theorem dk_60 {code : ByteArray} {pc : Nat} (h : DkAt code pc [60]) : decode code pc = .ok (.istore_n 1, 1) := dk_of ((dk_bind (dk_u1 (h 0 _ rfl))).trans rfl)
theorem dk_61 {code : ByteArray} {pc : Nat} (h : DkAt code pc [61]) : decode code pc = .ok (.istore_n 2, 1) := dk_of ((dk_bind (dk_u1 (h 0 _ rfl))).trans rfl)
theorem dk_62 {code : ByteArray} {pc : Nat} (h : DkAt code pc [62]) : decode code pc = .ok (.istore_n 3, 1) := dk_of ((dk_bind (dk_u1 (h 0 _ rfl))).trans rfl)
theorem dk_76 {code : ByteArray} {pc : Nat} (h : DkAt code pc [76]) : decode code pc = .ok (.astore_n 1, 1) := dk_of ((dk_bind (dk_u1 (h 0 _ rfl))).trans rfl)
theorem dk_77 {code : ByteArray} {pc : Nat} (h : DkAt code pc [77]) : decode code pc = .ok (.astore_n 2, 1) := dk_of ((dk_bind (dk_u1 (h 0 _ rfl))).trans rfl)
theorem dk_78 {code : ByteArray} {pc : Nat} (h : DkAt code pc [78]) : decode code pc = .ok (.astore_n 3, 1) := dk_of ((dk_bind (dk_u1 (h 0 _ rfl))).trans rfl)
theorem dk_79 {code : ByteArray} {pc : Nat} (h : DkAt code pc [79]) : decode code pc = .ok (.iastore, 1) := dk_of ((dk_bind (dk_u1 (h 0 _ rfl))).trans rfl)
theorem dk_87 {code : ByteArray} {pc : Nat} (h : DkAt code pc [87]) : decode code pc = .ok (.pop, 1) := dk_of ((dk_bind (dk_u1 (h 0 _ rfl))).trans rfl)
theorem dk_89 {code : ByteArray} {pc : Nat} (h : DkAt code pc [89]) : decode code pc = .ok (.dup, 1) := dk_of ((dk_bind (dk_u1 (h 0 _ rfl))).trans rfl)
theorem dk_90 {code : ByteArray} {pc : Nat} (h : DkAt code pc [90]) : decode code pc = .ok (.dup_x1, 1) := dk_of ((dk_bind (dk_u1 (h 0 _ rfl))).trans rfl)
theorem dk_91 {code : ByteArray} {pc : Nat} (h : DkAt code pc [91]) : decode code pc = .ok (.dup_x2, 1) := dk_of ((dk_bind (dk_u1 (h 0 _ rfl))).trans rfl)
theorem dk_92 {code : ByteArray} {pc : Nat} (h : DkAt code pc [92]) : decode code pc = .ok (.dup2, 1) := dk_of ((dk_bind (dk_u1 (h 0 _ rfl))).trans rfl)
theorem dk_96 {code : ByteArray} {pc : Nat} (h : DkAt code pc [96]) : decode code pc = .ok (.iadd, 1) := dk_of ((dk_bind (dk_u1 (h 0 _ rfl))).trans rfl)
theorem dk_97 {code : ByteArray} {pc : Nat} (h : DkAt code pc [97]) : decode code pc = .ok (.ladd, 1) := dk_of ((dk_bind (dk_u1 (h 0 _ rfl))).trans rfl)
theorem dk_100 {code : ByteArray} {pc : Nat} (h : DkAt code pc [100]) : decode code pc = .ok (.isub, 1) := dk_of ((dk_bind (dk_u1 (h 0 _ rfl))).trans rfl)
theorem dk_104 {code : ByteArray} {pc : Nat} (h : DkAt code pc [104]) : decode code pc = .ok (.imul, 1) := dk_of ((dk_bind (dk_u1 (h 0 _ rfl))).trans rfl)
theorem dk_108 {code : ByteArray} {pc : Nat} (h : DkAt code pc [108]) : decode code pc = .ok (.idiv, 1) := dk_of ((dk_bind (dk_u1 (h 0 _ rfl))).trans rfl)
theorem dk_112 {code : ByteArray} {pc : Nat} (h : DkAt code pc [112]) : decode code pc = .ok (.irem, 1) := dk_of ((dk_bind (dk_u1 (h 0 _ rfl))).trans rfl)
theorem dk_120 {code : ByteArray} {pc : Nat} (h : DkAt code pc [120]) : decode code pc = .ok (.ishl, 1) := dk_of ((dk_bind (dk_u1 (h 0 _ rfl))).trans rfl)
theorem dk_122 {code : ByteArray} {pc : Nat} (h : DkAt code pc [122]) : decode code pc = .ok (.ishr, 1) := dk_of ((dk_bind (dk_u1 (h 0 _ rfl))).trans rfl)
theorem dk_124 {code : ByteArray} {pc : Nat} (h : DkAt code pc [124]) : decode code pc = .ok (.iushr, 1) := dk_of ((dk_bind (dk_u1 (h 0 _ rfl))).trans rfl)
theorem dk_126 {code : ByteArray} {pc : Nat} (h : DkAt code pc [126]) : decode code pc = .ok (.iand, 1) := dk_of ((dk_bind (dk_u1 (h 0 _ rfl))).trans rfl)
theorem dk_130 {code : ByteArray} {pc : Nat} (h : DkAt code pc [130]) : decode code pc = .ok (.ixor, 1) := dk_of ((dk_bind (dk_u1 (h 0 _ rfl))).trans rfl)
theorem dk_132 {code : ByteArray} {pc : Nat} (a b : UInt8) (h : DkAt code pc [132, a, b]) : decode code pc = .ok (.iinc a.toNat (Reader.signed 8 b.toNat), 3) := dk_of ((dk_bind (dk_u1 (h 0 _ rfl))).trans ((dk_bind (dk_u1 (h 1 _ rfl))).trans ((dk_bind (dk_map (dk_u1 (h 2 _ rfl)))).trans rfl)))
theorem dk_133 {code : ByteArray} {pc : Nat} (h : DkAt code pc [133]) : decode code pc = .ok (.i2l, 1) := dk_of ((dk_bind (dk_u1 (h 0 _ rfl))).trans rfl)
theorem dk_136 {code : ByteArray} {pc : Nat} (h : DkAt code pc [136]) : decode code pc = .ok (.l2i, 1) := dk_of ((dk_bind (dk_u1 (h 0 _ rfl))).trans rfl)
theorem dk_148 {code : ByteArray} {pc : Nat} (h : DkAt code pc [148]) : decode code pc = .ok (.lcmp, 1) := dk_of ((dk_bind (dk_u1 (h 0 _ rfl))).trans rfl)
theorem dk_153 {code : ByteArray} {pc : Nat} (a b : UInt8) (h : DkAt code pc [153, a, b]) : decode code pc = .ok (.ifCond .eq (Reader.signed 16 (a.toNat * 256 + b.toNat)), 3) := dk_of ((dk_bind (dk_u1 (h 0 _ rfl))).trans ((dk_bind (dk_map (dk_u2 (h 1 _ rfl) (h 2 _ rfl)))).trans rfl))
theorem dk_154 {code : ByteArray} {pc : Nat} (a b : UInt8) (h : DkAt code pc [154, a, b]) : decode code pc = .ok (.ifCond .ne (Reader.signed 16 (a.toNat * 256 + b.toNat)), 3) := dk_of ((dk_bind (dk_u1 (h 0 _ rfl))).trans ((dk_bind (dk_map (dk_u2 (h 1 _ rfl) (h 2 _ rfl)))).trans rfl))
theorem dk_155 {code : ByteArray} {pc : Nat} (a b : UInt8) (h : DkAt code pc [155, a, b]) : decode code pc = .ok (.ifCond .lt (Reader.signed 16 (a.toNat * 256 + b.toNat)), 3) := dk_of ((dk_bind (dk_u1 (h 0 _ rfl))).trans ((dk_bind (dk_map (dk_u2 (h 1 _ rfl) (h 2 _ rfl)))).trans rfl))
theorem dk_156 {code : ByteArray} {pc : Nat} (a b : UInt8) (h : DkAt code pc [156, a, b]) : decode code pc = .ok (.ifCond .ge (Reader.signed 16 (a.toNat * 256 + b.toNat)), 3) := dk_of ((dk_bind (dk_u1 (h 0 _ rfl))).trans ((dk_bind (dk_map (dk_u2 (h 1 _ rfl) (h 2 _ rfl)))).trans rfl))
theorem dk_157 {code : ByteArray} {pc : Nat} (a b : UInt8) (h : DkAt code pc [157, a, b]) : decode code pc = .ok (.ifCond .gt (Reader.signed 16 (a.toNat * 256 + b.toNat)), 3) := dk_of ((dk_bind (dk_u1 (h 0 _ rfl))).trans ((dk_bind (dk_map (dk_u2 (h 1 _ rfl) (h 2 _ rfl)))).trans rfl))
theorem dk_158 {code : ByteArray} {pc : Nat} (a b : UInt8) (h : DkAt code pc [158, a, b]) : decode code pc = .ok (.ifCond .le (Reader.signed 16 (a.toNat * 256 + b.toNat)), 3) := dk_of ((dk_bind (dk_u1 (h 0 _ rfl))).trans ((dk_bind (dk_map (dk_u2 (h 1 _ rfl) (h 2 _ rfl)))).trans rfl))
theorem dk_159 {code : ByteArray} {pc : Nat} (a b : UInt8) (h : DkAt code pc [159, a, b]) : decode code pc = .ok (.if_icmp .eq (Reader.signed 16 (a.toNat * 256 + b.toNat)), 3) := dk_of ((dk_bind (dk_u1 (h 0 _ rfl))).trans ((dk_bind (dk_map (dk_u2 (h 1 _ rfl) (h 2 _ rfl)))).trans rfl))
theorem dk_160 {code : ByteArray} {pc : Nat} (a b : UInt8) (h : DkAt code pc [160, a, b]) : decode code pc = .ok (.if_icmp .ne (Reader.signed 16 (a.toNat * 256 + b.toNat)), 3) := dk_of ((dk_bind (dk_u1 (h 0 _ rfl))).trans ((dk_bind (dk_map (dk_u2 (h 1 _ rfl) (h 2 _ rfl)))).trans rfl))
theorem dk_161 {code : ByteArray} {pc : Nat} (a b : UInt8) (h : DkAt code pc [161, a, b]) : decode code pc = .ok (.if_icmp .lt (Reader.signed 16 (a.toNat * 256 + b.toNat)), 3) := dk_of ((dk_bind (dk_u1 (h 0 _ rfl))).trans ((dk_bind (dk_map (dk_u2 (h 1 _ rfl) (h 2 _ rfl)))).trans rfl))
theorem dk_162 {code : ByteArray} {pc : Nat} (a b : UInt8) (h : DkAt code pc [162, a, b]) : decode code pc = .ok (.if_icmp .ge (Reader.signed 16 (a.toNat * 256 + b.toNat)), 3) := dk_of ((dk_bind (dk_u1 (h 0 _ rfl))).trans ((dk_bind (dk_map (dk_u2 (h 1 _ rfl) (h 2 _ rfl)))).trans rfl))
theorem dk_163 {code : ByteArray} {pc : Nat} (a b : UInt8) (h : DkAt code pc [163, a, b]) : decode code pc = .ok (.if_icmp .gt (Reader.signed 16 (a.toNat * 256 + b.toNat)), 3) := dk_of ((dk_bind (dk_u1 (h 0 _ rfl))).trans ((dk_bind (dk_map (dk_u2 (h 1 _ rfl) (h 2 _ rfl)))).trans rfl))
theorem dk_164 {code : ByteArray} {pc : Nat} (a b : UInt8) (h : DkAt code pc [164, a, b]) : decode code pc = .ok (.if_icmp .le (Reader.signed 16 (a.toNat * 256 + b.toNat)), 3) := dk_of ((dk_bind (dk_u1 (h 0 _ rfl))).trans ((dk_bind (dk_map (dk_u2 (h 1 _ rfl) (h 2 _ rfl)))).trans rfl))
theorem dk_167 {code : ByteArray} {pc : Nat} (a b : UInt8) (h : DkAt code pc [167, a, b]) : decode code pc = .ok (.goto (Reader.signed 16 (a.toNat * 256 + b.toNat)), 3) := dk_of ((dk_bind (dk_u1 (h 0 _ rfl))).trans ((dk_bind (dk_map (dk_u2 (h 1 _ rfl) (h 2 _ rfl)))).trans rfl))
theorem dk_172 {code : ByteArray} {pc : Nat} (h : DkAt code pc [172]) : decode code pc = .ok (.ireturn, 1) := dk_of ((dk_bind (dk_u1 (h 0 _ rfl))).trans rfl)
theorem dk_173 {code : ByteArray} {pc : Nat} (h : DkAt code pc [173]) : decode code pc = .ok (.lreturn, 1) := dk_of ((dk_bind (dk_u1 (h 0 _ rfl))).trans rfl)
theorem dk_176 {code : ByteArray} {pc : Nat} (h : DkAt code pc [176]) : decode code pc = .ok (.areturn, 1) := dk_of ((dk_bind (dk_u1 (h 0 _ rfl))).trans rfl)
theorem dk_177 {code : ByteArray} {pc : Nat} (h : DkAt code pc [177]) : decode code pc = .ok (.return_, 1) := dk_of ((dk_bind (dk_u1 (h 0 _ rfl))).trans rfl)
theorem dk_178 {code : ByteArray} {pc : Nat} (a b : UInt8) (h : DkAt code pc [178, a, b]) : decode code pc = .ok (.getstatic (a.toNat * 256 + b.toNat), 3) := dk_of ((dk_bind (dk_u1 (h 0 _ rfl))).trans ((dk_bind (dk_u2 (h 1 _ rfl) (h 2 _ rfl))).trans rfl))
theorem dk_180 {code : ByteArray} {pc : Nat} (a b : UInt8) (h : DkAt code pc [180, a, b]) : decode code pc = .ok (.getfield (a.toNat * 256 + b.toNat), 3) := dk_of ((dk_bind (dk_u1 (h 0 _ rfl))).trans ((dk_bind (dk_u2 (h 1 _ rfl) (h 2 _ rfl))).trans rfl))
theorem dk_181 {code : ByteArray} {pc : Nat} (a b : UInt8) (h : DkAt code pc [181, a, b]) : decode code pc = .ok (.putfield (a.toNat * 256 + b.toNat), 3) := dk_of ((dk_bind (dk_u1 (h 0 _ rfl))).trans ((dk_bind (dk_u2 (h 1 _ rfl) (h 2 _ rfl))).trans rfl))
theorem dk_182 {code : ByteArray} {pc : Nat} (a b : UInt8) (h : DkAt code pc [182, a, b]) : decode code pc = .ok (.invokevirtual (a.toNat * 256 + b.toNat), 3) := dk_of ((dk_bind (dk_u1 (h 0 _ rfl))).trans ((dk_bind (dk_u2 (h 1 _ rfl) (h 2 _ rfl))).trans rfl))
theorem dk_183 {code : ByteArray} {pc : Nat} (a b : UInt8) (h : DkAt code pc [183, a, b]) : decode code pc = .ok (.invokespecial (a.toNat * 256 + b.toNat), 3) := dk_of ((dk_bind (dk_u1 (h 0 _ rfl))).trans ((dk_bind (dk_u2 (h 1 _ rfl) (h 2 _ rfl))).trans rfl))
theorem dk_184 {code : ByteArray} {pc : Nat} (a b : UInt8) (h : DkAt code pc [184, a, b]) : decode code pc = .ok (.invokestatic (a.toNat * 256 + b.toNat), 3) := dk_of ((dk_bind (dk_u1 (h 0 _ rfl))).trans ((dk_bind (dk_u2 (h 1 _ rfl) (h 2 _ rfl))).trans rfl))
theorem dk_187 {code : ByteArray} {pc : Nat} (a b : UInt8) (h : DkAt code pc [187, a, b]) : decode code pc = .ok (.new (a.toNat * 256 + b.toNat), 3) := dk_of ((dk_bind (dk_u1 (h 0 _ rfl))).trans ((dk_bind (dk_u2 (h 1 _ rfl) (h 2 _ rfl))).trans rfl))
theorem dk_188_10 {code : ByteArray} {pc : Nat} (h : DkAt code pc [188, 10]) : decode code pc = .ok (.newarray .int, 2) := dk_of ((dk_bind (dk_u1 (h 0 _ rfl))).trans ((dk_bind (dk_u1 (h 1 _ rfl))).trans rfl))
theorem dk_190 {code : ByteArray} {pc : Nat} (h : DkAt code pc [190]) : decode code pc = .ok (.arraylength, 1) := dk_of ((dk_bind (dk_u1 (h 0 _ rfl))).trans rfl)
theorem dk_191 {code : ByteArray} {pc : Nat} (h : DkAt code pc [191]) : decode code pc = .ok (.athrow, 1) := dk_of ((dk_bind (dk_u1 (h 0 _ rfl))).trans rfl)
theorem dk_192 {code : ByteArray} {pc : Nat} (a b : UInt8) (h : DkAt code pc [192, a, b]) : decode code pc = .ok (.checkcast (a.toNat * 256 + b.toNat), 3) := dk_of ((dk_bind (dk_u1 (h 0 _ rfl))).trans ((dk_bind (dk_u2 (h 1 _ rfl) (h 2 _ rfl))).trans rfl))
theorem dk_199 {code : ByteArray} {pc : Nat} (a b : UInt8) (h : DkAt code pc [199, a, b]) : decode code pc = .ok (.ifnonnull (Reader.signed 16 (a.toNat * 256 + b.toNat)), 3) := dk_of ((dk_bind (dk_u1 (h 0 _ rfl))).trans ((dk_bind (dk_map (dk_u2 (h 1 _ rfl) (h 2 _ rfl)))).trans rfl))
end
section
theorem q51 : (Jvm.Cond.arrayClass Jvm.ClassFile.FieldType.int) ∈ lw_all := lw_g (lw_at lw_m1 48 rfl) rfl
set_option maxRecDepth 100000
theorem q3 : (Jvm.Cond.initialized "HeapLineLaw") ∈ lw_all := lw_g (lw_at lw_m1 0 rfl) rfl
set_option maxRecDepth 100000
theorem q18 : (Jvm.Cond.classLink "HeapLineLaw" (7 : Nat) "HeapLine") ∈ lw_all := lw_g (lw_at lw_m1 15 rfl) rfl
theorem q20 : (Jvm.Cond.methodLink "HeapLineLaw" (9 : Nat) ({ cls := "HeapLine", name := "<init>", desc := "()V" } : Jvm.MethodName)) ∈ lw_all := lw_g (lw_at lw_m1 17 rfl) rfl
theorem q62 : (Jvm.Cond.methodLink "HeapLineLaw" (13 : Nat) ({ cls := "HeapLine", name := "add", desc := "(I)Z" } : Jvm.MethodName)) ∈ lw_all := lw_g (lw_at lw_m1 59 rfl) rfl
theorem q103 : (Jvm.Cond.methodLink "HeapLineLaw" (18 : Nat) ({ cls := "HeapLine", name := "take", desc := "()I" } : Jvm.MethodName)) ∈ lw_all := lw_g (lw_at lw_m1 100 rfl) rfl
theorem q188 : (Jvm.Cond.methodLink "HeapLineLaw" (23 : Nat) ({ cls := "HeapLine", name := "least", desc := "()I" } : Jvm.MethodName)) ∈ lw_all := lw_g (lw_at lw_m1 185 rfl) rfl
theorem q196 : (Jvm.Cond.methodLink "HeapLineLaw" (27 : Nat) ({ cls := "HeapLine", name := "waiting", desc := "()I" } : Jvm.MethodName)) ∈ lw_all := lw_g (lw_at lw_m1 193 rfl) rfl
theorem q200 : (Jvm.Cond.methodLink "HeapLineLaw" (31 : Nat) ({ cls := "HeapLine", name := "drain", desc := "()V" } : Jvm.MethodName)) ∈ lw_all := lw_g (lw_at lw_m1 197 rfl) rfl
theorem q208 : (Jvm.Cond.methodLink "HeapLineLaw" (35 : Nat) ({ cls := "HeapLine", name := "ramp", desc := "(III)I" } : Jvm.MethodName)) ∈ lw_all := lw_g (lw_at lw_m1 205 rfl) rfl
theorem q213 : (Jvm.Cond.methodLink "HeapLineLaw" (40 : Nat) ({ cls := "HeapLine", name := "row", desc := "(I)I" } : Jvm.MethodName)) ∈ lw_all := lw_g (lw_at lw_m1 210 rfl) rfl
theorem q217 : (Jvm.Cond.methodLink "HeapLineLaw" (45 : Nat) ({ cls := "HeapLine", name := "quick", desc := "(II)I" } : Jvm.MethodName)) ∈ lw_all := lw_g (lw_at lw_m1 214 rfl) rfl
theorem q243 : (Jvm.Cond.methodLink "HeapLineLaw" (50 : Nat) ({ cls := "HeapLine", name := "merge", desc := "(II)I" } : Jvm.MethodName)) ∈ lw_all := lw_g (lw_at lw_m2 0 rfl) rfl
theorem q269 : (Jvm.Cond.methodLink "HeapLineLaw" (54 : Nat) ({ cls := "HeapLine", name := "radix", desc := "(II)I" } : Jvm.MethodName)) ∈ lw_all := lw_g (lw_at lw_m2 26 rfl) rfl
theorem q276 : (Jvm.Cond.methodLink "HeapLineLaw" (58 : Nat) ({ cls := "HeapLine", name := "empty", desc := "()V" } : Jvm.MethodName)) ∈ lw_all := lw_g (lw_at lw_m2 33 rfl) rfl
theorem q280 : (Jvm.Cond.classLink "HeapLineLaw" (10 : Nat) "HeapLineModel") ∈ lw_all := lw_g (lw_at lw_m2 37 rfl) rfl
theorem q282 : (Jvm.Cond.methodLink "HeapLineLaw" (12 : Nat) ({ cls := "HeapLineModel", name := "<init>", desc := "()V" } : Jvm.MethodName)) ∈ lw_all := lw_g (lw_at lw_m2 39 rfl) rfl
theorem q299 : (Jvm.Cond.methodLink "HeapLineLaw" (17 : Nat) ({ cls := "HeapLineModel", name := "add", desc := "(I)Z" } : Jvm.MethodName)) ∈ lw_all := lw_g (lw_at lw_m2 56 rfl) rfl
theorem q303 : (Jvm.Cond.methodLink "HeapLineLaw" (22 : Nat) ({ cls := "HeapLineModel", name := "take", desc := "()I" } : Jvm.MethodName)) ∈ lw_all := lw_g (lw_at lw_m2 60 rfl) rfl
theorem q311 : (Jvm.Cond.methodLink "HeapLineLaw" (26 : Nat) ({ cls := "HeapLineModel", name := "least", desc := "()I" } : Jvm.MethodName)) ∈ lw_all := lw_g (lw_at lw_m2 68 rfl) rfl
theorem q315 : (Jvm.Cond.methodLink "HeapLineLaw" (30 : Nat) ({ cls := "HeapLineModel", name := "waiting", desc := "()I" } : Jvm.MethodName)) ∈ lw_all := lw_g (lw_at lw_m2 72 rfl) rfl
theorem q319 : (Jvm.Cond.methodLink "HeapLineLaw" (34 : Nat) ({ cls := "HeapLineModel", name := "drain", desc := "()V" } : Jvm.MethodName)) ∈ lw_all := lw_g (lw_at lw_m2 76 rfl) rfl
theorem q323 : (Jvm.Cond.methodLink "HeapLineLaw" (39 : Nat) ({ cls := "HeapLineModel", name := "ramp", desc := "(III)I" } : Jvm.MethodName)) ∈ lw_all := lw_g (lw_at lw_m2 80 rfl) rfl
theorem q328 : (Jvm.Cond.methodLink "HeapLineLaw" (44 : Nat) ({ cls := "HeapLineModel", name := "row", desc := "(I)I" } : Jvm.MethodName)) ∈ lw_all := lw_g (lw_at lw_m2 85 rfl) rfl
theorem q332 : (Jvm.Cond.methodLink "HeapLineLaw" (49 : Nat) ({ cls := "HeapLineModel", name := "quick", desc := "(II)I" } : Jvm.MethodName)) ∈ lw_all := lw_g (lw_at lw_m2 89 rfl) rfl
theorem q340 : (Jvm.Cond.methodLink "HeapLineLaw" (53 : Nat) ({ cls := "HeapLineModel", name := "merge", desc := "(II)I" } : Jvm.MethodName)) ∈ lw_all := lw_g (lw_at lw_m2 97 rfl) rfl
theorem q344 : (Jvm.Cond.methodLink "HeapLineLaw" (57 : Nat) ({ cls := "HeapLineModel", name := "radix", desc := "(II)I" } : Jvm.MethodName)) ∈ lw_all := lw_g (lw_at lw_m2 101 rfl) rfl
theorem q348 : (Jvm.Cond.methodLink "HeapLineLaw" (61 : Nat) ({ cls := "HeapLineModel", name := "empty", desc := "()V" } : Jvm.MethodName)) ∈ lw_all := lw_g (lw_at lw_m2 105 rfl) rfl
theorem q95 : (Jvm.Cond.interfaceMethod "IntComparator" "IntComparator" "compare" "(II)I") ∈ lw_tbl := lw_at lw_m1 92 rfl
set_option maxRecDepth 100000
theorem q96 : (Jvm.Cond.declares ({ cls := "IntComparator", name := "compare", desc := "(II)I" } : Jvm.MethodName)) ∈ lw_tbl := lw_at lw_m1 93 rfl
theorem q261 : (Jvm.Cond.sameMethod "[I" "java/lang/Object" "clone" "()Ljava/lang/Object;") ∈ lw_all := lw_g (lw_at lw_m2 18 rfl) rfl
set_option maxRecDepth 100000
theorem q264 : (Jvm.Cond.selects "[I" ({ cls := "[I", name := "clone", desc := "()Ljava/lang/Object;" } : Jvm.MethodName) ({ cls := "java/lang/Object", name := "clone", desc := "()Ljava/lang/Object;" } : Jvm.MethodName)) ∈ lw_all := lw_g (lw_at lw_m2 21 rfl) rfl
theorem q265 : (Jvm.Cond.castable "[I" "java/lang/Cloneable") ∈ lw_tbl := lw_at lw_m2 22 rfl
theorem q10 : (Jvm.Cond.initialized "java/lang/System") ∈ lw_all := lw_g (lw_at lw_m1 7 rfl) rfl
set_option maxRecDepth 100000
theorem q88 : (Jvm.Cond.static ({ cls := "java/lang/System", name := "arraycopy", desc := "(Ljava/lang/Object;ILjava/lang/Object;II)V" } : Jvm.MethodName)) ∈ lw_all := lw_g (lw_at lw_m1 85 rfl) rfl
theorem q89 : (Jvm.Cond.native ({ cls := "java/lang/System", name := "arraycopy", desc := "(Ljava/lang/Object;ILjava/lang/Object;II)V" } : Jvm.MethodName)) ∈ lw_all := lw_g (lw_at lw_m1 86 rfl) rfl
/-! HeapLine$Order -/
set_option maxRecDepth 100000
def RX2 : String := "HeapLine$Order"
abbrev cX2_init : ByteArray := prog_2_method_1_code
def yX2_init : MethodName := ⟨RX2, "<init>", "()V"⟩
theorem dX2_init_0 : decode cX2_init 0 = .ok (.aload_n 0, 1) := by decide +kernel
theorem dX2_init_1 : decode cX2_init 1 = .ok (.invokespecial 1, 3) := by decide +kernel
theorem dX2_init_4 : decode cX2_init 4 = .ok (.return_, 1) := by decide +kernel
abbrev cX2_compare : ByteArray := prog_2_method_2_code
def yX2_compare : MethodName := ⟨RX2, "compare", "(II)I"⟩
def dkwX2_compare_0 : List UInt8 := [27, 28, 162, 0, 7, 2, 167, 0, 13, 27, 28, 164, 0, 7, 4, 167, 0, 4, 3, 172]
abbrev dktX2_compare_0 : List UInt8 := dkwX2_compare_0 ++ []
theorem dksX2_compare_0 : cX2_compare.data.toList.drop 0 = dktX2_compare_0 := by decide +kernel
theorem dX2_compare_0 : decode cX2_compare 0 = .ok (.iload_n 1, 1) := dk_27 (dk_at dksX2_compare_0 0 rfl rfl)
theorem dX2_compare_1 : decode cX2_compare 1 = .ok (.iload_n 2, 1) := dk_28 (dk_at dksX2_compare_0 1 rfl rfl)
theorem dX2_compare_2 : decode cX2_compare 2 = .ok (.if_icmp .ge 7, 3) := dk_162 0 7 (dk_at dksX2_compare_0 2 rfl rfl)
theorem dX2_compare_5 : decode cX2_compare 5 = .ok (.iconst (-1), 1) := dk_2 (dk_at dksX2_compare_0 5 rfl rfl)
theorem dX2_compare_6 : decode cX2_compare 6 = .ok (.goto 13, 3) := dk_167 0 13 (dk_at dksX2_compare_0 6 rfl rfl)
theorem dX2_compare_9 : decode cX2_compare 9 = .ok (.iload_n 1, 1) := dk_27 (dk_at dksX2_compare_0 9 rfl rfl)
theorem dX2_compare_10 : decode cX2_compare 10 = .ok (.iload_n 2, 1) := dk_28 (dk_at dksX2_compare_0 10 rfl rfl)
theorem dX2_compare_11 : decode cX2_compare 11 = .ok (.if_icmp .le 7, 3) := dk_164 0 7 (dk_at dksX2_compare_0 11 rfl rfl)
theorem dX2_compare_14 : decode cX2_compare 14 = .ok (.iconst 1, 1) := dk_4 (dk_at dksX2_compare_0 14 rfl rfl)
theorem dX2_compare_15 : decode cX2_compare 15 = .ok (.goto 4, 3) := dk_167 0 4 (dk_at dksX2_compare_0 15 rfl rfl)
theorem dX2_compare_18 : decode cX2_compare 18 = .ok (.iconst 0, 1) := dk_3 (dk_at dksX2_compare_0 18 rfl rfl)
theorem dX2_compare_19 : decode cX2_compare 19 = .ok (.ireturn, 1) := dk_172 (dk_at dksX2_compare_0 19 rfl rfl)
theorem q6 : (Jvm.Cond.initialized "HeapLine$Order") ∈ lw_all := lw_g (lw_at lw_m1 3 rfl) rfl
theorem q29 : (Jvm.Cond.instantiable "HeapLine$Order" (0 : Nat)) ∈ lw_all := lw_g (lw_at lw_m1 26 rfl) rfl
theorem q31 : (Jvm.Cond.instanceMethod ({ cls := "HeapLine$Order", name := "<init>", desc := "()V" } : Jvm.MethodName)) ∈ lw_all := lw_g (lw_at lw_m1 28 rfl) rfl
theorem q32 : (Jvm.Cond.code ({ cls := "HeapLine$Order", name := "<init>", desc := "()V" } : Jvm.MethodName) prog_2_method_1_code (1 : Nat) (Option.none : Option Jvm.ClassFile.FieldType)) ∈ lw_all := lw_g (lw_at lw_m1 29 rfl) rfl
theorem q33 : (Jvm.Cond.methodLink "HeapLine$Order" (1 : Nat) ({ cls := "java/lang/Object", name := "<init>", desc := "()V" } : Jvm.MethodName)) ∈ lw_all := lw_g (lw_at lw_m1 30 rfl) rfl
theorem q34 : (Jvm.Cond.superclass "HeapLine$Order" "java/lang/Object") ∈ lw_all := lw_g (lw_at lw_m1 31 rfl) rfl
theorem q97 : (Jvm.Cond.castable "HeapLine$Order" "IntComparator") ∈ lw_tbl := lw_at lw_m1 94 rfl
theorem q98 : (Jvm.Cond.selects "HeapLine$Order" ({ cls := "IntComparator", name := "compare", desc := "(II)I" } : Jvm.MethodName) ({ cls := "HeapLine$Order", name := "compare", desc := "(II)I" } : Jvm.MethodName)) ∈ lw_all := lw_g (lw_at lw_m1 95 rfl) rfl
theorem q99 : (Jvm.Cond.unhidden "HeapLine$Order" "compare" "(II)I") ∈ lw_tbl := lw_at lw_m1 96 rfl
theorem q100 : (Jvm.Cond.instanceMethod ({ cls := "HeapLine$Order", name := "compare", desc := "(II)I" } : Jvm.MethodName)) ∈ lw_all := lw_g (lw_at lw_m1 97 rfl) rfl
theorem q101 : (Jvm.Cond.publicMethod ({ cls := "HeapLine$Order", name := "compare", desc := "(II)I" } : Jvm.MethodName)) ∈ lw_tbl := lw_at lw_m1 98 rfl
theorem q102 : (Jvm.Cond.code ({ cls := "HeapLine$Order", name := "compare", desc := "(II)I" } : Jvm.MethodName) prog_2_method_2_code (3 : Nat) (Option.some Jvm.ClassFile.FieldType.int)) ∈ lw_all := lw_g (lw_at lw_m1 99 rfl) rfl
theorem q357 : (Jvm.Cond.castable "HeapLine$Order" "java/lang/Object") ∈ lw_tbl := lw_at lw_m2 114 rfl
/-! OwnPriorityQueue -/
set_option maxRecDepth 100000
def RX6 : String := "OwnPriorityQueue"
abbrev cX6_isEmpty : ByteArray := prog_11_method_1_code
def yX6_isEmpty : MethodName := ⟨RX6, "isEmpty", "()Z"⟩
def dkwX6_isEmpty_0 : List UInt8 := [42, 185, 0, 1, 1, 0, 154, 0, 7, 4, 167, 0, 4, 3, 172]
abbrev dktX6_isEmpty_0 : List UInt8 := dkwX6_isEmpty_0 ++ []
theorem dksX6_isEmpty_0 : cX6_isEmpty.data.toList.drop 0 = dktX6_isEmpty_0 := by decide +kernel
theorem dX6_isEmpty_0 : decode cX6_isEmpty 0 = .ok (.aload_n 0, 1) := dk_42 (dk_at dksX6_isEmpty_0 0 rfl rfl)
theorem dX6_isEmpty_1 : decode cX6_isEmpty 1 = .ok (.invokeinterface 1 1, 5) := by decide +kernel
theorem dX6_isEmpty_6 : decode cX6_isEmpty 6 = .ok (.ifCond .ne 7, 3) := dk_154 0 7 (dk_at dksX6_isEmpty_0 6 rfl rfl)
theorem dX6_isEmpty_9 : decode cX6_isEmpty 9 = .ok (.iconst 1, 1) := dk_4 (dk_at dksX6_isEmpty_0 9 rfl rfl)
theorem dX6_isEmpty_10 : decode cX6_isEmpty 10 = .ok (.goto 4, 3) := dk_167 0 4 (dk_at dksX6_isEmpty_0 10 rfl rfl)
theorem dX6_isEmpty_13 : decode cX6_isEmpty 13 = .ok (.iconst 0, 1) := dk_3 (dk_at dksX6_isEmpty_0 13 rfl rfl)
theorem dX6_isEmpty_14 : decode cX6_isEmpty 14 = .ok (.ireturn, 1) := dk_172 (dk_at dksX6_isEmpty_0 14 rfl rfl)
theorem q107 : (Jvm.Cond.declares ({ cls := "OwnPriorityQueue", name := "isEmpty", desc := "()Z" } : Jvm.MethodName)) ∈ lw_tbl := lw_at lw_m1 104 rfl
theorem q109 : (Jvm.Cond.instanceMethod ({ cls := "OwnPriorityQueue", name := "isEmpty", desc := "()Z" } : Jvm.MethodName)) ∈ lw_all := lw_g (lw_at lw_m1 106 rfl) rfl
theorem q110 : (Jvm.Cond.publicMethod ({ cls := "OwnPriorityQueue", name := "isEmpty", desc := "()Z" } : Jvm.MethodName)) ∈ lw_tbl := lw_at lw_m1 107 rfl
theorem q111 : (Jvm.Cond.code ({ cls := "OwnPriorityQueue", name := "isEmpty", desc := "()Z" } : Jvm.MethodName) prog_11_method_1_code (1 : Nat) (Option.some Jvm.ClassFile.FieldType.boolean)) ∈ lw_all := lw_g (lw_at lw_m1 108 rfl) rfl
theorem q112 : (Jvm.Cond.interfaceEntry "OwnPriorityQueue" (1 : Nat)) ∈ lw_tbl := lw_at lw_m1 109 rfl
theorem q113 : (Jvm.Cond.methodLink "OwnPriorityQueue" (1 : Nat) ({ cls := "OwnPriorityQueue", name := "size", desc := "()I" } : Jvm.MethodName)) ∈ lw_all := lw_g (lw_at lw_m1 110 rfl) rfl
theorem q114 : (Jvm.Cond.interfaceMethod "OwnPriorityQueue" "OwnPriorityQueue" "size" "()I") ∈ lw_tbl := lw_at lw_m1 111 rfl
theorem q115 : (Jvm.Cond.declares ({ cls := "OwnPriorityQueue", name := "size", desc := "()I" } : Jvm.MethodName)) ∈ lw_tbl := lw_at lw_m1 112 rfl
theorem q354 : (Jvm.Cond.initialized "OwnPriorityQueue") ∈ lw_all := lw_g (lw_at lw_m2 111 rfl) rfl
/-! IntHeaps -/
set_option maxRecDepth 100000
def RX5 : String := "IntHeaps"
abbrev cX5_upHeap : ByteArray := prog_8_method_2_code
def yX5_upHeap : MethodName := ⟨RX5, "upHeap", "([IIILIntComparator;)I"⟩
def dkwX5_upHeap_4 : List UInt8 := [21, 4, 79, 28, 172]
abbrev dktX5_upHeap_4 : List UInt8 := dkwX5_upHeap_4 ++ []
def dkwX5_upHeap_3 : List UInt8 := [185, 0, 1, 3, 0, 157, 0, 6, 167, 0, 14, 42, 28, 21, 6, 79, 21, 5, 61, 167, 255, 215, 42, 28]
abbrev dktX5_upHeap_3 : List UInt8 := dkwX5_upHeap_3 ++ dktX5_upHeap_4
def dkwX5_upHeap_2 : List UInt8 := [153, 0, 43, 28, 4, 100, 4, 124, 54, 5, 42, 21, 5, 46, 54, 6, 45, 21, 6, 21, 4]
abbrev dktX5_upHeap_2 : List UInt8 := dkwX5_upHeap_2 ++ dktX5_upHeap_3
def dkwX5_upHeap_1 : List UInt8 := [54, 6, 21, 6, 21, 4, 163, 0, 6, 167, 0, 58, 42, 28, 21, 6, 79, 21, 5, 61, 167, 255, 221, 28]
abbrev dktX5_upHeap_1 : List UInt8 := dkwX5_upHeap_1 ++ dktX5_upHeap_2
def dkwX5_upHeap_0 : List UInt8 := [42, 28, 46, 54, 4, 45, 199, 0, 41, 28, 153, 0, 81, 28, 4, 100, 4, 124, 54, 5, 42, 21, 5, 46]
abbrev dktX5_upHeap_0 : List UInt8 := dkwX5_upHeap_0 ++ dktX5_upHeap_1
theorem dksX5_upHeap_0 : cX5_upHeap.data.toList.drop 0 = dktX5_upHeap_0 := by decide +kernel
theorem dksX5_upHeap_1 : cX5_upHeap.data.toList.drop 24 = dktX5_upHeap_1 := dk_seg dksX5_upHeap_0 24 rfl rfl
theorem dksX5_upHeap_2 : cX5_upHeap.data.toList.drop 48 = dktX5_upHeap_2 := dk_seg dksX5_upHeap_1 24 rfl rfl
theorem dksX5_upHeap_3 : cX5_upHeap.data.toList.drop 69 = dktX5_upHeap_3 := dk_seg dksX5_upHeap_2 21 rfl rfl
theorem dksX5_upHeap_4 : cX5_upHeap.data.toList.drop 93 = dktX5_upHeap_4 := dk_seg dksX5_upHeap_3 24 rfl rfl
theorem dX5_upHeap_0 : decode cX5_upHeap 0 = .ok (.aload_n 0, 1) := dk_42 (dk_at dksX5_upHeap_0 0 rfl rfl)
theorem dX5_upHeap_1 : decode cX5_upHeap 1 = .ok (.iload_n 2, 1) := dk_28 (dk_at dksX5_upHeap_0 1 rfl rfl)
theorem dX5_upHeap_2 : decode cX5_upHeap 2 = .ok (.iaload, 1) := dk_46 (dk_at dksX5_upHeap_0 2 rfl rfl)
theorem dX5_upHeap_3 : decode cX5_upHeap 3 = .ok (.istore 4, 2) := dk_54 4 (dk_at dksX5_upHeap_0 3 rfl rfl)
theorem dX5_upHeap_5 : decode cX5_upHeap 5 = .ok (.aload_n 3, 1) := dk_45 (dk_at dksX5_upHeap_0 5 rfl rfl)
theorem dX5_upHeap_6 : decode cX5_upHeap 6 = .ok (.ifnonnull 41, 3) := dk_199 0 41 (dk_at dksX5_upHeap_0 6 rfl rfl)
theorem dX5_upHeap_9 : decode cX5_upHeap 9 = .ok (.iload_n 2, 1) := dk_28 (dk_at dksX5_upHeap_0 9 rfl rfl)
theorem dX5_upHeap_10 : decode cX5_upHeap 10 = .ok (.ifCond .eq 81, 3) := dk_153 0 81 (dk_at dksX5_upHeap_0 10 rfl rfl)
theorem dX5_upHeap_13 : decode cX5_upHeap 13 = .ok (.iload_n 2, 1) := dk_28 (dk_at dksX5_upHeap_0 13 rfl rfl)
theorem dX5_upHeap_14 : decode cX5_upHeap 14 = .ok (.iconst 1, 1) := dk_4 (dk_at dksX5_upHeap_0 14 rfl rfl)
theorem dX5_upHeap_15 : decode cX5_upHeap 15 = .ok (.isub, 1) := dk_100 (dk_at dksX5_upHeap_0 15 rfl rfl)
theorem dX5_upHeap_16 : decode cX5_upHeap 16 = .ok (.iconst 1, 1) := dk_4 (dk_at dksX5_upHeap_0 16 rfl rfl)
theorem dX5_upHeap_17 : decode cX5_upHeap 17 = .ok (.iushr, 1) := dk_124 (dk_at dksX5_upHeap_0 17 rfl rfl)
theorem dX5_upHeap_18 : decode cX5_upHeap 18 = .ok (.istore 5, 2) := dk_54 5 (dk_at dksX5_upHeap_0 18 rfl rfl)
theorem dX5_upHeap_20 : decode cX5_upHeap 20 = .ok (.aload_n 0, 1) := dk_42 (dk_at dksX5_upHeap_0 20 rfl rfl)
theorem dX5_upHeap_21 : decode cX5_upHeap 21 = .ok (.iload 5, 2) := dk_21 5 (dk_at dksX5_upHeap_0 21 rfl rfl)
theorem dX5_upHeap_23 : decode cX5_upHeap 23 = .ok (.iaload, 1) := dk_46 (dk_at dksX5_upHeap_0 23 rfl rfl)
theorem dX5_upHeap_24 : decode cX5_upHeap 24 = .ok (.istore 6, 2) := dk_54 6 (dk_at dksX5_upHeap_1 0 rfl rfl)
theorem dX5_upHeap_26 : decode cX5_upHeap 26 = .ok (.iload 6, 2) := dk_21 6 (dk_at dksX5_upHeap_1 2 rfl rfl)
theorem dX5_upHeap_28 : decode cX5_upHeap 28 = .ok (.iload 4, 2) := dk_21 4 (dk_at dksX5_upHeap_1 4 rfl rfl)
theorem dX5_upHeap_30 : decode cX5_upHeap 30 = .ok (.if_icmp .gt 6, 3) := dk_163 0 6 (dk_at dksX5_upHeap_1 6 rfl rfl)
theorem dX5_upHeap_33 : decode cX5_upHeap 33 = .ok (.goto 58, 3) := dk_167 0 58 (dk_at dksX5_upHeap_1 9 rfl rfl)
theorem dX5_upHeap_36 : decode cX5_upHeap 36 = .ok (.aload_n 0, 1) := dk_42 (dk_at dksX5_upHeap_1 12 rfl rfl)
theorem dX5_upHeap_37 : decode cX5_upHeap 37 = .ok (.iload_n 2, 1) := dk_28 (dk_at dksX5_upHeap_1 13 rfl rfl)
theorem dX5_upHeap_38 : decode cX5_upHeap 38 = .ok (.iload 6, 2) := dk_21 6 (dk_at dksX5_upHeap_1 14 rfl rfl)
theorem dX5_upHeap_40 : decode cX5_upHeap 40 = .ok (.iastore, 1) := dk_79 (dk_at dksX5_upHeap_1 16 rfl rfl)
theorem dX5_upHeap_41 : decode cX5_upHeap 41 = .ok (.iload 5, 2) := dk_21 5 (dk_at dksX5_upHeap_1 17 rfl rfl)
theorem dX5_upHeap_43 : decode cX5_upHeap 43 = .ok (.istore_n 2, 1) := dk_61 (dk_at dksX5_upHeap_1 19 rfl rfl)
theorem dX5_upHeap_44 : decode cX5_upHeap 44 = .ok (.goto (-35), 3) := dk_167 255 221 (dk_at dksX5_upHeap_1 20 rfl rfl)
theorem dX5_upHeap_47 : decode cX5_upHeap 47 = .ok (.iload_n 2, 1) := dk_28 (dk_at dksX5_upHeap_1 23 rfl rfl)
theorem dX5_upHeap_48 : decode cX5_upHeap 48 = .ok (.ifCond .eq 43, 3) := dk_153 0 43 (dk_at dksX5_upHeap_2 0 rfl rfl)
theorem dX5_upHeap_51 : decode cX5_upHeap 51 = .ok (.iload_n 2, 1) := dk_28 (dk_at dksX5_upHeap_2 3 rfl rfl)
theorem dX5_upHeap_52 : decode cX5_upHeap 52 = .ok (.iconst 1, 1) := dk_4 (dk_at dksX5_upHeap_2 4 rfl rfl)
theorem dX5_upHeap_53 : decode cX5_upHeap 53 = .ok (.isub, 1) := dk_100 (dk_at dksX5_upHeap_2 5 rfl rfl)
theorem dX5_upHeap_54 : decode cX5_upHeap 54 = .ok (.iconst 1, 1) := dk_4 (dk_at dksX5_upHeap_2 6 rfl rfl)
theorem dX5_upHeap_55 : decode cX5_upHeap 55 = .ok (.iushr, 1) := dk_124 (dk_at dksX5_upHeap_2 7 rfl rfl)
theorem dX5_upHeap_56 : decode cX5_upHeap 56 = .ok (.istore 5, 2) := dk_54 5 (dk_at dksX5_upHeap_2 8 rfl rfl)
theorem dX5_upHeap_58 : decode cX5_upHeap 58 = .ok (.aload_n 0, 1) := dk_42 (dk_at dksX5_upHeap_2 10 rfl rfl)
theorem dX5_upHeap_59 : decode cX5_upHeap 59 = .ok (.iload 5, 2) := dk_21 5 (dk_at dksX5_upHeap_2 11 rfl rfl)
theorem dX5_upHeap_61 : decode cX5_upHeap 61 = .ok (.iaload, 1) := dk_46 (dk_at dksX5_upHeap_2 13 rfl rfl)
theorem dX5_upHeap_62 : decode cX5_upHeap 62 = .ok (.istore 6, 2) := dk_54 6 (dk_at dksX5_upHeap_2 14 rfl rfl)
theorem dX5_upHeap_64 : decode cX5_upHeap 64 = .ok (.aload_n 3, 1) := dk_45 (dk_at dksX5_upHeap_2 16 rfl rfl)
theorem dX5_upHeap_65 : decode cX5_upHeap 65 = .ok (.iload 6, 2) := dk_21 6 (dk_at dksX5_upHeap_2 17 rfl rfl)
theorem dX5_upHeap_67 : decode cX5_upHeap 67 = .ok (.iload 4, 2) := dk_21 4 (dk_at dksX5_upHeap_2 19 rfl rfl)
theorem dX5_upHeap_69 : decode cX5_upHeap 69 = .ok (.invokeinterface 1 3, 5) := by decide +kernel
theorem dX5_upHeap_74 : decode cX5_upHeap 74 = .ok (.ifCond .gt 6, 3) := dk_157 0 6 (dk_at dksX5_upHeap_3 5 rfl rfl)
theorem dX5_upHeap_77 : decode cX5_upHeap 77 = .ok (.goto 14, 3) := dk_167 0 14 (dk_at dksX5_upHeap_3 8 rfl rfl)
theorem dX5_upHeap_80 : decode cX5_upHeap 80 = .ok (.aload_n 0, 1) := dk_42 (dk_at dksX5_upHeap_3 11 rfl rfl)
theorem dX5_upHeap_81 : decode cX5_upHeap 81 = .ok (.iload_n 2, 1) := dk_28 (dk_at dksX5_upHeap_3 12 rfl rfl)
theorem dX5_upHeap_82 : decode cX5_upHeap 82 = .ok (.iload 6, 2) := dk_21 6 (dk_at dksX5_upHeap_3 13 rfl rfl)
theorem dX5_upHeap_84 : decode cX5_upHeap 84 = .ok (.iastore, 1) := dk_79 (dk_at dksX5_upHeap_3 15 rfl rfl)
theorem dX5_upHeap_85 : decode cX5_upHeap 85 = .ok (.iload 5, 2) := dk_21 5 (dk_at dksX5_upHeap_3 16 rfl rfl)
theorem dX5_upHeap_87 : decode cX5_upHeap 87 = .ok (.istore_n 2, 1) := dk_61 (dk_at dksX5_upHeap_3 18 rfl rfl)
theorem dX5_upHeap_88 : decode cX5_upHeap 88 = .ok (.goto (-41), 3) := dk_167 255 215 (dk_at dksX5_upHeap_3 19 rfl rfl)
theorem dX5_upHeap_91 : decode cX5_upHeap 91 = .ok (.aload_n 0, 1) := dk_42 (dk_at dksX5_upHeap_3 22 rfl rfl)
theorem dX5_upHeap_92 : decode cX5_upHeap 92 = .ok (.iload_n 2, 1) := dk_28 (dk_at dksX5_upHeap_3 23 rfl rfl)
theorem dX5_upHeap_93 : decode cX5_upHeap 93 = .ok (.iload 4, 2) := dk_21 4 (dk_at dksX5_upHeap_4 0 rfl rfl)
theorem dX5_upHeap_95 : decode cX5_upHeap 95 = .ok (.iastore, 1) := dk_79 (dk_at dksX5_upHeap_4 2 rfl rfl)
theorem dX5_upHeap_96 : decode cX5_upHeap 96 = .ok (.iload_n 2, 1) := dk_28 (dk_at dksX5_upHeap_4 3 rfl rfl)
theorem dX5_upHeap_97 : decode cX5_upHeap 97 = .ok (.ireturn, 1) := dk_172 (dk_at dksX5_upHeap_4 4 rfl rfl)
abbrev cX5_downHeap : ByteArray := prog_8_method_1_code
def yX5_downHeap : MethodName := ⟨RX5, "downHeap", "([IIILIntComparator;)I"⟩
def dkwX5_downHeap_6 : List UInt8 := [157, 0, 6, 167, 0, 14, 42, 28, 21, 6, 79, 21, 5, 61, 167, 255, 178, 42, 28, 21, 4, 79, 28, 172]
abbrev dktX5_downHeap_6 : List UInt8 := dkwX5_downHeap_6 ++ []
def dkwX5_downHeap_5 : List UInt8 := [156, 0, 12, 42, 21, 7, 89, 54, 5, 46, 54, 6, 45, 21, 4, 21, 6, 185, 0, 1, 3, 0]
abbrev dktX5_downHeap_5 : List UInt8 := dkwX5_downHeap_5 ++ dktX5_downHeap_6
def dkwX5_downHeap_4 : List UInt8 := [21, 5, 4, 96, 54, 7, 21, 7, 27, 162, 0, 27, 45, 42, 21, 7, 46, 21, 6, 185, 0, 1, 3, 0]
abbrev dktX5_downHeap_4 : List UInt8 := dkwX5_downHeap_4 ++ dktX5_downHeap_5
def dkwX5_downHeap_3 : List UInt8 := [21, 5, 61, 167, 255, 190, 28, 4, 120, 4, 96, 89, 54, 5, 27, 162, 0, 72, 42, 21, 5, 46, 54, 6]
abbrev dktX5_downHeap_3 : List UInt8 := dkwX5_downHeap_3 ++ dktX5_downHeap_4
def dkwX5_downHeap_2 : List UInt8 := [42, 21, 7, 89, 54, 5, 46, 54, 6, 21, 4, 21, 6, 163, 0, 6, 167, 0, 95, 42, 28, 21, 6, 79]
abbrev dktX5_downHeap_2 : List UInt8 := dkwX5_downHeap_2 ++ dktX5_downHeap_3
def dkwX5_downHeap_1 : List UInt8 := [46, 54, 6, 21, 5, 4, 96, 54, 7, 21, 7, 27, 162, 0, 21, 42, 21, 7, 46, 21, 6, 162, 0, 12]
abbrev dktX5_downHeap_1 : List UInt8 := dkwX5_downHeap_1 ++ dktX5_downHeap_2
def dkwX5_downHeap_0 : List UInt8 := [42, 28, 46, 54, 4, 45, 199, 0, 72, 28, 4, 120, 4, 96, 89, 54, 5, 27, 162, 0, 141, 42, 21, 5]
abbrev dktX5_downHeap_0 : List UInt8 := dkwX5_downHeap_0 ++ dktX5_downHeap_1
theorem dksX5_downHeap_0 : cX5_downHeap.data.toList.drop 0 = dktX5_downHeap_0 := by decide +kernel
theorem dksX5_downHeap_1 : cX5_downHeap.data.toList.drop 24 = dktX5_downHeap_1 := dk_seg dksX5_downHeap_0 24 rfl rfl
theorem dksX5_downHeap_2 : cX5_downHeap.data.toList.drop 48 = dktX5_downHeap_2 := dk_seg dksX5_downHeap_1 24 rfl rfl
theorem dksX5_downHeap_3 : cX5_downHeap.data.toList.drop 72 = dktX5_downHeap_3 := dk_seg dksX5_downHeap_2 24 rfl rfl
theorem dksX5_downHeap_4 : cX5_downHeap.data.toList.drop 96 = dktX5_downHeap_4 := dk_seg dksX5_downHeap_3 24 rfl rfl
theorem dksX5_downHeap_5 : cX5_downHeap.data.toList.drop 120 = dktX5_downHeap_5 := dk_seg dksX5_downHeap_4 24 rfl rfl
theorem dksX5_downHeap_6 : cX5_downHeap.data.toList.drop 142 = dktX5_downHeap_6 := dk_seg dksX5_downHeap_5 22 rfl rfl
theorem dX5_downHeap_0 : decode cX5_downHeap 0 = .ok (.aload_n 0, 1) := dk_42 (dk_at dksX5_downHeap_0 0 rfl rfl)
theorem dX5_downHeap_1 : decode cX5_downHeap 1 = .ok (.iload_n 2, 1) := dk_28 (dk_at dksX5_downHeap_0 1 rfl rfl)
theorem dX5_downHeap_2 : decode cX5_downHeap 2 = .ok (.iaload, 1) := dk_46 (dk_at dksX5_downHeap_0 2 rfl rfl)
theorem dX5_downHeap_3 : decode cX5_downHeap 3 = .ok (.istore 4, 2) := dk_54 4 (dk_at dksX5_downHeap_0 3 rfl rfl)
theorem dX5_downHeap_5 : decode cX5_downHeap 5 = .ok (.aload_n 3, 1) := dk_45 (dk_at dksX5_downHeap_0 5 rfl rfl)
theorem dX5_downHeap_6 : decode cX5_downHeap 6 = .ok (.ifnonnull 72, 3) := dk_199 0 72 (dk_at dksX5_downHeap_0 6 rfl rfl)
theorem dX5_downHeap_9 : decode cX5_downHeap 9 = .ok (.iload_n 2, 1) := dk_28 (dk_at dksX5_downHeap_0 9 rfl rfl)
theorem dX5_downHeap_10 : decode cX5_downHeap 10 = .ok (.iconst 1, 1) := dk_4 (dk_at dksX5_downHeap_0 10 rfl rfl)
theorem dX5_downHeap_11 : decode cX5_downHeap 11 = .ok (.ishl, 1) := dk_120 (dk_at dksX5_downHeap_0 11 rfl rfl)
theorem dX5_downHeap_12 : decode cX5_downHeap 12 = .ok (.iconst 1, 1) := dk_4 (dk_at dksX5_downHeap_0 12 rfl rfl)
theorem dX5_downHeap_13 : decode cX5_downHeap 13 = .ok (.iadd, 1) := dk_96 (dk_at dksX5_downHeap_0 13 rfl rfl)
theorem dX5_downHeap_14 : decode cX5_downHeap 14 = .ok (.dup, 1) := dk_89 (dk_at dksX5_downHeap_0 14 rfl rfl)
theorem dX5_downHeap_15 : decode cX5_downHeap 15 = .ok (.istore 5, 2) := dk_54 5 (dk_at dksX5_downHeap_0 15 rfl rfl)
theorem dX5_downHeap_17 : decode cX5_downHeap 17 = .ok (.iload_n 1, 1) := dk_27 (dk_at dksX5_downHeap_0 17 rfl rfl)
theorem dX5_downHeap_18 : decode cX5_downHeap 18 = .ok (.if_icmp .ge 141, 3) := dk_162 0 141 (dk_at dksX5_downHeap_0 18 rfl rfl)
theorem dX5_downHeap_21 : decode cX5_downHeap 21 = .ok (.aload_n 0, 1) := dk_42 (dk_at dksX5_downHeap_0 21 rfl rfl)
theorem dX5_downHeap_22 : decode cX5_downHeap 22 = .ok (.iload 5, 2) := dk_21 5 (dk_at dksX5_downHeap_0 22 rfl rfl)
theorem dX5_downHeap_24 : decode cX5_downHeap 24 = .ok (.iaload, 1) := dk_46 (dk_at dksX5_downHeap_1 0 rfl rfl)
theorem dX5_downHeap_25 : decode cX5_downHeap 25 = .ok (.istore 6, 2) := dk_54 6 (dk_at dksX5_downHeap_1 1 rfl rfl)
theorem dX5_downHeap_27 : decode cX5_downHeap 27 = .ok (.iload 5, 2) := dk_21 5 (dk_at dksX5_downHeap_1 3 rfl rfl)
theorem dX5_downHeap_29 : decode cX5_downHeap 29 = .ok (.iconst 1, 1) := dk_4 (dk_at dksX5_downHeap_1 5 rfl rfl)
theorem dX5_downHeap_30 : decode cX5_downHeap 30 = .ok (.iadd, 1) := dk_96 (dk_at dksX5_downHeap_1 6 rfl rfl)
theorem dX5_downHeap_31 : decode cX5_downHeap 31 = .ok (.istore 7, 2) := dk_54 7 (dk_at dksX5_downHeap_1 7 rfl rfl)
theorem dX5_downHeap_33 : decode cX5_downHeap 33 = .ok (.iload 7, 2) := dk_21 7 (dk_at dksX5_downHeap_1 9 rfl rfl)
theorem dX5_downHeap_35 : decode cX5_downHeap 35 = .ok (.iload_n 1, 1) := dk_27 (dk_at dksX5_downHeap_1 11 rfl rfl)
theorem dX5_downHeap_36 : decode cX5_downHeap 36 = .ok (.if_icmp .ge 21, 3) := dk_162 0 21 (dk_at dksX5_downHeap_1 12 rfl rfl)
theorem dX5_downHeap_39 : decode cX5_downHeap 39 = .ok (.aload_n 0, 1) := dk_42 (dk_at dksX5_downHeap_1 15 rfl rfl)
theorem dX5_downHeap_40 : decode cX5_downHeap 40 = .ok (.iload 7, 2) := dk_21 7 (dk_at dksX5_downHeap_1 16 rfl rfl)
theorem dX5_downHeap_42 : decode cX5_downHeap 42 = .ok (.iaload, 1) := dk_46 (dk_at dksX5_downHeap_1 18 rfl rfl)
theorem dX5_downHeap_43 : decode cX5_downHeap 43 = .ok (.iload 6, 2) := dk_21 6 (dk_at dksX5_downHeap_1 19 rfl rfl)
theorem dX5_downHeap_45 : decode cX5_downHeap 45 = .ok (.if_icmp .ge 12, 3) := dk_162 0 12 (dk_at dksX5_downHeap_1 21 rfl rfl)
theorem dX5_downHeap_48 : decode cX5_downHeap 48 = .ok (.aload_n 0, 1) := dk_42 (dk_at dksX5_downHeap_2 0 rfl rfl)
theorem dX5_downHeap_49 : decode cX5_downHeap 49 = .ok (.iload 7, 2) := dk_21 7 (dk_at dksX5_downHeap_2 1 rfl rfl)
theorem dX5_downHeap_51 : decode cX5_downHeap 51 = .ok (.dup, 1) := dk_89 (dk_at dksX5_downHeap_2 3 rfl rfl)
theorem dX5_downHeap_52 : decode cX5_downHeap 52 = .ok (.istore 5, 2) := dk_54 5 (dk_at dksX5_downHeap_2 4 rfl rfl)
theorem dX5_downHeap_54 : decode cX5_downHeap 54 = .ok (.iaload, 1) := dk_46 (dk_at dksX5_downHeap_2 6 rfl rfl)
theorem dX5_downHeap_55 : decode cX5_downHeap 55 = .ok (.istore 6, 2) := dk_54 6 (dk_at dksX5_downHeap_2 7 rfl rfl)
theorem dX5_downHeap_57 : decode cX5_downHeap 57 = .ok (.iload 4, 2) := dk_21 4 (dk_at dksX5_downHeap_2 9 rfl rfl)
theorem dX5_downHeap_59 : decode cX5_downHeap 59 = .ok (.iload 6, 2) := dk_21 6 (dk_at dksX5_downHeap_2 11 rfl rfl)
theorem dX5_downHeap_61 : decode cX5_downHeap 61 = .ok (.if_icmp .gt 6, 3) := dk_163 0 6 (dk_at dksX5_downHeap_2 13 rfl rfl)
theorem dX5_downHeap_64 : decode cX5_downHeap 64 = .ok (.goto 95, 3) := dk_167 0 95 (dk_at dksX5_downHeap_2 16 rfl rfl)
theorem dX5_downHeap_67 : decode cX5_downHeap 67 = .ok (.aload_n 0, 1) := dk_42 (dk_at dksX5_downHeap_2 19 rfl rfl)
theorem dX5_downHeap_68 : decode cX5_downHeap 68 = .ok (.iload_n 2, 1) := dk_28 (dk_at dksX5_downHeap_2 20 rfl rfl)
theorem dX5_downHeap_69 : decode cX5_downHeap 69 = .ok (.iload 6, 2) := dk_21 6 (dk_at dksX5_downHeap_2 21 rfl rfl)
theorem dX5_downHeap_71 : decode cX5_downHeap 71 = .ok (.iastore, 1) := dk_79 (dk_at dksX5_downHeap_2 23 rfl rfl)
theorem dX5_downHeap_72 : decode cX5_downHeap 72 = .ok (.iload 5, 2) := dk_21 5 (dk_at dksX5_downHeap_3 0 rfl rfl)
theorem dX5_downHeap_74 : decode cX5_downHeap 74 = .ok (.istore_n 2, 1) := dk_61 (dk_at dksX5_downHeap_3 2 rfl rfl)
theorem dX5_downHeap_75 : decode cX5_downHeap 75 = .ok (.goto (-66), 3) := dk_167 255 190 (dk_at dksX5_downHeap_3 3 rfl rfl)
theorem dX5_downHeap_78 : decode cX5_downHeap 78 = .ok (.iload_n 2, 1) := dk_28 (dk_at dksX5_downHeap_3 6 rfl rfl)
theorem dX5_downHeap_79 : decode cX5_downHeap 79 = .ok (.iconst 1, 1) := dk_4 (dk_at dksX5_downHeap_3 7 rfl rfl)
theorem dX5_downHeap_80 : decode cX5_downHeap 80 = .ok (.ishl, 1) := dk_120 (dk_at dksX5_downHeap_3 8 rfl rfl)
theorem dX5_downHeap_81 : decode cX5_downHeap 81 = .ok (.iconst 1, 1) := dk_4 (dk_at dksX5_downHeap_3 9 rfl rfl)
theorem dX5_downHeap_82 : decode cX5_downHeap 82 = .ok (.iadd, 1) := dk_96 (dk_at dksX5_downHeap_3 10 rfl rfl)
theorem dX5_downHeap_83 : decode cX5_downHeap 83 = .ok (.dup, 1) := dk_89 (dk_at dksX5_downHeap_3 11 rfl rfl)
theorem dX5_downHeap_84 : decode cX5_downHeap 84 = .ok (.istore 5, 2) := dk_54 5 (dk_at dksX5_downHeap_3 12 rfl rfl)
theorem dX5_downHeap_86 : decode cX5_downHeap 86 = .ok (.iload_n 1, 1) := dk_27 (dk_at dksX5_downHeap_3 14 rfl rfl)
theorem dX5_downHeap_87 : decode cX5_downHeap 87 = .ok (.if_icmp .ge 72, 3) := dk_162 0 72 (dk_at dksX5_downHeap_3 15 rfl rfl)
theorem dX5_downHeap_90 : decode cX5_downHeap 90 = .ok (.aload_n 0, 1) := dk_42 (dk_at dksX5_downHeap_3 18 rfl rfl)
theorem dX5_downHeap_91 : decode cX5_downHeap 91 = .ok (.iload 5, 2) := dk_21 5 (dk_at dksX5_downHeap_3 19 rfl rfl)
theorem dX5_downHeap_93 : decode cX5_downHeap 93 = .ok (.iaload, 1) := dk_46 (dk_at dksX5_downHeap_3 21 rfl rfl)
theorem dX5_downHeap_94 : decode cX5_downHeap 94 = .ok (.istore 6, 2) := dk_54 6 (dk_at dksX5_downHeap_3 22 rfl rfl)
theorem dX5_downHeap_96 : decode cX5_downHeap 96 = .ok (.iload 5, 2) := dk_21 5 (dk_at dksX5_downHeap_4 0 rfl rfl)
theorem dX5_downHeap_98 : decode cX5_downHeap 98 = .ok (.iconst 1, 1) := dk_4 (dk_at dksX5_downHeap_4 2 rfl rfl)
theorem dX5_downHeap_99 : decode cX5_downHeap 99 = .ok (.iadd, 1) := dk_96 (dk_at dksX5_downHeap_4 3 rfl rfl)
theorem dX5_downHeap_100 : decode cX5_downHeap 100 = .ok (.istore 7, 2) := dk_54 7 (dk_at dksX5_downHeap_4 4 rfl rfl)
theorem dX5_downHeap_102 : decode cX5_downHeap 102 = .ok (.iload 7, 2) := dk_21 7 (dk_at dksX5_downHeap_4 6 rfl rfl)
theorem dX5_downHeap_104 : decode cX5_downHeap 104 = .ok (.iload_n 1, 1) := dk_27 (dk_at dksX5_downHeap_4 8 rfl rfl)
theorem dX5_downHeap_105 : decode cX5_downHeap 105 = .ok (.if_icmp .ge 27, 3) := dk_162 0 27 (dk_at dksX5_downHeap_4 9 rfl rfl)
theorem dX5_downHeap_108 : decode cX5_downHeap 108 = .ok (.aload_n 3, 1) := dk_45 (dk_at dksX5_downHeap_4 12 rfl rfl)
theorem dX5_downHeap_109 : decode cX5_downHeap 109 = .ok (.aload_n 0, 1) := dk_42 (dk_at dksX5_downHeap_4 13 rfl rfl)
theorem dX5_downHeap_110 : decode cX5_downHeap 110 = .ok (.iload 7, 2) := dk_21 7 (dk_at dksX5_downHeap_4 14 rfl rfl)
theorem dX5_downHeap_112 : decode cX5_downHeap 112 = .ok (.iaload, 1) := dk_46 (dk_at dksX5_downHeap_4 16 rfl rfl)
theorem dX5_downHeap_113 : decode cX5_downHeap 113 = .ok (.iload 6, 2) := dk_21 6 (dk_at dksX5_downHeap_4 17 rfl rfl)
theorem dX5_downHeap_115 : decode cX5_downHeap 115 = .ok (.invokeinterface 1 3, 5) := by decide +kernel
theorem dX5_downHeap_120 : decode cX5_downHeap 120 = .ok (.ifCond .ge 12, 3) := dk_156 0 12 (dk_at dksX5_downHeap_5 0 rfl rfl)
theorem dX5_downHeap_123 : decode cX5_downHeap 123 = .ok (.aload_n 0, 1) := dk_42 (dk_at dksX5_downHeap_5 3 rfl rfl)
theorem dX5_downHeap_124 : decode cX5_downHeap 124 = .ok (.iload 7, 2) := dk_21 7 (dk_at dksX5_downHeap_5 4 rfl rfl)
theorem dX5_downHeap_126 : decode cX5_downHeap 126 = .ok (.dup, 1) := dk_89 (dk_at dksX5_downHeap_5 6 rfl rfl)
theorem dX5_downHeap_127 : decode cX5_downHeap 127 = .ok (.istore 5, 2) := dk_54 5 (dk_at dksX5_downHeap_5 7 rfl rfl)
theorem dX5_downHeap_129 : decode cX5_downHeap 129 = .ok (.iaload, 1) := dk_46 (dk_at dksX5_downHeap_5 9 rfl rfl)
theorem dX5_downHeap_130 : decode cX5_downHeap 130 = .ok (.istore 6, 2) := dk_54 6 (dk_at dksX5_downHeap_5 10 rfl rfl)
theorem dX5_downHeap_132 : decode cX5_downHeap 132 = .ok (.aload_n 3, 1) := dk_45 (dk_at dksX5_downHeap_5 12 rfl rfl)
theorem dX5_downHeap_133 : decode cX5_downHeap 133 = .ok (.iload 4, 2) := dk_21 4 (dk_at dksX5_downHeap_5 13 rfl rfl)
theorem dX5_downHeap_135 : decode cX5_downHeap 135 = .ok (.iload 6, 2) := dk_21 6 (dk_at dksX5_downHeap_5 15 rfl rfl)
theorem dX5_downHeap_137 : decode cX5_downHeap 137 = .ok (.invokeinterface 1 3, 5) := by decide +kernel
theorem dX5_downHeap_142 : decode cX5_downHeap 142 = .ok (.ifCond .gt 6, 3) := dk_157 0 6 (dk_at dksX5_downHeap_6 0 rfl rfl)
theorem dX5_downHeap_145 : decode cX5_downHeap 145 = .ok (.goto 14, 3) := dk_167 0 14 (dk_at dksX5_downHeap_6 3 rfl rfl)
theorem dX5_downHeap_148 : decode cX5_downHeap 148 = .ok (.aload_n 0, 1) := dk_42 (dk_at dksX5_downHeap_6 6 rfl rfl)
theorem dX5_downHeap_149 : decode cX5_downHeap 149 = .ok (.iload_n 2, 1) := dk_28 (dk_at dksX5_downHeap_6 7 rfl rfl)
theorem dX5_downHeap_150 : decode cX5_downHeap 150 = .ok (.iload 6, 2) := dk_21 6 (dk_at dksX5_downHeap_6 8 rfl rfl)
theorem dX5_downHeap_152 : decode cX5_downHeap 152 = .ok (.iastore, 1) := dk_79 (dk_at dksX5_downHeap_6 10 rfl rfl)
theorem dX5_downHeap_153 : decode cX5_downHeap 153 = .ok (.iload 5, 2) := dk_21 5 (dk_at dksX5_downHeap_6 11 rfl rfl)
theorem dX5_downHeap_155 : decode cX5_downHeap 155 = .ok (.istore_n 2, 1) := dk_61 (dk_at dksX5_downHeap_6 13 rfl rfl)
theorem dX5_downHeap_156 : decode cX5_downHeap 156 = .ok (.goto (-78), 3) := dk_167 255 178 (dk_at dksX5_downHeap_6 14 rfl rfl)
theorem dX5_downHeap_159 : decode cX5_downHeap 159 = .ok (.aload_n 0, 1) := dk_42 (dk_at dksX5_downHeap_6 17 rfl rfl)
theorem dX5_downHeap_160 : decode cX5_downHeap 160 = .ok (.iload_n 2, 1) := dk_28 (dk_at dksX5_downHeap_6 18 rfl rfl)
theorem dX5_downHeap_161 : decode cX5_downHeap 161 = .ok (.iload 4, 2) := dk_21 4 (dk_at dksX5_downHeap_6 19 rfl rfl)
theorem dX5_downHeap_163 : decode cX5_downHeap 163 = .ok (.iastore, 1) := dk_79 (dk_at dksX5_downHeap_6 21 rfl rfl)
theorem dX5_downHeap_164 : decode cX5_downHeap 164 = .ok (.iload_n 2, 1) := dk_28 (dk_at dksX5_downHeap_6 22 rfl rfl)
theorem dX5_downHeap_165 : decode cX5_downHeap 165 = .ok (.ireturn, 1) := dk_172 (dk_at dksX5_downHeap_6 23 rfl rfl)
theorem q11 : (Jvm.Cond.initialized "IntHeaps") ∈ lw_all := lw_g (lw_at lw_m1 8 rfl) rfl
theorem q91 : (Jvm.Cond.static ({ cls := "IntHeaps", name := "upHeap", desc := "([IIILIntComparator;)I" } : Jvm.MethodName)) ∈ lw_all := lw_g (lw_at lw_m1 88 rfl) rfl
theorem q92 : (Jvm.Cond.code ({ cls := "IntHeaps", name := "upHeap", desc := "([IIILIntComparator;)I" } : Jvm.MethodName) prog_8_method_2_code (7 : Nat) (Option.some Jvm.ClassFile.FieldType.int)) ∈ lw_all := lw_g (lw_at lw_m1 89 rfl) rfl
theorem q93 : (Jvm.Cond.interfaceEntry "IntHeaps" (1 : Nat)) ∈ lw_tbl := lw_at lw_m1 90 rfl
theorem q94 : (Jvm.Cond.methodLink "IntHeaps" (1 : Nat) ({ cls := "IntComparator", name := "compare", desc := "(II)I" } : Jvm.MethodName)) ∈ lw_all := lw_g (lw_at lw_m1 91 rfl) rfl
theorem q186 : (Jvm.Cond.static ({ cls := "IntHeaps", name := "downHeap", desc := "([IIILIntComparator;)I" } : Jvm.MethodName)) ∈ lw_all := lw_g (lw_at lw_m1 183 rfl) rfl
theorem q187 : (Jvm.Cond.code ({ cls := "IntHeaps", name := "downHeap", desc := "([IIILIntComparator;)I" } : Jvm.MethodName) prog_8_method_1_code (8 : Nat) (Option.some Jvm.ClassFile.FieldType.int)) ∈ lw_all := lw_g (lw_at lw_m1 184 rfl) rfl
/-! java/lang/Math -/
set_option maxRecDepth 100000
def RJ0 : String := "java/lang/Math"
abbrev cJ0_min : ByteArray := prog_16_method_70_code
def yJ0_min : MethodName := ⟨RJ0, "min", "(JJ)J"⟩
def dkwJ0_min_0 : List UInt8 := [30, 32, 148, 157, 0, 7, 30, 167, 0, 4, 32, 173]
abbrev dktJ0_min_0 : List UInt8 := dkwJ0_min_0 ++ []
theorem dksJ0_min_0 : cJ0_min.data.toList.drop 0 = dktJ0_min_0 := by decide +kernel
theorem dJ0_min_0 : decode cJ0_min 0 = .ok (.lload_n 0, 1) := dk_30 (dk_at dksJ0_min_0 0 rfl rfl)
theorem dJ0_min_1 : decode cJ0_min 1 = .ok (.lload_n 2, 1) := dk_32 (dk_at dksJ0_min_0 1 rfl rfl)
theorem dJ0_min_2 : decode cJ0_min 2 = .ok (.lcmp, 1) := dk_148 (dk_at dksJ0_min_0 2 rfl rfl)
theorem dJ0_min_3 : decode cJ0_min 3 = .ok (.ifCond .gt 7, 3) := dk_157 0 7 (dk_at dksJ0_min_0 3 rfl rfl)
theorem dJ0_min_6 : decode cJ0_min 6 = .ok (.lload_n 0, 1) := dk_30 (dk_at dksJ0_min_0 6 rfl rfl)
theorem dJ0_min_7 : decode cJ0_min 7 = .ok (.goto 4, 3) := dk_167 0 4 (dk_at dksJ0_min_0 7 rfl rfl)
theorem dJ0_min_10 : decode cJ0_min 10 = .ok (.lload_n 2, 1) := dk_32 (dk_at dksJ0_min_0 10 rfl rfl)
theorem dJ0_min_11 : decode cJ0_min 11 = .ok (.lreturn, 1) := dk_173 (dk_at dksJ0_min_0 11 rfl rfl)
abbrev cJ0_max : ByteArray := prog_16_method_66_code
def yJ0_max : MethodName := ⟨RJ0, "max", "(JJ)J"⟩
def dkwJ0_max_0 : List UInt8 := [30, 32, 148, 155, 0, 7, 30, 167, 0, 4, 32, 173]
abbrev dktJ0_max_0 : List UInt8 := dkwJ0_max_0 ++ []
theorem dksJ0_max_0 : cJ0_max.data.toList.drop 0 = dktJ0_max_0 := by decide +kernel
theorem dJ0_max_0 : decode cJ0_max 0 = .ok (.lload_n 0, 1) := dk_30 (dk_at dksJ0_max_0 0 rfl rfl)
theorem dJ0_max_1 : decode cJ0_max 1 = .ok (.lload_n 2, 1) := dk_32 (dk_at dksJ0_max_0 1 rfl rfl)
theorem dJ0_max_2 : decode cJ0_max 2 = .ok (.lcmp, 1) := dk_148 (dk_at dksJ0_max_0 2 rfl rfl)
theorem dJ0_max_3 : decode cJ0_max 3 = .ok (.ifCond .lt 7, 3) := dk_155 0 7 (dk_at dksJ0_max_0 3 rfl rfl)
theorem dJ0_max_6 : decode cJ0_max 6 = .ok (.lload_n 0, 1) := dk_30 (dk_at dksJ0_max_0 6 rfl rfl)
theorem dJ0_max_7 : decode cJ0_max 7 = .ok (.goto 4, 3) := dk_167 0 4 (dk_at dksJ0_max_0 7 rfl rfl)
theorem dJ0_max_10 : decode cJ0_max 10 = .ok (.lload_n 2, 1) := dk_32 (dk_at dksJ0_max_0 10 rfl rfl)
theorem dJ0_max_11 : decode cJ0_max 11 = .ok (.lreturn, 1) := dk_173 (dk_at dksJ0_max_0 11 rfl rfl)
abbrev cJ0_min_2 : ByteArray := prog_16_method_69_code
def yJ0_min_2 : MethodName := ⟨RJ0, "min", "(II)I"⟩
def dkwJ0_min_2_0 : List UInt8 := [26, 27, 163, 0, 7, 26, 167, 0, 4, 27, 172]
abbrev dktJ0_min_2_0 : List UInt8 := dkwJ0_min_2_0 ++ []
theorem dksJ0_min_2_0 : cJ0_min_2.data.toList.drop 0 = dktJ0_min_2_0 := by decide +kernel
theorem dJ0_min_2_0 : decode cJ0_min_2 0 = .ok (.iload_n 0, 1) := dk_26 (dk_at dksJ0_min_2_0 0 rfl rfl)
theorem dJ0_min_2_1 : decode cJ0_min_2 1 = .ok (.iload_n 1, 1) := dk_27 (dk_at dksJ0_min_2_0 1 rfl rfl)
theorem dJ0_min_2_2 : decode cJ0_min_2 2 = .ok (.if_icmp .gt 7, 3) := dk_163 0 7 (dk_at dksJ0_min_2_0 2 rfl rfl)
theorem dJ0_min_2_5 : decode cJ0_min_2 5 = .ok (.iload_n 0, 1) := dk_26 (dk_at dksJ0_min_2_0 5 rfl rfl)
theorem dJ0_min_2_6 : decode cJ0_min_2 6 = .ok (.goto 4, 3) := dk_167 0 4 (dk_at dksJ0_min_2_0 6 rfl rfl)
theorem dJ0_min_2_9 : decode cJ0_min_2 9 = .ok (.iload_n 1, 1) := dk_27 (dk_at dksJ0_min_2_0 9 rfl rfl)
theorem dJ0_min_2_10 : decode cJ0_min_2 10 = .ok (.ireturn, 1) := dk_172 (dk_at dksJ0_min_2_0 10 rfl rfl)
theorem q9 : (Jvm.Cond.initialized "java/lang/Math") ∈ lw_all := lw_g (lw_at lw_m1 6 rfl) rfl
theorem q82 : (Jvm.Cond.static ({ cls := "java/lang/Math", name := "min", desc := "(JJ)J" } : Jvm.MethodName)) ∈ lw_all := lw_g (lw_at lw_m1 79 rfl) rfl
theorem q83 : (Jvm.Cond.code ({ cls := "java/lang/Math", name := "min", desc := "(JJ)J" } : Jvm.MethodName) prog_16_method_70_code (4 : Nat) (Option.some Jvm.ClassFile.FieldType.long)) ∈ lw_all := lw_g (lw_at lw_m1 80 rfl) rfl
theorem q85 : (Jvm.Cond.static ({ cls := "java/lang/Math", name := "max", desc := "(JJ)J" } : Jvm.MethodName)) ∈ lw_all := lw_g (lw_at lw_m1 82 rfl) rfl
theorem q86 : (Jvm.Cond.code ({ cls := "java/lang/Math", name := "max", desc := "(JJ)J" } : Jvm.MethodName) prog_16_method_66_code (4 : Nat) (Option.some Jvm.ClassFile.FieldType.long)) ∈ lw_all := lw_g (lw_at lw_m1 83 rfl) rfl
theorem q237 : (Jvm.Cond.static ({ cls := "java/lang/Math", name := "min", desc := "(II)I" } : Jvm.MethodName)) ∈ lw_all := lw_g (lw_at lw_m1 234 rfl) rfl
theorem q238 : (Jvm.Cond.code ({ cls := "java/lang/Math", name := "min", desc := "(II)I" } : Jvm.MethodName) prog_16_method_69_code (2 : Nat) (Option.some Jvm.ClassFile.FieldType.int)) ∈ lw_all := lw_g (lw_at lw_m1 235 rfl) rfl
/-! java/lang/Integer -/
set_option maxRecDepth 100000
def RJ5 : String := "java/lang/Integer"
abbrev cJ5_compare : ByteArray := prog_15_method_40_code
def yJ5_compare : MethodName := ⟨RJ5, "compare", "(II)I"⟩
def dkwJ5_compare_0 : List UInt8 := [26, 27, 162, 0, 7, 2, 167, 0, 13, 26, 27, 160, 0, 7, 3, 167, 0, 4, 4, 172]
abbrev dktJ5_compare_0 : List UInt8 := dkwJ5_compare_0 ++ []
theorem dksJ5_compare_0 : cJ5_compare.data.toList.drop 0 = dktJ5_compare_0 := by decide +kernel
theorem dJ5_compare_0 : decode cJ5_compare 0 = .ok (.iload_n 0, 1) := dk_26 (dk_at dksJ5_compare_0 0 rfl rfl)
theorem dJ5_compare_1 : decode cJ5_compare 1 = .ok (.iload_n 1, 1) := dk_27 (dk_at dksJ5_compare_0 1 rfl rfl)
theorem dJ5_compare_2 : decode cJ5_compare 2 = .ok (.if_icmp .ge 7, 3) := dk_162 0 7 (dk_at dksJ5_compare_0 2 rfl rfl)
theorem dJ5_compare_5 : decode cJ5_compare 5 = .ok (.iconst (-1), 1) := dk_2 (dk_at dksJ5_compare_0 5 rfl rfl)
theorem dJ5_compare_6 : decode cJ5_compare 6 = .ok (.goto 13, 3) := dk_167 0 13 (dk_at dksJ5_compare_0 6 rfl rfl)
theorem dJ5_compare_9 : decode cJ5_compare 9 = .ok (.iload_n 0, 1) := dk_26 (dk_at dksJ5_compare_0 9 rfl rfl)
theorem dJ5_compare_10 : decode cJ5_compare 10 = .ok (.iload_n 1, 1) := dk_27 (dk_at dksJ5_compare_0 10 rfl rfl)
theorem dJ5_compare_11 : decode cJ5_compare 11 = .ok (.if_icmp .ne 7, 3) := dk_160 0 7 (dk_at dksJ5_compare_0 11 rfl rfl)
theorem dJ5_compare_14 : decode cJ5_compare 14 = .ok (.iconst 0, 1) := dk_3 (dk_at dksJ5_compare_0 14 rfl rfl)
theorem dJ5_compare_15 : decode cJ5_compare 15 = .ok (.goto 4, 3) := dk_167 0 4 (dk_at dksJ5_compare_0 15 rfl rfl)
theorem dJ5_compare_18 : decode cJ5_compare 18 = .ok (.iconst 1, 1) := dk_4 (dk_at dksJ5_compare_0 18 rfl rfl)
theorem dJ5_compare_19 : decode cJ5_compare 19 = .ok (.ireturn, 1) := dk_172 (dk_at dksJ5_compare_0 19 rfl rfl)
theorem q16 : (Jvm.Cond.initialized "java/lang/Integer") ∈ lw_all := lw_g (lw_at lw_m1 13 rfl) rfl
theorem q231 : (Jvm.Cond.static ({ cls := "java/lang/Integer", name := "compare", desc := "(II)I" } : Jvm.MethodName)) ∈ lw_all := lw_g (lw_at lw_m1 228 rfl) rfl
theorem q232 : (Jvm.Cond.code ({ cls := "java/lang/Integer", name := "compare", desc := "(II)I" } : Jvm.MethodName) prog_15_method_40_code (2 : Nat) (Option.some Jvm.ClassFile.FieldType.int)) ∈ lw_all := lw_g (lw_at lw_m1 229 rfl) rfl
/-! java/util/Arrays -/
set_option maxRecDepth 100000
def RJ6 : String := "java/util/Arrays"
abbrev cJ6_copyOf : ByteArray := prog_20_method_123_code
def yJ6_copyOf : MethodName := ⟨RJ6, "copyOf", "([II)[I"⟩
def dkwJ6_copyOf_1 : List UInt8 := [27, 184, 1, 48, 184, 0, 150, 44, 176]
abbrev dktJ6_copyOf_1 : List UInt8 := dkwJ6_copyOf_1 ++ []
def dkwJ6_copyOf_0 : List UInt8 := [27, 42, 190, 160, 0, 11, 42, 182, 1, 60, 192, 1, 61, 176, 27, 188, 10, 77, 42, 3, 44, 3, 42, 190]
abbrev dktJ6_copyOf_0 : List UInt8 := dkwJ6_copyOf_0 ++ dktJ6_copyOf_1
theorem dksJ6_copyOf_0 : cJ6_copyOf.data.toList.drop 0 = dktJ6_copyOf_0 := by decide +kernel
theorem dksJ6_copyOf_1 : cJ6_copyOf.data.toList.drop 24 = dktJ6_copyOf_1 := dk_seg dksJ6_copyOf_0 24 rfl rfl
theorem dJ6_copyOf_0 : decode cJ6_copyOf 0 = .ok (.iload_n 1, 1) := dk_27 (dk_at dksJ6_copyOf_0 0 rfl rfl)
theorem dJ6_copyOf_1 : decode cJ6_copyOf 1 = .ok (.aload_n 0, 1) := dk_42 (dk_at dksJ6_copyOf_0 1 rfl rfl)
theorem dJ6_copyOf_2 : decode cJ6_copyOf 2 = .ok (.arraylength, 1) := dk_190 (dk_at dksJ6_copyOf_0 2 rfl rfl)
theorem dJ6_copyOf_3 : decode cJ6_copyOf 3 = .ok (.if_icmp .ne 11, 3) := dk_160 0 11 (dk_at dksJ6_copyOf_0 3 rfl rfl)
theorem dJ6_copyOf_6 : decode cJ6_copyOf 6 = .ok (.aload_n 0, 1) := dk_42 (dk_at dksJ6_copyOf_0 6 rfl rfl)
theorem dJ6_copyOf_7 : decode cJ6_copyOf 7 = .ok (.invokevirtual 316, 3) := dk_182 1 60 (dk_at dksJ6_copyOf_0 7 rfl rfl)
theorem dJ6_copyOf_10 : decode cJ6_copyOf 10 = .ok (.checkcast 317, 3) := dk_192 1 61 (dk_at dksJ6_copyOf_0 10 rfl rfl)
theorem dJ6_copyOf_13 : decode cJ6_copyOf 13 = .ok (.areturn, 1) := dk_176 (dk_at dksJ6_copyOf_0 13 rfl rfl)
theorem dJ6_copyOf_14 : decode cJ6_copyOf 14 = .ok (.iload_n 1, 1) := dk_27 (dk_at dksJ6_copyOf_0 14 rfl rfl)
theorem dJ6_copyOf_15 : decode cJ6_copyOf 15 = .ok (.newarray .int, 2) := dk_188_10 (dk_at dksJ6_copyOf_0 15 rfl rfl)
theorem dJ6_copyOf_17 : decode cJ6_copyOf 17 = .ok (.astore_n 2, 1) := dk_77 (dk_at dksJ6_copyOf_0 17 rfl rfl)
theorem dJ6_copyOf_18 : decode cJ6_copyOf 18 = .ok (.aload_n 0, 1) := dk_42 (dk_at dksJ6_copyOf_0 18 rfl rfl)
theorem dJ6_copyOf_19 : decode cJ6_copyOf 19 = .ok (.iconst 0, 1) := dk_3 (dk_at dksJ6_copyOf_0 19 rfl rfl)
theorem dJ6_copyOf_20 : decode cJ6_copyOf 20 = .ok (.aload_n 2, 1) := dk_44 (dk_at dksJ6_copyOf_0 20 rfl rfl)
theorem dJ6_copyOf_21 : decode cJ6_copyOf 21 = .ok (.iconst 0, 1) := dk_3 (dk_at dksJ6_copyOf_0 21 rfl rfl)
theorem dJ6_copyOf_22 : decode cJ6_copyOf 22 = .ok (.aload_n 0, 1) := dk_42 (dk_at dksJ6_copyOf_0 22 rfl rfl)
theorem dJ6_copyOf_23 : decode cJ6_copyOf 23 = .ok (.arraylength, 1) := dk_190 (dk_at dksJ6_copyOf_0 23 rfl rfl)
theorem dJ6_copyOf_24 : decode cJ6_copyOf 24 = .ok (.iload_n 1, 1) := dk_27 (dk_at dksJ6_copyOf_1 0 rfl rfl)
theorem dJ6_copyOf_25 : decode cJ6_copyOf 25 = .ok (.invokestatic 304, 3) := dk_184 1 48 (dk_at dksJ6_copyOf_1 1 rfl rfl)
theorem dJ6_copyOf_28 : decode cJ6_copyOf 28 = .ok (.invokestatic 150, 3) := dk_184 0 150 (dk_at dksJ6_copyOf_1 4 rfl rfl)
theorem dJ6_copyOf_31 : decode cJ6_copyOf 31 = .ok (.aload_n 2, 1) := dk_44 (dk_at dksJ6_copyOf_1 7 rfl rfl)
theorem dJ6_copyOf_32 : decode cJ6_copyOf 32 = .ok (.areturn, 1) := dk_176 (dk_at dksJ6_copyOf_1 8 rfl rfl)
theorem q17 : (Jvm.Cond.initialized "java/util/Arrays") ∈ lw_all := lw_g (lw_at lw_m1 14 rfl) rfl
theorem q258 : (Jvm.Cond.static ({ cls := "java/util/Arrays", name := "copyOf", desc := "([II)[I" } : Jvm.MethodName)) ∈ lw_all := lw_g (lw_at lw_m2 15 rfl) rfl
theorem q259 : (Jvm.Cond.code ({ cls := "java/util/Arrays", name := "copyOf", desc := "([II)[I" } : Jvm.MethodName) prog_20_method_123_code (3 : Nat) (Option.some (Jvm.ClassFile.FieldType.array Jvm.ClassFile.FieldType.int))) ∈ lw_all := lw_g (lw_at lw_m2 16 rfl) rfl
theorem q260 : (Jvm.Cond.methodLink "java/util/Arrays" (316 : Nat) ({ cls := "[I", name := "clone", desc := "()Ljava/lang/Object;" } : Jvm.MethodName)) ∈ lw_all := lw_g (lw_at lw_m2 17 rfl) rfl
theorem q266 : (Jvm.Cond.classLink "java/util/Arrays" (317 : Nat) "[I") ∈ lw_all := lw_g (lw_at lw_m2 23 rfl) rfl
theorem q267 : (Jvm.Cond.methodLink "java/util/Arrays" (304 : Nat) ({ cls := "java/lang/Math", name := "min", desc := "(II)I" } : Jvm.MethodName)) ∈ lw_all := lw_g (lw_at lw_m2 24 rfl) rfl
theorem q268 : (Jvm.Cond.methodLink "java/util/Arrays" (150 : Nat) ({ cls := "java/lang/System", name := "arraycopy", desc := "(Ljava/lang/Object;ILjava/lang/Object;II)V" } : Jvm.MethodName)) ∈ lw_all := lw_g (lw_at lw_m2 25 rfl) rfl
/-! java/lang/Object -/
set_option maxRecDepth 100000
def RJ7 : String := "java/lang/Object"
abbrev cJ7_init : ByteArray := object_method_1_code
def yJ7_init : MethodName := ⟨RJ7, "<init>", "()V"⟩
theorem dJ7_init_0 : decode cJ7_init 0 = .ok (.return_, 1) := by decide +kernel
theorem q24 : (Jvm.Cond.instanceMethod ({ cls := "java/lang/Object", name := "<init>", desc := "()V" } : Jvm.MethodName)) ∈ lw_all := lw_g (lw_at lw_m1 21 rfl) rfl
theorem q25 : (Jvm.Cond.code ({ cls := "java/lang/Object", name := "<init>", desc := "()V" } : Jvm.MethodName) object_method_1_code (1 : Nat) (Option.none : Option Jvm.ClassFile.FieldType)) ∈ lw_all := lw_g (lw_at lw_m1 22 rfl) rfl
theorem q262 : (Jvm.Cond.native ({ cls := "java/lang/Object", name := "clone", desc := "()Ljava/lang/Object;" } : Jvm.MethodName)) ∈ lw_all := lw_g (lw_at lw_m2 19 rfl) rfl
theorem q263 : (Jvm.Cond.instanceMethod ({ cls := "java/lang/Object", name := "clone", desc := "()Ljava/lang/Object;" } : Jvm.MethodName)) ∈ lw_all := lw_g (lw_at lw_m2 20 rfl) rfl
theorem q353 : (Jvm.Cond.initialized "java/lang/Object") ∈ lw_all := lw_g (lw_at lw_m2 110 rfl) rfl
end
section
/-! IntArrays -/
set_option maxRecDepth 100000
def RX3 : String := "IntArrays"
abbrev cX3_grow : ByteArray := prog_5_method_1_code
def yX3_grow : MethodName := ⟨RX3, "grow", "([II)[I"⟩
def dkwX3_grow_0 : List UInt8 := [42, 27, 42, 190, 184, 0, 5, 176]
abbrev dktX3_grow_0 : List UInt8 := dkwX3_grow_0 ++ []
theorem dksX3_grow_0 : cX3_grow.data.toList.drop 0 = dktX3_grow_0 := by decide +kernel
theorem dX3_grow_0 : decode cX3_grow 0 = .ok (.aload_n 0, 1) := dk_42 (dk_at dksX3_grow_0 0 rfl rfl)
theorem dX3_grow_1 : decode cX3_grow 1 = .ok (.iload_n 1, 1) := dk_27 (dk_at dksX3_grow_0 1 rfl rfl)
theorem dX3_grow_2 : decode cX3_grow 2 = .ok (.aload_n 0, 1) := dk_42 (dk_at dksX3_grow_0 2 rfl rfl)
theorem dX3_grow_3 : decode cX3_grow 3 = .ok (.arraylength, 1) := dk_190 (dk_at dksX3_grow_0 3 rfl rfl)
theorem dX3_grow_4 : decode cX3_grow 4 = .ok (.invokestatic 5, 3) := dk_184 0 5 (dk_at dksX3_grow_0 4 rfl rfl)
theorem dX3_grow_7 : decode cX3_grow 7 = .ok (.areturn, 1) := dk_176 (dk_at dksX3_grow_0 7 rfl rfl)
abbrev cX3_grow_2 : ByteArray := prog_5_method_2_code
def yX3_grow_2 : MethodName := ⟨RX3, "grow", "([III)[I"⟩
def dkwX3_grow_2_1 : List UInt8 := [184, 0, 19, 136, 62, 29, 188, 10, 58, 4, 42, 3, 25, 4, 3, 28, 184, 0, 22, 25, 4, 176, 42, 176]
abbrev dktX3_grow_2_1 : List UInt8 := dkwX3_grow_2_1 ++ []
def dkwX3_grow_2_0 : List UInt8 := [27, 42, 190, 164, 0, 42, 42, 190, 133, 42, 190, 4, 122, 133, 97, 20, 0, 11, 184, 0, 13, 27, 133]
abbrev dktX3_grow_2_0 : List UInt8 := dkwX3_grow_2_0 ++ dktX3_grow_2_1
theorem dksX3_grow_2_0 : cX3_grow_2.data.toList.drop 0 = dktX3_grow_2_0 := by decide +kernel
theorem dksX3_grow_2_1 : cX3_grow_2.data.toList.drop 23 = dktX3_grow_2_1 := dk_seg dksX3_grow_2_0 23 rfl rfl
theorem dX3_grow_2_0 : decode cX3_grow_2 0 = .ok (.iload_n 1, 1) := dk_27 (dk_at dksX3_grow_2_0 0 rfl rfl)
theorem dX3_grow_2_1 : decode cX3_grow_2 1 = .ok (.aload_n 0, 1) := dk_42 (dk_at dksX3_grow_2_0 1 rfl rfl)
theorem dX3_grow_2_2 : decode cX3_grow_2 2 = .ok (.arraylength, 1) := dk_190 (dk_at dksX3_grow_2_0 2 rfl rfl)
theorem dX3_grow_2_3 : decode cX3_grow_2 3 = .ok (.if_icmp .le 42, 3) := dk_164 0 42 (dk_at dksX3_grow_2_0 3 rfl rfl)
theorem dX3_grow_2_6 : decode cX3_grow_2 6 = .ok (.aload_n 0, 1) := dk_42 (dk_at dksX3_grow_2_0 6 rfl rfl)
theorem dX3_grow_2_7 : decode cX3_grow_2 7 = .ok (.arraylength, 1) := dk_190 (dk_at dksX3_grow_2_0 7 rfl rfl)
theorem dX3_grow_2_8 : decode cX3_grow_2 8 = .ok (.i2l, 1) := dk_133 (dk_at dksX3_grow_2_0 8 rfl rfl)
theorem dX3_grow_2_9 : decode cX3_grow_2 9 = .ok (.aload_n 0, 1) := dk_42 (dk_at dksX3_grow_2_0 9 rfl rfl)
theorem dX3_grow_2_10 : decode cX3_grow_2 10 = .ok (.arraylength, 1) := dk_190 (dk_at dksX3_grow_2_0 10 rfl rfl)
theorem dX3_grow_2_11 : decode cX3_grow_2 11 = .ok (.iconst 1, 1) := dk_4 (dk_at dksX3_grow_2_0 11 rfl rfl)
theorem dX3_grow_2_12 : decode cX3_grow_2 12 = .ok (.ishr, 1) := dk_122 (dk_at dksX3_grow_2_0 12 rfl rfl)
theorem dX3_grow_2_13 : decode cX3_grow_2 13 = .ok (.i2l, 1) := dk_133 (dk_at dksX3_grow_2_0 13 rfl rfl)
theorem dX3_grow_2_14 : decode cX3_grow_2 14 = .ok (.ladd, 1) := dk_97 (dk_at dksX3_grow_2_0 14 rfl rfl)
theorem dX3_grow_2_15 : decode cX3_grow_2 15 = .ok (.ldc2_w 11, 3) := dk_20 0 11 (dk_at dksX3_grow_2_0 15 rfl rfl)
theorem dX3_grow_2_18 : decode cX3_grow_2 18 = .ok (.invokestatic 13, 3) := dk_184 0 13 (dk_at dksX3_grow_2_0 18 rfl rfl)
theorem dX3_grow_2_21 : decode cX3_grow_2 21 = .ok (.iload_n 1, 1) := dk_27 (dk_at dksX3_grow_2_0 21 rfl rfl)
theorem dX3_grow_2_22 : decode cX3_grow_2 22 = .ok (.i2l, 1) := dk_133 (dk_at dksX3_grow_2_0 22 rfl rfl)
theorem dX3_grow_2_23 : decode cX3_grow_2 23 = .ok (.invokestatic 19, 3) := dk_184 0 19 (dk_at dksX3_grow_2_1 0 rfl rfl)
theorem dX3_grow_2_26 : decode cX3_grow_2 26 = .ok (.l2i, 1) := dk_136 (dk_at dksX3_grow_2_1 3 rfl rfl)
theorem dX3_grow_2_27 : decode cX3_grow_2 27 = .ok (.istore_n 3, 1) := dk_62 (dk_at dksX3_grow_2_1 4 rfl rfl)
theorem dX3_grow_2_28 : decode cX3_grow_2 28 = .ok (.iload_n 3, 1) := dk_29 (dk_at dksX3_grow_2_1 5 rfl rfl)
theorem dX3_grow_2_29 : decode cX3_grow_2 29 = .ok (.newarray .int, 2) := dk_188_10 (dk_at dksX3_grow_2_1 6 rfl rfl)
theorem dX3_grow_2_31 : decode cX3_grow_2 31 = .ok (.astore 4, 2) := dk_58 4 (dk_at dksX3_grow_2_1 8 rfl rfl)
theorem dX3_grow_2_33 : decode cX3_grow_2 33 = .ok (.aload_n 0, 1) := dk_42 (dk_at dksX3_grow_2_1 10 rfl rfl)
theorem dX3_grow_2_34 : decode cX3_grow_2 34 = .ok (.iconst 0, 1) := dk_3 (dk_at dksX3_grow_2_1 11 rfl rfl)
theorem dX3_grow_2_35 : decode cX3_grow_2 35 = .ok (.aload 4, 2) := dk_25 4 (dk_at dksX3_grow_2_1 12 rfl rfl)
theorem dX3_grow_2_37 : decode cX3_grow_2 37 = .ok (.iconst 0, 1) := dk_3 (dk_at dksX3_grow_2_1 14 rfl rfl)
theorem dX3_grow_2_38 : decode cX3_grow_2 38 = .ok (.iload_n 2, 1) := dk_28 (dk_at dksX3_grow_2_1 15 rfl rfl)
theorem dX3_grow_2_39 : decode cX3_grow_2 39 = .ok (.invokestatic 22, 3) := dk_184 0 22 (dk_at dksX3_grow_2_1 16 rfl rfl)
theorem dX3_grow_2_42 : decode cX3_grow_2 42 = .ok (.aload 4, 2) := dk_25 4 (dk_at dksX3_grow_2_1 19 rfl rfl)
theorem dX3_grow_2_44 : decode cX3_grow_2 44 = .ok (.areturn, 1) := dk_176 (dk_at dksX3_grow_2_1 21 rfl rfl)
theorem dX3_grow_2_45 : decode cX3_grow_2 45 = .ok (.aload_n 0, 1) := dk_42 (dk_at dksX3_grow_2_1 22 rfl rfl)
theorem dX3_grow_2_46 : decode cX3_grow_2 46 = .ok (.areturn, 1) := dk_176 (dk_at dksX3_grow_2_1 23 rfl rfl)
abbrev cX3_quickSort : ByteArray := prog_5_method_8_code
def yX3_quickSort : MethodName := ⟨RX3, "quickSort", "([III)V"⟩
def dkwX3_quickSort_14 : List UInt8 := [89, 54, 12, 4, 164, 0, 12, 42, 28, 21, 12, 100, 28, 184, 0, 48, 177]
abbrev dktX3_quickSort_14 : List UInt8 := dkwX3_quickSort_14 ++ []
def dkwX3_quickSort_13 : List UInt8 := [21, 8, 100, 89, 54, 12, 4, 164, 0, 12, 42, 27, 27, 21, 12, 96, 184, 0, 48, 21, 11, 21, 10, 100]
abbrev dktX3_quickSort_13 : List UInt8 := dkwX3_quickSort_13 ++ dktX3_quickSort_14
def dkwX3_quickSort_12 : List UInt8 := [21, 11, 100, 4, 100, 184, 0, 43, 54, 12, 42, 21, 9, 28, 21, 12, 100, 21, 12, 184, 0, 45, 21, 9]
abbrev dktX3_quickSort_12 : List UInt8 := dkwX3_quickSort_12 ++ dktX3_quickSort_13
def dkwX3_quickSort_11 : List UInt8 := [100, 184, 0, 43, 54, 12, 42, 27, 21, 9, 21, 12, 100, 21, 12, 184, 0, 45, 21, 11, 21, 10, 100, 28]
abbrev dktX3_quickSort_11 : List UInt8 := dkwX3_quickSort_11 ++ dktX3_quickSort_12
def dkwX3_quickSort_10 : List UInt8 := [21, 9, 132, 9, 1, 21, 10, 132, 10, 255, 184, 0, 28, 167, 255, 144, 21, 8, 27, 100, 21, 9, 21, 8]
abbrev dktX3_quickSort_10 : List UInt8 := dkwX3_quickSort_10 ++ dktX3_quickSort_11
def dkwX3_quickSort_9 : List UInt8 := [132, 11, 255, 184, 0, 28, 132, 10, 255, 167, 255, 215, 21, 9, 21, 10, 164, 0, 6, 167, 0, 20, 42]
abbrev dktX3_quickSort_9 : List UInt8 := dkwX3_quickSort_9 ++ dktX3_quickSort_10
def dkwX3_quickSort_8 : List UInt8 := [21, 10, 46, 21, 7, 184, 0, 32, 89, 54, 12, 155, 0, 25, 21, 12, 154, 0, 14, 42, 21, 10, 21, 11]
abbrev dktX3_quickSort_8 : List UInt8 := dkwX3_quickSort_8 ++ dktX3_quickSort_9
def dkwX3_quickSort_7 : List UInt8 := [21, 8, 132, 8, 1, 21, 9, 184, 0, 28, 132, 9, 1, 167, 255, 215, 21, 10, 21, 9, 161, 0, 40, 42]
abbrev dktX3_quickSort_7 : List UInt8 := dkwX3_quickSort_7 ++ dktX3_quickSort_8
def dkwX3_quickSort_6 : List UInt8 := [163, 0, 40, 42, 21, 9, 46, 21, 7, 184, 0, 32, 89, 54, 12, 157, 0, 25, 21, 12, 154, 0, 14, 42]
abbrev dktX3_quickSort_6 : List UInt8 := dkwX3_quickSort_6 ++ dktX3_quickSort_7
def dkwX3_quickSort_5 : List UInt8 := [54, 7, 27, 54, 8, 21, 8, 54, 9, 28, 4, 100, 54, 10, 21, 10, 54, 11, 21, 9, 21, 10]
abbrev dktX3_quickSort_5 : List UInt8 := dkwX3_quickSort_5 ++ dktX3_quickSort_6
def dkwX3_quickSort_4 : List UInt8 := [100, 21, 6, 184, 0, 39, 54, 6, 42, 21, 5, 21, 4, 21, 6, 184, 0, 39, 54, 4, 42, 21, 4, 46]
abbrev dktX3_quickSort_4 : List UInt8 := dkwX3_quickSort_4 ++ dktX3_quickSort_5
def dkwX3_quickSort_3 : List UInt8 := [21, 4, 21, 4, 21, 7, 96, 184, 0, 39, 54, 4, 42, 21, 6, 5, 21, 7, 104, 100, 21, 6, 21, 7]
abbrev dktX3_quickSort_3 : List UInt8 := dkwX3_quickSort_3 ++ dktX3_quickSort_4
def dkwX3_quickSort_2 : List UInt8 := [21, 5, 21, 7, 96, 21, 5, 5, 21, 7, 104, 96, 184, 0, 39, 54, 5, 42, 21, 4, 21, 7, 100]
abbrev dktX3_quickSort_2 : List UInt8 := dkwX3_quickSort_2 ++ dktX3_quickSort_3
def dkwX3_quickSort_1 : List UInt8 := [27, 54, 5, 28, 4, 100, 54, 6, 29, 17, 0, 128, 164, 0, 67, 29, 16, 8, 108, 54, 7, 42, 21, 5]
abbrev dktX3_quickSort_1 : List UInt8 := dkwX3_quickSort_1 ++ dktX3_quickSort_2
def dkwX3_quickSort_0 : List UInt8 := [28, 27, 100, 62, 29, 16, 16, 162, 0, 10, 42, 27, 28, 184, 0, 36, 177, 27, 29, 5, 108, 96, 54, 4]
abbrev dktX3_quickSort_0 : List UInt8 := dkwX3_quickSort_0 ++ dktX3_quickSort_1
theorem dksX3_quickSort_0 : cX3_quickSort.data.toList.drop 0 = dktX3_quickSort_0 := by decide +kernel
theorem dksX3_quickSort_1 : cX3_quickSort.data.toList.drop 24 = dktX3_quickSort_1 := dk_seg dksX3_quickSort_0 24 rfl rfl
theorem dksX3_quickSort_2 : cX3_quickSort.data.toList.drop 48 = dktX3_quickSort_2 := dk_seg dksX3_quickSort_1 24 rfl rfl
theorem dksX3_quickSort_3 : cX3_quickSort.data.toList.drop 71 = dktX3_quickSort_3 := dk_seg dksX3_quickSort_2 23 rfl rfl
theorem dksX3_quickSort_4 : cX3_quickSort.data.toList.drop 95 = dktX3_quickSort_4 := dk_seg dksX3_quickSort_3 24 rfl rfl
theorem dksX3_quickSort_5 : cX3_quickSort.data.toList.drop 119 = dktX3_quickSort_5 := dk_seg dksX3_quickSort_4 24 rfl rfl
theorem dksX3_quickSort_6 : cX3_quickSort.data.toList.drop 141 = dktX3_quickSort_6 := dk_seg dksX3_quickSort_5 22 rfl rfl
theorem dksX3_quickSort_7 : cX3_quickSort.data.toList.drop 165 = dktX3_quickSort_7 := dk_seg dksX3_quickSort_6 24 rfl rfl
theorem dksX3_quickSort_8 : cX3_quickSort.data.toList.drop 189 = dktX3_quickSort_8 := dk_seg dksX3_quickSort_7 24 rfl rfl
theorem dksX3_quickSort_9 : cX3_quickSort.data.toList.drop 213 = dktX3_quickSort_9 := dk_seg dksX3_quickSort_8 24 rfl rfl
theorem dksX3_quickSort_10 : cX3_quickSort.data.toList.drop 236 = dktX3_quickSort_10 := dk_seg dksX3_quickSort_9 23 rfl rfl
theorem dksX3_quickSort_11 : cX3_quickSort.data.toList.drop 260 = dktX3_quickSort_11 := dk_seg dksX3_quickSort_10 24 rfl rfl
theorem dksX3_quickSort_12 : cX3_quickSort.data.toList.drop 284 = dktX3_quickSort_12 := dk_seg dksX3_quickSort_11 24 rfl rfl
theorem dksX3_quickSort_13 : cX3_quickSort.data.toList.drop 308 = dktX3_quickSort_13 := dk_seg dksX3_quickSort_12 24 rfl rfl
theorem dksX3_quickSort_14 : cX3_quickSort.data.toList.drop 332 = dktX3_quickSort_14 := dk_seg dksX3_quickSort_13 24 rfl rfl
theorem dX3_quickSort_0 : decode cX3_quickSort 0 = .ok (.iload_n 2, 1) := dk_28 (dk_at dksX3_quickSort_0 0 rfl rfl)
theorem dX3_quickSort_1 : decode cX3_quickSort 1 = .ok (.iload_n 1, 1) := dk_27 (dk_at dksX3_quickSort_0 1 rfl rfl)
theorem dX3_quickSort_2 : decode cX3_quickSort 2 = .ok (.isub, 1) := dk_100 (dk_at dksX3_quickSort_0 2 rfl rfl)
theorem dX3_quickSort_3 : decode cX3_quickSort 3 = .ok (.istore_n 3, 1) := dk_62 (dk_at dksX3_quickSort_0 3 rfl rfl)
theorem dX3_quickSort_4 : decode cX3_quickSort 4 = .ok (.iload_n 3, 1) := dk_29 (dk_at dksX3_quickSort_0 4 rfl rfl)
theorem dX3_quickSort_5 : decode cX3_quickSort 5 = .ok (.bipush 16, 2) := dk_16 16 (dk_at dksX3_quickSort_0 5 rfl rfl)
theorem dX3_quickSort_7 : decode cX3_quickSort 7 = .ok (.if_icmp .ge 10, 3) := dk_162 0 10 (dk_at dksX3_quickSort_0 7 rfl rfl)
theorem dX3_quickSort_10 : decode cX3_quickSort 10 = .ok (.aload_n 0, 1) := dk_42 (dk_at dksX3_quickSort_0 10 rfl rfl)
theorem dX3_quickSort_11 : decode cX3_quickSort 11 = .ok (.iload_n 1, 1) := dk_27 (dk_at dksX3_quickSort_0 11 rfl rfl)
theorem dX3_quickSort_12 : decode cX3_quickSort 12 = .ok (.iload_n 2, 1) := dk_28 (dk_at dksX3_quickSort_0 12 rfl rfl)
theorem dX3_quickSort_13 : decode cX3_quickSort 13 = .ok (.invokestatic 36, 3) := dk_184 0 36 (dk_at dksX3_quickSort_0 13 rfl rfl)
theorem dX3_quickSort_16 : decode cX3_quickSort 16 = .ok (.return_, 1) := dk_177 (dk_at dksX3_quickSort_0 16 rfl rfl)
theorem dX3_quickSort_17 : decode cX3_quickSort 17 = .ok (.iload_n 1, 1) := dk_27 (dk_at dksX3_quickSort_0 17 rfl rfl)
theorem dX3_quickSort_18 : decode cX3_quickSort 18 = .ok (.iload_n 3, 1) := dk_29 (dk_at dksX3_quickSort_0 18 rfl rfl)
theorem dX3_quickSort_19 : decode cX3_quickSort 19 = .ok (.iconst 2, 1) := dk_5 (dk_at dksX3_quickSort_0 19 rfl rfl)
theorem dX3_quickSort_20 : decode cX3_quickSort 20 = .ok (.idiv, 1) := dk_108 (dk_at dksX3_quickSort_0 20 rfl rfl)
theorem dX3_quickSort_21 : decode cX3_quickSort 21 = .ok (.iadd, 1) := dk_96 (dk_at dksX3_quickSort_0 21 rfl rfl)
theorem dX3_quickSort_22 : decode cX3_quickSort 22 = .ok (.istore 4, 2) := dk_54 4 (dk_at dksX3_quickSort_0 22 rfl rfl)
theorem dX3_quickSort_24 : decode cX3_quickSort 24 = .ok (.iload_n 1, 1) := dk_27 (dk_at dksX3_quickSort_1 0 rfl rfl)
theorem dX3_quickSort_25 : decode cX3_quickSort 25 = .ok (.istore 5, 2) := dk_54 5 (dk_at dksX3_quickSort_1 1 rfl rfl)
theorem dX3_quickSort_27 : decode cX3_quickSort 27 = .ok (.iload_n 2, 1) := dk_28 (dk_at dksX3_quickSort_1 3 rfl rfl)
theorem dX3_quickSort_28 : decode cX3_quickSort 28 = .ok (.iconst 1, 1) := dk_4 (dk_at dksX3_quickSort_1 4 rfl rfl)
theorem dX3_quickSort_29 : decode cX3_quickSort 29 = .ok (.isub, 1) := dk_100 (dk_at dksX3_quickSort_1 5 rfl rfl)
theorem dX3_quickSort_30 : decode cX3_quickSort 30 = .ok (.istore 6, 2) := dk_54 6 (dk_at dksX3_quickSort_1 6 rfl rfl)
theorem dX3_quickSort_32 : decode cX3_quickSort 32 = .ok (.iload_n 3, 1) := dk_29 (dk_at dksX3_quickSort_1 8 rfl rfl)
theorem dX3_quickSort_33 : decode cX3_quickSort 33 = .ok (.sipush 128, 3) := dk_17 0 128 (dk_at dksX3_quickSort_1 9 rfl rfl)
theorem dX3_quickSort_36 : decode cX3_quickSort 36 = .ok (.if_icmp .le 67, 3) := dk_164 0 67 (dk_at dksX3_quickSort_1 12 rfl rfl)
theorem dX3_quickSort_39 : decode cX3_quickSort 39 = .ok (.iload_n 3, 1) := dk_29 (dk_at dksX3_quickSort_1 15 rfl rfl)
theorem dX3_quickSort_40 : decode cX3_quickSort 40 = .ok (.bipush 8, 2) := dk_16 8 (dk_at dksX3_quickSort_1 16 rfl rfl)
theorem dX3_quickSort_42 : decode cX3_quickSort 42 = .ok (.idiv, 1) := dk_108 (dk_at dksX3_quickSort_1 18 rfl rfl)
theorem dX3_quickSort_43 : decode cX3_quickSort 43 = .ok (.istore 7, 2) := dk_54 7 (dk_at dksX3_quickSort_1 19 rfl rfl)
theorem dX3_quickSort_45 : decode cX3_quickSort 45 = .ok (.aload_n 0, 1) := dk_42 (dk_at dksX3_quickSort_1 21 rfl rfl)
theorem dX3_quickSort_46 : decode cX3_quickSort 46 = .ok (.iload 5, 2) := dk_21 5 (dk_at dksX3_quickSort_1 22 rfl rfl)
theorem dX3_quickSort_48 : decode cX3_quickSort 48 = .ok (.iload 5, 2) := dk_21 5 (dk_at dksX3_quickSort_2 0 rfl rfl)
theorem dX3_quickSort_50 : decode cX3_quickSort 50 = .ok (.iload 7, 2) := dk_21 7 (dk_at dksX3_quickSort_2 2 rfl rfl)
theorem dX3_quickSort_52 : decode cX3_quickSort 52 = .ok (.iadd, 1) := dk_96 (dk_at dksX3_quickSort_2 4 rfl rfl)
theorem dX3_quickSort_53 : decode cX3_quickSort 53 = .ok (.iload 5, 2) := dk_21 5 (dk_at dksX3_quickSort_2 5 rfl rfl)
theorem dX3_quickSort_55 : decode cX3_quickSort 55 = .ok (.iconst 2, 1) := dk_5 (dk_at dksX3_quickSort_2 7 rfl rfl)
theorem dX3_quickSort_56 : decode cX3_quickSort 56 = .ok (.iload 7, 2) := dk_21 7 (dk_at dksX3_quickSort_2 8 rfl rfl)
theorem dX3_quickSort_58 : decode cX3_quickSort 58 = .ok (.imul, 1) := dk_104 (dk_at dksX3_quickSort_2 10 rfl rfl)
theorem dX3_quickSort_59 : decode cX3_quickSort 59 = .ok (.iadd, 1) := dk_96 (dk_at dksX3_quickSort_2 11 rfl rfl)
theorem dX3_quickSort_60 : decode cX3_quickSort 60 = .ok (.invokestatic 39, 3) := dk_184 0 39 (dk_at dksX3_quickSort_2 12 rfl rfl)
theorem dX3_quickSort_63 : decode cX3_quickSort 63 = .ok (.istore 5, 2) := dk_54 5 (dk_at dksX3_quickSort_2 15 rfl rfl)
theorem dX3_quickSort_65 : decode cX3_quickSort 65 = .ok (.aload_n 0, 1) := dk_42 (dk_at dksX3_quickSort_2 17 rfl rfl)
theorem dX3_quickSort_66 : decode cX3_quickSort 66 = .ok (.iload 4, 2) := dk_21 4 (dk_at dksX3_quickSort_2 18 rfl rfl)
theorem dX3_quickSort_68 : decode cX3_quickSort 68 = .ok (.iload 7, 2) := dk_21 7 (dk_at dksX3_quickSort_2 20 rfl rfl)
theorem dX3_quickSort_70 : decode cX3_quickSort 70 = .ok (.isub, 1) := dk_100 (dk_at dksX3_quickSort_2 22 rfl rfl)
theorem dX3_quickSort_71 : decode cX3_quickSort 71 = .ok (.iload 4, 2) := dk_21 4 (dk_at dksX3_quickSort_3 0 rfl rfl)
theorem dX3_quickSort_73 : decode cX3_quickSort 73 = .ok (.iload 4, 2) := dk_21 4 (dk_at dksX3_quickSort_3 2 rfl rfl)
theorem dX3_quickSort_75 : decode cX3_quickSort 75 = .ok (.iload 7, 2) := dk_21 7 (dk_at dksX3_quickSort_3 4 rfl rfl)
theorem dX3_quickSort_77 : decode cX3_quickSort 77 = .ok (.iadd, 1) := dk_96 (dk_at dksX3_quickSort_3 6 rfl rfl)
theorem dX3_quickSort_78 : decode cX3_quickSort 78 = .ok (.invokestatic 39, 3) := dk_184 0 39 (dk_at dksX3_quickSort_3 7 rfl rfl)
theorem dX3_quickSort_81 : decode cX3_quickSort 81 = .ok (.istore 4, 2) := dk_54 4 (dk_at dksX3_quickSort_3 10 rfl rfl)
theorem dX3_quickSort_83 : decode cX3_quickSort 83 = .ok (.aload_n 0, 1) := dk_42 (dk_at dksX3_quickSort_3 12 rfl rfl)
theorem dX3_quickSort_84 : decode cX3_quickSort 84 = .ok (.iload 6, 2) := dk_21 6 (dk_at dksX3_quickSort_3 13 rfl rfl)
theorem dX3_quickSort_86 : decode cX3_quickSort 86 = .ok (.iconst 2, 1) := dk_5 (dk_at dksX3_quickSort_3 15 rfl rfl)
theorem dX3_quickSort_87 : decode cX3_quickSort 87 = .ok (.iload 7, 2) := dk_21 7 (dk_at dksX3_quickSort_3 16 rfl rfl)
theorem dX3_quickSort_89 : decode cX3_quickSort 89 = .ok (.imul, 1) := dk_104 (dk_at dksX3_quickSort_3 18 rfl rfl)
theorem dX3_quickSort_90 : decode cX3_quickSort 90 = .ok (.isub, 1) := dk_100 (dk_at dksX3_quickSort_3 19 rfl rfl)
theorem dX3_quickSort_91 : decode cX3_quickSort 91 = .ok (.iload 6, 2) := dk_21 6 (dk_at dksX3_quickSort_3 20 rfl rfl)
theorem dX3_quickSort_93 : decode cX3_quickSort 93 = .ok (.iload 7, 2) := dk_21 7 (dk_at dksX3_quickSort_3 22 rfl rfl)
theorem dX3_quickSort_95 : decode cX3_quickSort 95 = .ok (.isub, 1) := dk_100 (dk_at dksX3_quickSort_4 0 rfl rfl)
theorem dX3_quickSort_96 : decode cX3_quickSort 96 = .ok (.iload 6, 2) := dk_21 6 (dk_at dksX3_quickSort_4 1 rfl rfl)
theorem dX3_quickSort_98 : decode cX3_quickSort 98 = .ok (.invokestatic 39, 3) := dk_184 0 39 (dk_at dksX3_quickSort_4 3 rfl rfl)
theorem dX3_quickSort_101 : decode cX3_quickSort 101 = .ok (.istore 6, 2) := dk_54 6 (dk_at dksX3_quickSort_4 6 rfl rfl)
theorem dX3_quickSort_103 : decode cX3_quickSort 103 = .ok (.aload_n 0, 1) := dk_42 (dk_at dksX3_quickSort_4 8 rfl rfl)
theorem dX3_quickSort_104 : decode cX3_quickSort 104 = .ok (.iload 5, 2) := dk_21 5 (dk_at dksX3_quickSort_4 9 rfl rfl)
theorem dX3_quickSort_106 : decode cX3_quickSort 106 = .ok (.iload 4, 2) := dk_21 4 (dk_at dksX3_quickSort_4 11 rfl rfl)
theorem dX3_quickSort_108 : decode cX3_quickSort 108 = .ok (.iload 6, 2) := dk_21 6 (dk_at dksX3_quickSort_4 13 rfl rfl)
theorem dX3_quickSort_110 : decode cX3_quickSort 110 = .ok (.invokestatic 39, 3) := dk_184 0 39 (dk_at dksX3_quickSort_4 15 rfl rfl)
theorem dX3_quickSort_113 : decode cX3_quickSort 113 = .ok (.istore 4, 2) := dk_54 4 (dk_at dksX3_quickSort_4 18 rfl rfl)
theorem dX3_quickSort_115 : decode cX3_quickSort 115 = .ok (.aload_n 0, 1) := dk_42 (dk_at dksX3_quickSort_4 20 rfl rfl)
theorem dX3_quickSort_116 : decode cX3_quickSort 116 = .ok (.iload 4, 2) := dk_21 4 (dk_at dksX3_quickSort_4 21 rfl rfl)
theorem dX3_quickSort_118 : decode cX3_quickSort 118 = .ok (.iaload, 1) := dk_46 (dk_at dksX3_quickSort_4 23 rfl rfl)
theorem dX3_quickSort_119 : decode cX3_quickSort 119 = .ok (.istore 7, 2) := dk_54 7 (dk_at dksX3_quickSort_5 0 rfl rfl)
theorem dX3_quickSort_121 : decode cX3_quickSort 121 = .ok (.iload_n 1, 1) := dk_27 (dk_at dksX3_quickSort_5 2 rfl rfl)
theorem dX3_quickSort_122 : decode cX3_quickSort 122 = .ok (.istore 8, 2) := dk_54 8 (dk_at dksX3_quickSort_5 3 rfl rfl)
theorem dX3_quickSort_124 : decode cX3_quickSort 124 = .ok (.iload 8, 2) := dk_21 8 (dk_at dksX3_quickSort_5 5 rfl rfl)
theorem dX3_quickSort_126 : decode cX3_quickSort 126 = .ok (.istore 9, 2) := dk_54 9 (dk_at dksX3_quickSort_5 7 rfl rfl)
theorem dX3_quickSort_128 : decode cX3_quickSort 128 = .ok (.iload_n 2, 1) := dk_28 (dk_at dksX3_quickSort_5 9 rfl rfl)
theorem dX3_quickSort_129 : decode cX3_quickSort 129 = .ok (.iconst 1, 1) := dk_4 (dk_at dksX3_quickSort_5 10 rfl rfl)
theorem dX3_quickSort_130 : decode cX3_quickSort 130 = .ok (.isub, 1) := dk_100 (dk_at dksX3_quickSort_5 11 rfl rfl)
theorem dX3_quickSort_131 : decode cX3_quickSort 131 = .ok (.istore 10, 2) := dk_54 10 (dk_at dksX3_quickSort_5 12 rfl rfl)
theorem dX3_quickSort_133 : decode cX3_quickSort 133 = .ok (.iload 10, 2) := dk_21 10 (dk_at dksX3_quickSort_5 14 rfl rfl)
theorem dX3_quickSort_135 : decode cX3_quickSort 135 = .ok (.istore 11, 2) := dk_54 11 (dk_at dksX3_quickSort_5 16 rfl rfl)
theorem dX3_quickSort_137 : decode cX3_quickSort 137 = .ok (.iload 9, 2) := dk_21 9 (dk_at dksX3_quickSort_5 18 rfl rfl)
theorem dX3_quickSort_139 : decode cX3_quickSort 139 = .ok (.iload 10, 2) := dk_21 10 (dk_at dksX3_quickSort_5 20 rfl rfl)
theorem dX3_quickSort_141 : decode cX3_quickSort 141 = .ok (.if_icmp .gt 40, 3) := dk_163 0 40 (dk_at dksX3_quickSort_6 0 rfl rfl)
theorem dX3_quickSort_144 : decode cX3_quickSort 144 = .ok (.aload_n 0, 1) := dk_42 (dk_at dksX3_quickSort_6 3 rfl rfl)
theorem dX3_quickSort_145 : decode cX3_quickSort 145 = .ok (.iload 9, 2) := dk_21 9 (dk_at dksX3_quickSort_6 4 rfl rfl)
theorem dX3_quickSort_147 : decode cX3_quickSort 147 = .ok (.iaload, 1) := dk_46 (dk_at dksX3_quickSort_6 6 rfl rfl)
theorem dX3_quickSort_148 : decode cX3_quickSort 148 = .ok (.iload 7, 2) := dk_21 7 (dk_at dksX3_quickSort_6 7 rfl rfl)
theorem dX3_quickSort_150 : decode cX3_quickSort 150 = .ok (.invokestatic 32, 3) := dk_184 0 32 (dk_at dksX3_quickSort_6 9 rfl rfl)
theorem dX3_quickSort_153 : decode cX3_quickSort 153 = .ok (.dup, 1) := dk_89 (dk_at dksX3_quickSort_6 12 rfl rfl)
theorem dX3_quickSort_154 : decode cX3_quickSort 154 = .ok (.istore 12, 2) := dk_54 12 (dk_at dksX3_quickSort_6 13 rfl rfl)
theorem dX3_quickSort_156 : decode cX3_quickSort 156 = .ok (.ifCond .gt 25, 3) := dk_157 0 25 (dk_at dksX3_quickSort_6 15 rfl rfl)
theorem dX3_quickSort_159 : decode cX3_quickSort 159 = .ok (.iload 12, 2) := dk_21 12 (dk_at dksX3_quickSort_6 18 rfl rfl)
theorem dX3_quickSort_161 : decode cX3_quickSort 161 = .ok (.ifCond .ne 14, 3) := dk_154 0 14 (dk_at dksX3_quickSort_6 20 rfl rfl)
theorem dX3_quickSort_164 : decode cX3_quickSort 164 = .ok (.aload_n 0, 1) := dk_42 (dk_at dksX3_quickSort_6 23 rfl rfl)
theorem dX3_quickSort_165 : decode cX3_quickSort 165 = .ok (.iload 8, 2) := dk_21 8 (dk_at dksX3_quickSort_7 0 rfl rfl)
theorem dX3_quickSort_167 : decode cX3_quickSort 167 = .ok (.iinc 8 1, 3) := dk_132 8 1 (dk_at dksX3_quickSort_7 2 rfl rfl)
theorem dX3_quickSort_170 : decode cX3_quickSort 170 = .ok (.iload 9, 2) := dk_21 9 (dk_at dksX3_quickSort_7 5 rfl rfl)
theorem dX3_quickSort_172 : decode cX3_quickSort 172 = .ok (.invokestatic 28, 3) := dk_184 0 28 (dk_at dksX3_quickSort_7 7 rfl rfl)
theorem dX3_quickSort_175 : decode cX3_quickSort 175 = .ok (.iinc 9 1, 3) := dk_132 9 1 (dk_at dksX3_quickSort_7 10 rfl rfl)
theorem dX3_quickSort_178 : decode cX3_quickSort 178 = .ok (.goto (-41), 3) := dk_167 255 215 (dk_at dksX3_quickSort_7 13 rfl rfl)
theorem dX3_quickSort_181 : decode cX3_quickSort 181 = .ok (.iload 10, 2) := dk_21 10 (dk_at dksX3_quickSort_7 16 rfl rfl)
theorem dX3_quickSort_183 : decode cX3_quickSort 183 = .ok (.iload 9, 2) := dk_21 9 (dk_at dksX3_quickSort_7 18 rfl rfl)
theorem dX3_quickSort_185 : decode cX3_quickSort 185 = .ok (.if_icmp .lt 40, 3) := dk_161 0 40 (dk_at dksX3_quickSort_7 20 rfl rfl)
theorem dX3_quickSort_188 : decode cX3_quickSort 188 = .ok (.aload_n 0, 1) := dk_42 (dk_at dksX3_quickSort_7 23 rfl rfl)
theorem dX3_quickSort_189 : decode cX3_quickSort 189 = .ok (.iload 10, 2) := dk_21 10 (dk_at dksX3_quickSort_8 0 rfl rfl)
theorem dX3_quickSort_191 : decode cX3_quickSort 191 = .ok (.iaload, 1) := dk_46 (dk_at dksX3_quickSort_8 2 rfl rfl)
theorem dX3_quickSort_192 : decode cX3_quickSort 192 = .ok (.iload 7, 2) := dk_21 7 (dk_at dksX3_quickSort_8 3 rfl rfl)
theorem dX3_quickSort_194 : decode cX3_quickSort 194 = .ok (.invokestatic 32, 3) := dk_184 0 32 (dk_at dksX3_quickSort_8 5 rfl rfl)
theorem dX3_quickSort_197 : decode cX3_quickSort 197 = .ok (.dup, 1) := dk_89 (dk_at dksX3_quickSort_8 8 rfl rfl)
theorem dX3_quickSort_198 : decode cX3_quickSort 198 = .ok (.istore 12, 2) := dk_54 12 (dk_at dksX3_quickSort_8 9 rfl rfl)
theorem dX3_quickSort_200 : decode cX3_quickSort 200 = .ok (.ifCond .lt 25, 3) := dk_155 0 25 (dk_at dksX3_quickSort_8 11 rfl rfl)
theorem dX3_quickSort_203 : decode cX3_quickSort 203 = .ok (.iload 12, 2) := dk_21 12 (dk_at dksX3_quickSort_8 14 rfl rfl)
theorem dX3_quickSort_205 : decode cX3_quickSort 205 = .ok (.ifCond .ne 14, 3) := dk_154 0 14 (dk_at dksX3_quickSort_8 16 rfl rfl)
theorem dX3_quickSort_208 : decode cX3_quickSort 208 = .ok (.aload_n 0, 1) := dk_42 (dk_at dksX3_quickSort_8 19 rfl rfl)
theorem dX3_quickSort_209 : decode cX3_quickSort 209 = .ok (.iload 10, 2) := dk_21 10 (dk_at dksX3_quickSort_8 20 rfl rfl)
theorem dX3_quickSort_211 : decode cX3_quickSort 211 = .ok (.iload 11, 2) := dk_21 11 (dk_at dksX3_quickSort_8 22 rfl rfl)
theorem dX3_quickSort_213 : decode cX3_quickSort 213 = .ok (.iinc 11 (-1), 3) := dk_132 11 255 (dk_at dksX3_quickSort_9 0 rfl rfl)
theorem dX3_quickSort_216 : decode cX3_quickSort 216 = .ok (.invokestatic 28, 3) := dk_184 0 28 (dk_at dksX3_quickSort_9 3 rfl rfl)
theorem dX3_quickSort_219 : decode cX3_quickSort 219 = .ok (.iinc 10 (-1), 3) := dk_132 10 255 (dk_at dksX3_quickSort_9 6 rfl rfl)
theorem dX3_quickSort_222 : decode cX3_quickSort 222 = .ok (.goto (-41), 3) := dk_167 255 215 (dk_at dksX3_quickSort_9 9 rfl rfl)
theorem dX3_quickSort_225 : decode cX3_quickSort 225 = .ok (.iload 9, 2) := dk_21 9 (dk_at dksX3_quickSort_9 12 rfl rfl)
theorem dX3_quickSort_227 : decode cX3_quickSort 227 = .ok (.iload 10, 2) := dk_21 10 (dk_at dksX3_quickSort_9 14 rfl rfl)
theorem dX3_quickSort_229 : decode cX3_quickSort 229 = .ok (.if_icmp .le 6, 3) := dk_164 0 6 (dk_at dksX3_quickSort_9 16 rfl rfl)
theorem dX3_quickSort_232 : decode cX3_quickSort 232 = .ok (.goto 20, 3) := dk_167 0 20 (dk_at dksX3_quickSort_9 19 rfl rfl)
theorem dX3_quickSort_235 : decode cX3_quickSort 235 = .ok (.aload_n 0, 1) := dk_42 (dk_at dksX3_quickSort_9 22 rfl rfl)
theorem dX3_quickSort_236 : decode cX3_quickSort 236 = .ok (.iload 9, 2) := dk_21 9 (dk_at dksX3_quickSort_10 0 rfl rfl)
theorem dX3_quickSort_238 : decode cX3_quickSort 238 = .ok (.iinc 9 1, 3) := dk_132 9 1 (dk_at dksX3_quickSort_10 2 rfl rfl)
theorem dX3_quickSort_241 : decode cX3_quickSort 241 = .ok (.iload 10, 2) := dk_21 10 (dk_at dksX3_quickSort_10 5 rfl rfl)
theorem dX3_quickSort_243 : decode cX3_quickSort 243 = .ok (.iinc 10 (-1), 3) := dk_132 10 255 (dk_at dksX3_quickSort_10 7 rfl rfl)
theorem dX3_quickSort_246 : decode cX3_quickSort 246 = .ok (.invokestatic 28, 3) := dk_184 0 28 (dk_at dksX3_quickSort_10 10 rfl rfl)
theorem dX3_quickSort_249 : decode cX3_quickSort 249 = .ok (.goto (-112), 3) := dk_167 255 144 (dk_at dksX3_quickSort_10 13 rfl rfl)
theorem dX3_quickSort_252 : decode cX3_quickSort 252 = .ok (.iload 8, 2) := dk_21 8 (dk_at dksX3_quickSort_10 16 rfl rfl)
theorem dX3_quickSort_254 : decode cX3_quickSort 254 = .ok (.iload_n 1, 1) := dk_27 (dk_at dksX3_quickSort_10 18 rfl rfl)
theorem dX3_quickSort_255 : decode cX3_quickSort 255 = .ok (.isub, 1) := dk_100 (dk_at dksX3_quickSort_10 19 rfl rfl)
theorem dX3_quickSort_256 : decode cX3_quickSort 256 = .ok (.iload 9, 2) := dk_21 9 (dk_at dksX3_quickSort_10 20 rfl rfl)
theorem dX3_quickSort_258 : decode cX3_quickSort 258 = .ok (.iload 8, 2) := dk_21 8 (dk_at dksX3_quickSort_10 22 rfl rfl)
theorem dX3_quickSort_260 : decode cX3_quickSort 260 = .ok (.isub, 1) := dk_100 (dk_at dksX3_quickSort_11 0 rfl rfl)
theorem dX3_quickSort_261 : decode cX3_quickSort 261 = .ok (.invokestatic 43, 3) := dk_184 0 43 (dk_at dksX3_quickSort_11 1 rfl rfl)
theorem dX3_quickSort_264 : decode cX3_quickSort 264 = .ok (.istore 12, 2) := dk_54 12 (dk_at dksX3_quickSort_11 4 rfl rfl)
theorem dX3_quickSort_266 : decode cX3_quickSort 266 = .ok (.aload_n 0, 1) := dk_42 (dk_at dksX3_quickSort_11 6 rfl rfl)
theorem dX3_quickSort_267 : decode cX3_quickSort 267 = .ok (.iload_n 1, 1) := dk_27 (dk_at dksX3_quickSort_11 7 rfl rfl)
theorem dX3_quickSort_268 : decode cX3_quickSort 268 = .ok (.iload 9, 2) := dk_21 9 (dk_at dksX3_quickSort_11 8 rfl rfl)
theorem dX3_quickSort_270 : decode cX3_quickSort 270 = .ok (.iload 12, 2) := dk_21 12 (dk_at dksX3_quickSort_11 10 rfl rfl)
theorem dX3_quickSort_272 : decode cX3_quickSort 272 = .ok (.isub, 1) := dk_100 (dk_at dksX3_quickSort_11 12 rfl rfl)
theorem dX3_quickSort_273 : decode cX3_quickSort 273 = .ok (.iload 12, 2) := dk_21 12 (dk_at dksX3_quickSort_11 13 rfl rfl)
theorem dX3_quickSort_275 : decode cX3_quickSort 275 = .ok (.invokestatic 45, 3) := dk_184 0 45 (dk_at dksX3_quickSort_11 15 rfl rfl)
theorem dX3_quickSort_278 : decode cX3_quickSort 278 = .ok (.iload 11, 2) := dk_21 11 (dk_at dksX3_quickSort_11 18 rfl rfl)
theorem dX3_quickSort_280 : decode cX3_quickSort 280 = .ok (.iload 10, 2) := dk_21 10 (dk_at dksX3_quickSort_11 20 rfl rfl)
theorem dX3_quickSort_282 : decode cX3_quickSort 282 = .ok (.isub, 1) := dk_100 (dk_at dksX3_quickSort_11 22 rfl rfl)
theorem dX3_quickSort_283 : decode cX3_quickSort 283 = .ok (.iload_n 2, 1) := dk_28 (dk_at dksX3_quickSort_11 23 rfl rfl)
theorem dX3_quickSort_284 : decode cX3_quickSort 284 = .ok (.iload 11, 2) := dk_21 11 (dk_at dksX3_quickSort_12 0 rfl rfl)
theorem dX3_quickSort_286 : decode cX3_quickSort 286 = .ok (.isub, 1) := dk_100 (dk_at dksX3_quickSort_12 2 rfl rfl)
theorem dX3_quickSort_287 : decode cX3_quickSort 287 = .ok (.iconst 1, 1) := dk_4 (dk_at dksX3_quickSort_12 3 rfl rfl)
theorem dX3_quickSort_288 : decode cX3_quickSort 288 = .ok (.isub, 1) := dk_100 (dk_at dksX3_quickSort_12 4 rfl rfl)
theorem dX3_quickSort_289 : decode cX3_quickSort 289 = .ok (.invokestatic 43, 3) := dk_184 0 43 (dk_at dksX3_quickSort_12 5 rfl rfl)
theorem dX3_quickSort_292 : decode cX3_quickSort 292 = .ok (.istore 12, 2) := dk_54 12 (dk_at dksX3_quickSort_12 8 rfl rfl)
theorem dX3_quickSort_294 : decode cX3_quickSort 294 = .ok (.aload_n 0, 1) := dk_42 (dk_at dksX3_quickSort_12 10 rfl rfl)
theorem dX3_quickSort_295 : decode cX3_quickSort 295 = .ok (.iload 9, 2) := dk_21 9 (dk_at dksX3_quickSort_12 11 rfl rfl)
theorem dX3_quickSort_297 : decode cX3_quickSort 297 = .ok (.iload_n 2, 1) := dk_28 (dk_at dksX3_quickSort_12 13 rfl rfl)
theorem dX3_quickSort_298 : decode cX3_quickSort 298 = .ok (.iload 12, 2) := dk_21 12 (dk_at dksX3_quickSort_12 14 rfl rfl)
theorem dX3_quickSort_300 : decode cX3_quickSort 300 = .ok (.isub, 1) := dk_100 (dk_at dksX3_quickSort_12 16 rfl rfl)
theorem dX3_quickSort_301 : decode cX3_quickSort 301 = .ok (.iload 12, 2) := dk_21 12 (dk_at dksX3_quickSort_12 17 rfl rfl)
theorem dX3_quickSort_303 : decode cX3_quickSort 303 = .ok (.invokestatic 45, 3) := dk_184 0 45 (dk_at dksX3_quickSort_12 19 rfl rfl)
theorem dX3_quickSort_306 : decode cX3_quickSort 306 = .ok (.iload 9, 2) := dk_21 9 (dk_at dksX3_quickSort_12 22 rfl rfl)
theorem dX3_quickSort_308 : decode cX3_quickSort 308 = .ok (.iload 8, 2) := dk_21 8 (dk_at dksX3_quickSort_13 0 rfl rfl)
theorem dX3_quickSort_310 : decode cX3_quickSort 310 = .ok (.isub, 1) := dk_100 (dk_at dksX3_quickSort_13 2 rfl rfl)
theorem dX3_quickSort_311 : decode cX3_quickSort 311 = .ok (.dup, 1) := dk_89 (dk_at dksX3_quickSort_13 3 rfl rfl)
theorem dX3_quickSort_312 : decode cX3_quickSort 312 = .ok (.istore 12, 2) := dk_54 12 (dk_at dksX3_quickSort_13 4 rfl rfl)
theorem dX3_quickSort_314 : decode cX3_quickSort 314 = .ok (.iconst 1, 1) := dk_4 (dk_at dksX3_quickSort_13 6 rfl rfl)
theorem dX3_quickSort_315 : decode cX3_quickSort 315 = .ok (.if_icmp .le 12, 3) := dk_164 0 12 (dk_at dksX3_quickSort_13 7 rfl rfl)
theorem dX3_quickSort_318 : decode cX3_quickSort 318 = .ok (.aload_n 0, 1) := dk_42 (dk_at dksX3_quickSort_13 10 rfl rfl)
theorem dX3_quickSort_319 : decode cX3_quickSort 319 = .ok (.iload_n 1, 1) := dk_27 (dk_at dksX3_quickSort_13 11 rfl rfl)
theorem dX3_quickSort_320 : decode cX3_quickSort 320 = .ok (.iload_n 1, 1) := dk_27 (dk_at dksX3_quickSort_13 12 rfl rfl)
theorem dX3_quickSort_321 : decode cX3_quickSort 321 = .ok (.iload 12, 2) := dk_21 12 (dk_at dksX3_quickSort_13 13 rfl rfl)
theorem dX3_quickSort_323 : decode cX3_quickSort 323 = .ok (.iadd, 1) := dk_96 (dk_at dksX3_quickSort_13 15 rfl rfl)
theorem dX3_quickSort_324 : decode cX3_quickSort 324 = .ok (.invokestatic 48, 3) := dk_184 0 48 (dk_at dksX3_quickSort_13 16 rfl rfl)
theorem dX3_quickSort_327 : decode cX3_quickSort 327 = .ok (.iload 11, 2) := dk_21 11 (dk_at dksX3_quickSort_13 19 rfl rfl)
theorem dX3_quickSort_329 : decode cX3_quickSort 329 = .ok (.iload 10, 2) := dk_21 10 (dk_at dksX3_quickSort_13 21 rfl rfl)
theorem dX3_quickSort_331 : decode cX3_quickSort 331 = .ok (.isub, 1) := dk_100 (dk_at dksX3_quickSort_13 23 rfl rfl)
theorem dX3_quickSort_332 : decode cX3_quickSort 332 = .ok (.dup, 1) := dk_89 (dk_at dksX3_quickSort_14 0 rfl rfl)
theorem dX3_quickSort_333 : decode cX3_quickSort 333 = .ok (.istore 12, 2) := dk_54 12 (dk_at dksX3_quickSort_14 1 rfl rfl)
theorem dX3_quickSort_335 : decode cX3_quickSort 335 = .ok (.iconst 1, 1) := dk_4 (dk_at dksX3_quickSort_14 3 rfl rfl)
theorem dX3_quickSort_336 : decode cX3_quickSort 336 = .ok (.if_icmp .le 12, 3) := dk_164 0 12 (dk_at dksX3_quickSort_14 4 rfl rfl)
theorem dX3_quickSort_339 : decode cX3_quickSort 339 = .ok (.aload_n 0, 1) := dk_42 (dk_at dksX3_quickSort_14 7 rfl rfl)
theorem dX3_quickSort_340 : decode cX3_quickSort 340 = .ok (.iload_n 2, 1) := dk_28 (dk_at dksX3_quickSort_14 8 rfl rfl)
theorem dX3_quickSort_341 : decode cX3_quickSort 341 = .ok (.iload 12, 2) := dk_21 12 (dk_at dksX3_quickSort_14 9 rfl rfl)
theorem dX3_quickSort_343 : decode cX3_quickSort 343 = .ok (.isub, 1) := dk_100 (dk_at dksX3_quickSort_14 11 rfl rfl)
theorem dX3_quickSort_344 : decode cX3_quickSort 344 = .ok (.iload_n 2, 1) := dk_28 (dk_at dksX3_quickSort_14 12 rfl rfl)
theorem dX3_quickSort_345 : decode cX3_quickSort 345 = .ok (.invokestatic 48, 3) := dk_184 0 48 (dk_at dksX3_quickSort_14 13 rfl rfl)
theorem dX3_quickSort_348 : decode cX3_quickSort 348 = .ok (.return_, 1) := dk_177 (dk_at dksX3_quickSort_14 16 rfl rfl)
abbrev cX3_selectionSort : ByteArray := prog_5_method_6_code
def yX3_selectionSort : MethodName := ⟨RX3, "selectionSort", "([III)V"⟩
def dkwX3_selectionSort_3 : List UInt8 := [167, 255, 187, 177]
abbrev dktX3_selectionSort_3 : List UInt8 := dkwX3_selectionSort_3 ++ []
def dkwX3_selectionSort_2 : List UInt8 := [159, 0, 21, 42, 29, 46, 54, 5, 42, 29, 42, 21, 4, 46, 79, 42, 21, 4, 21, 5, 79, 132, 3, 1]
abbrev dktX3_selectionSort_2 : List UInt8 := dkwX3_selectionSort_2 ++ dktX3_selectionSort_3
def dkwX3_selectionSort_1 : List UInt8 := [21, 5, 46, 42, 21, 4, 46, 162, 0, 7, 21, 5, 54, 4, 132, 5, 1, 167, 255, 232, 21, 4, 29]
abbrev dktX3_selectionSort_1 : List UInt8 := dkwX3_selectionSort_1 ++ dktX3_selectionSort_2
def dkwX3_selectionSort_0 : List UInt8 := [27, 62, 29, 28, 4, 100, 162, 0, 68, 29, 54, 4, 29, 4, 96, 54, 5, 21, 5, 28, 162, 0, 24, 42]
abbrev dktX3_selectionSort_0 : List UInt8 := dkwX3_selectionSort_0 ++ dktX3_selectionSort_1
theorem dksX3_selectionSort_0 : cX3_selectionSort.data.toList.drop 0 = dktX3_selectionSort_0 := by decide +kernel
theorem dksX3_selectionSort_1 : cX3_selectionSort.data.toList.drop 24 = dktX3_selectionSort_1 := dk_seg dksX3_selectionSort_0 24 rfl rfl
theorem dksX3_selectionSort_2 : cX3_selectionSort.data.toList.drop 47 = dktX3_selectionSort_2 := dk_seg dksX3_selectionSort_1 23 rfl rfl
theorem dksX3_selectionSort_3 : cX3_selectionSort.data.toList.drop 71 = dktX3_selectionSort_3 := dk_seg dksX3_selectionSort_2 24 rfl rfl
theorem dX3_selectionSort_0 : decode cX3_selectionSort 0 = .ok (.iload_n 1, 1) := dk_27 (dk_at dksX3_selectionSort_0 0 rfl rfl)
theorem dX3_selectionSort_1 : decode cX3_selectionSort 1 = .ok (.istore_n 3, 1) := dk_62 (dk_at dksX3_selectionSort_0 1 rfl rfl)
theorem dX3_selectionSort_2 : decode cX3_selectionSort 2 = .ok (.iload_n 3, 1) := dk_29 (dk_at dksX3_selectionSort_0 2 rfl rfl)
theorem dX3_selectionSort_3 : decode cX3_selectionSort 3 = .ok (.iload_n 2, 1) := dk_28 (dk_at dksX3_selectionSort_0 3 rfl rfl)
theorem dX3_selectionSort_4 : decode cX3_selectionSort 4 = .ok (.iconst 1, 1) := dk_4 (dk_at dksX3_selectionSort_0 4 rfl rfl)
theorem dX3_selectionSort_5 : decode cX3_selectionSort 5 = .ok (.isub, 1) := dk_100 (dk_at dksX3_selectionSort_0 5 rfl rfl)
theorem dX3_selectionSort_6 : decode cX3_selectionSort 6 = .ok (.if_icmp .ge 68, 3) := dk_162 0 68 (dk_at dksX3_selectionSort_0 6 rfl rfl)
theorem dX3_selectionSort_9 : decode cX3_selectionSort 9 = .ok (.iload_n 3, 1) := dk_29 (dk_at dksX3_selectionSort_0 9 rfl rfl)
theorem dX3_selectionSort_10 : decode cX3_selectionSort 10 = .ok (.istore 4, 2) := dk_54 4 (dk_at dksX3_selectionSort_0 10 rfl rfl)
theorem dX3_selectionSort_12 : decode cX3_selectionSort 12 = .ok (.iload_n 3, 1) := dk_29 (dk_at dksX3_selectionSort_0 12 rfl rfl)
theorem dX3_selectionSort_13 : decode cX3_selectionSort 13 = .ok (.iconst 1, 1) := dk_4 (dk_at dksX3_selectionSort_0 13 rfl rfl)
theorem dX3_selectionSort_14 : decode cX3_selectionSort 14 = .ok (.iadd, 1) := dk_96 (dk_at dksX3_selectionSort_0 14 rfl rfl)
theorem dX3_selectionSort_15 : decode cX3_selectionSort 15 = .ok (.istore 5, 2) := dk_54 5 (dk_at dksX3_selectionSort_0 15 rfl rfl)
theorem dX3_selectionSort_17 : decode cX3_selectionSort 17 = .ok (.iload 5, 2) := dk_21 5 (dk_at dksX3_selectionSort_0 17 rfl rfl)
theorem dX3_selectionSort_19 : decode cX3_selectionSort 19 = .ok (.iload_n 2, 1) := dk_28 (dk_at dksX3_selectionSort_0 19 rfl rfl)
theorem dX3_selectionSort_20 : decode cX3_selectionSort 20 = .ok (.if_icmp .ge 24, 3) := dk_162 0 24 (dk_at dksX3_selectionSort_0 20 rfl rfl)
theorem dX3_selectionSort_23 : decode cX3_selectionSort 23 = .ok (.aload_n 0, 1) := dk_42 (dk_at dksX3_selectionSort_0 23 rfl rfl)
theorem dX3_selectionSort_24 : decode cX3_selectionSort 24 = .ok (.iload 5, 2) := dk_21 5 (dk_at dksX3_selectionSort_1 0 rfl rfl)
theorem dX3_selectionSort_26 : decode cX3_selectionSort 26 = .ok (.iaload, 1) := dk_46 (dk_at dksX3_selectionSort_1 2 rfl rfl)
theorem dX3_selectionSort_27 : decode cX3_selectionSort 27 = .ok (.aload_n 0, 1) := dk_42 (dk_at dksX3_selectionSort_1 3 rfl rfl)
theorem dX3_selectionSort_28 : decode cX3_selectionSort 28 = .ok (.iload 4, 2) := dk_21 4 (dk_at dksX3_selectionSort_1 4 rfl rfl)
theorem dX3_selectionSort_30 : decode cX3_selectionSort 30 = .ok (.iaload, 1) := dk_46 (dk_at dksX3_selectionSort_1 6 rfl rfl)
theorem dX3_selectionSort_31 : decode cX3_selectionSort 31 = .ok (.if_icmp .ge 7, 3) := dk_162 0 7 (dk_at dksX3_selectionSort_1 7 rfl rfl)
theorem dX3_selectionSort_34 : decode cX3_selectionSort 34 = .ok (.iload 5, 2) := dk_21 5 (dk_at dksX3_selectionSort_1 10 rfl rfl)
theorem dX3_selectionSort_36 : decode cX3_selectionSort 36 = .ok (.istore 4, 2) := dk_54 4 (dk_at dksX3_selectionSort_1 12 rfl rfl)
theorem dX3_selectionSort_38 : decode cX3_selectionSort 38 = .ok (.iinc 5 1, 3) := dk_132 5 1 (dk_at dksX3_selectionSort_1 14 rfl rfl)
theorem dX3_selectionSort_41 : decode cX3_selectionSort 41 = .ok (.goto (-24), 3) := dk_167 255 232 (dk_at dksX3_selectionSort_1 17 rfl rfl)
theorem dX3_selectionSort_44 : decode cX3_selectionSort 44 = .ok (.iload 4, 2) := dk_21 4 (dk_at dksX3_selectionSort_1 20 rfl rfl)
theorem dX3_selectionSort_46 : decode cX3_selectionSort 46 = .ok (.iload_n 3, 1) := dk_29 (dk_at dksX3_selectionSort_1 22 rfl rfl)
theorem dX3_selectionSort_47 : decode cX3_selectionSort 47 = .ok (.if_icmp .eq 21, 3) := dk_159 0 21 (dk_at dksX3_selectionSort_2 0 rfl rfl)
theorem dX3_selectionSort_50 : decode cX3_selectionSort 50 = .ok (.aload_n 0, 1) := dk_42 (dk_at dksX3_selectionSort_2 3 rfl rfl)
theorem dX3_selectionSort_51 : decode cX3_selectionSort 51 = .ok (.iload_n 3, 1) := dk_29 (dk_at dksX3_selectionSort_2 4 rfl rfl)
theorem dX3_selectionSort_52 : decode cX3_selectionSort 52 = .ok (.iaload, 1) := dk_46 (dk_at dksX3_selectionSort_2 5 rfl rfl)
theorem dX3_selectionSort_53 : decode cX3_selectionSort 53 = .ok (.istore 5, 2) := dk_54 5 (dk_at dksX3_selectionSort_2 6 rfl rfl)
theorem dX3_selectionSort_55 : decode cX3_selectionSort 55 = .ok (.aload_n 0, 1) := dk_42 (dk_at dksX3_selectionSort_2 8 rfl rfl)
theorem dX3_selectionSort_56 : decode cX3_selectionSort 56 = .ok (.iload_n 3, 1) := dk_29 (dk_at dksX3_selectionSort_2 9 rfl rfl)
theorem dX3_selectionSort_57 : decode cX3_selectionSort 57 = .ok (.aload_n 0, 1) := dk_42 (dk_at dksX3_selectionSort_2 10 rfl rfl)
theorem dX3_selectionSort_58 : decode cX3_selectionSort 58 = .ok (.iload 4, 2) := dk_21 4 (dk_at dksX3_selectionSort_2 11 rfl rfl)
theorem dX3_selectionSort_60 : decode cX3_selectionSort 60 = .ok (.iaload, 1) := dk_46 (dk_at dksX3_selectionSort_2 13 rfl rfl)
theorem dX3_selectionSort_61 : decode cX3_selectionSort 61 = .ok (.iastore, 1) := dk_79 (dk_at dksX3_selectionSort_2 14 rfl rfl)
theorem dX3_selectionSort_62 : decode cX3_selectionSort 62 = .ok (.aload_n 0, 1) := dk_42 (dk_at dksX3_selectionSort_2 15 rfl rfl)
theorem dX3_selectionSort_63 : decode cX3_selectionSort 63 = .ok (.iload 4, 2) := dk_21 4 (dk_at dksX3_selectionSort_2 16 rfl rfl)
theorem dX3_selectionSort_65 : decode cX3_selectionSort 65 = .ok (.iload 5, 2) := dk_21 5 (dk_at dksX3_selectionSort_2 18 rfl rfl)
theorem dX3_selectionSort_67 : decode cX3_selectionSort 67 = .ok (.iastore, 1) := dk_79 (dk_at dksX3_selectionSort_2 20 rfl rfl)
theorem dX3_selectionSort_68 : decode cX3_selectionSort 68 = .ok (.iinc 3 1, 3) := dk_132 3 1 (dk_at dksX3_selectionSort_2 21 rfl rfl)
theorem dX3_selectionSort_71 : decode cX3_selectionSort 71 = .ok (.goto (-69), 3) := dk_167 255 187 (dk_at dksX3_selectionSort_3 0 rfl rfl)
theorem dX3_selectionSort_74 : decode cX3_selectionSort 74 = .ok (.return_, 1) := dk_177 (dk_at dksX3_selectionSort_3 3 rfl rfl)
abbrev cX3_med3 : ByteArray := prog_5_method_5_code
def yX3_med3 : MethodName := ⟨RX3, "med3", "([IIII)I"⟩
def dkwX3_med3_3 : List UInt8 := [158, 0, 7, 29, 167, 0, 4, 27, 172]
abbrev dktX3_med3_3 : List UInt8 := dkwX3_med3_3 ++ []
def dkwX3_med3_2 : List UInt8 := [21, 5, 156, 0, 7, 29, 167, 0, 26, 27, 167, 0, 22, 21, 6, 158, 0, 7, 28, 167, 0, 13, 21, 5]
abbrev dktX3_med3_2 : List UInt8 := dkwX3_med3_2 ++ dktX3_med3_3
def dkwX3_med3_1 : List UInt8 := [46, 42, 29, 46, 184, 0, 32, 54, 6, 21, 4, 156, 0, 25, 21, 6, 156, 0, 7, 28, 167, 0, 35]
abbrev dktX3_med3_1 : List UInt8 := dkwX3_med3_1 ++ dktX3_med3_2
def dkwX3_med3_0 : List UInt8 := [42, 27, 46, 42, 28, 46, 184, 0, 32, 54, 4, 42, 27, 46, 42, 29, 46, 184, 0, 32, 54, 5, 42, 28]
abbrev dktX3_med3_0 : List UInt8 := dkwX3_med3_0 ++ dktX3_med3_1
theorem dksX3_med3_0 : cX3_med3.data.toList.drop 0 = dktX3_med3_0 := by decide +kernel
theorem dksX3_med3_1 : cX3_med3.data.toList.drop 24 = dktX3_med3_1 := dk_seg dksX3_med3_0 24 rfl rfl
theorem dksX3_med3_2 : cX3_med3.data.toList.drop 47 = dktX3_med3_2 := dk_seg dksX3_med3_1 23 rfl rfl
theorem dksX3_med3_3 : cX3_med3.data.toList.drop 71 = dktX3_med3_3 := dk_seg dksX3_med3_2 24 rfl rfl
theorem dX3_med3_0 : decode cX3_med3 0 = .ok (.aload_n 0, 1) := dk_42 (dk_at dksX3_med3_0 0 rfl rfl)
theorem dX3_med3_1 : decode cX3_med3 1 = .ok (.iload_n 1, 1) := dk_27 (dk_at dksX3_med3_0 1 rfl rfl)
theorem dX3_med3_2 : decode cX3_med3 2 = .ok (.iaload, 1) := dk_46 (dk_at dksX3_med3_0 2 rfl rfl)
theorem dX3_med3_3 : decode cX3_med3 3 = .ok (.aload_n 0, 1) := dk_42 (dk_at dksX3_med3_0 3 rfl rfl)
theorem dX3_med3_4 : decode cX3_med3 4 = .ok (.iload_n 2, 1) := dk_28 (dk_at dksX3_med3_0 4 rfl rfl)
theorem dX3_med3_5 : decode cX3_med3 5 = .ok (.iaload, 1) := dk_46 (dk_at dksX3_med3_0 5 rfl rfl)
theorem dX3_med3_6 : decode cX3_med3 6 = .ok (.invokestatic 32, 3) := dk_184 0 32 (dk_at dksX3_med3_0 6 rfl rfl)
theorem dX3_med3_9 : decode cX3_med3 9 = .ok (.istore 4, 2) := dk_54 4 (dk_at dksX3_med3_0 9 rfl rfl)
theorem dX3_med3_11 : decode cX3_med3 11 = .ok (.aload_n 0, 1) := dk_42 (dk_at dksX3_med3_0 11 rfl rfl)
theorem dX3_med3_12 : decode cX3_med3 12 = .ok (.iload_n 1, 1) := dk_27 (dk_at dksX3_med3_0 12 rfl rfl)
theorem dX3_med3_13 : decode cX3_med3 13 = .ok (.iaload, 1) := dk_46 (dk_at dksX3_med3_0 13 rfl rfl)
theorem dX3_med3_14 : decode cX3_med3 14 = .ok (.aload_n 0, 1) := dk_42 (dk_at dksX3_med3_0 14 rfl rfl)
theorem dX3_med3_15 : decode cX3_med3 15 = .ok (.iload_n 3, 1) := dk_29 (dk_at dksX3_med3_0 15 rfl rfl)
theorem dX3_med3_16 : decode cX3_med3 16 = .ok (.iaload, 1) := dk_46 (dk_at dksX3_med3_0 16 rfl rfl)
theorem dX3_med3_17 : decode cX3_med3 17 = .ok (.invokestatic 32, 3) := dk_184 0 32 (dk_at dksX3_med3_0 17 rfl rfl)
theorem dX3_med3_20 : decode cX3_med3 20 = .ok (.istore 5, 2) := dk_54 5 (dk_at dksX3_med3_0 20 rfl rfl)
theorem dX3_med3_22 : decode cX3_med3 22 = .ok (.aload_n 0, 1) := dk_42 (dk_at dksX3_med3_0 22 rfl rfl)
theorem dX3_med3_23 : decode cX3_med3 23 = .ok (.iload_n 2, 1) := dk_28 (dk_at dksX3_med3_0 23 rfl rfl)
theorem dX3_med3_24 : decode cX3_med3 24 = .ok (.iaload, 1) := dk_46 (dk_at dksX3_med3_1 0 rfl rfl)
theorem dX3_med3_25 : decode cX3_med3 25 = .ok (.aload_n 0, 1) := dk_42 (dk_at dksX3_med3_1 1 rfl rfl)
theorem dX3_med3_26 : decode cX3_med3 26 = .ok (.iload_n 3, 1) := dk_29 (dk_at dksX3_med3_1 2 rfl rfl)
theorem dX3_med3_27 : decode cX3_med3 27 = .ok (.iaload, 1) := dk_46 (dk_at dksX3_med3_1 3 rfl rfl)
theorem dX3_med3_28 : decode cX3_med3 28 = .ok (.invokestatic 32, 3) := dk_184 0 32 (dk_at dksX3_med3_1 4 rfl rfl)
theorem dX3_med3_31 : decode cX3_med3 31 = .ok (.istore 6, 2) := dk_54 6 (dk_at dksX3_med3_1 7 rfl rfl)
theorem dX3_med3_33 : decode cX3_med3 33 = .ok (.iload 4, 2) := dk_21 4 (dk_at dksX3_med3_1 9 rfl rfl)
theorem dX3_med3_35 : decode cX3_med3 35 = .ok (.ifCond .ge 25, 3) := dk_156 0 25 (dk_at dksX3_med3_1 11 rfl rfl)
theorem dX3_med3_38 : decode cX3_med3 38 = .ok (.iload 6, 2) := dk_21 6 (dk_at dksX3_med3_1 14 rfl rfl)
theorem dX3_med3_40 : decode cX3_med3 40 = .ok (.ifCond .ge 7, 3) := dk_156 0 7 (dk_at dksX3_med3_1 16 rfl rfl)
theorem dX3_med3_43 : decode cX3_med3 43 = .ok (.iload_n 2, 1) := dk_28 (dk_at dksX3_med3_1 19 rfl rfl)
theorem dX3_med3_44 : decode cX3_med3 44 = .ok (.goto 35, 3) := dk_167 0 35 (dk_at dksX3_med3_1 20 rfl rfl)
theorem dX3_med3_47 : decode cX3_med3 47 = .ok (.iload 5, 2) := dk_21 5 (dk_at dksX3_med3_2 0 rfl rfl)
theorem dX3_med3_49 : decode cX3_med3 49 = .ok (.ifCond .ge 7, 3) := dk_156 0 7 (dk_at dksX3_med3_2 2 rfl rfl)
theorem dX3_med3_52 : decode cX3_med3 52 = .ok (.iload_n 3, 1) := dk_29 (dk_at dksX3_med3_2 5 rfl rfl)
theorem dX3_med3_53 : decode cX3_med3 53 = .ok (.goto 26, 3) := dk_167 0 26 (dk_at dksX3_med3_2 6 rfl rfl)
theorem dX3_med3_56 : decode cX3_med3 56 = .ok (.iload_n 1, 1) := dk_27 (dk_at dksX3_med3_2 9 rfl rfl)
theorem dX3_med3_57 : decode cX3_med3 57 = .ok (.goto 22, 3) := dk_167 0 22 (dk_at dksX3_med3_2 10 rfl rfl)
theorem dX3_med3_60 : decode cX3_med3 60 = .ok (.iload 6, 2) := dk_21 6 (dk_at dksX3_med3_2 13 rfl rfl)
theorem dX3_med3_62 : decode cX3_med3 62 = .ok (.ifCond .le 7, 3) := dk_158 0 7 (dk_at dksX3_med3_2 15 rfl rfl)
theorem dX3_med3_65 : decode cX3_med3 65 = .ok (.iload_n 2, 1) := dk_28 (dk_at dksX3_med3_2 18 rfl rfl)
theorem dX3_med3_66 : decode cX3_med3 66 = .ok (.goto 13, 3) := dk_167 0 13 (dk_at dksX3_med3_2 19 rfl rfl)
theorem dX3_med3_69 : decode cX3_med3 69 = .ok (.iload 5, 2) := dk_21 5 (dk_at dksX3_med3_2 22 rfl rfl)
theorem dX3_med3_71 : decode cX3_med3 71 = .ok (.ifCond .le 7, 3) := dk_158 0 7 (dk_at dksX3_med3_3 0 rfl rfl)
theorem dX3_med3_74 : decode cX3_med3 74 = .ok (.iload_n 3, 1) := dk_29 (dk_at dksX3_med3_3 3 rfl rfl)
theorem dX3_med3_75 : decode cX3_med3 75 = .ok (.goto 4, 3) := dk_167 0 4 (dk_at dksX3_med3_3 4 rfl rfl)
theorem dX3_med3_78 : decode cX3_med3 78 = .ok (.iload_n 1, 1) := dk_27 (dk_at dksX3_med3_3 7 rfl rfl)
theorem dX3_med3_79 : decode cX3_med3 79 = .ok (.ireturn, 1) := dk_172 (dk_at dksX3_med3_3 8 rfl rfl)
abbrev cX3_swap : ByteArray := prog_5_method_3_code
def yX3_swap : MethodName := ⟨RX3, "swap", "([III)V"⟩
def dkwX3_swap_0 : List UInt8 := [42, 27, 46, 62, 42, 27, 42, 28, 46, 79, 42, 28, 29, 79, 177]
abbrev dktX3_swap_0 : List UInt8 := dkwX3_swap_0 ++ []
theorem dksX3_swap_0 : cX3_swap.data.toList.drop 0 = dktX3_swap_0 := by decide +kernel
theorem dX3_swap_0 : decode cX3_swap 0 = .ok (.aload_n 0, 1) := dk_42 (dk_at dksX3_swap_0 0 rfl rfl)
theorem dX3_swap_1 : decode cX3_swap 1 = .ok (.iload_n 1, 1) := dk_27 (dk_at dksX3_swap_0 1 rfl rfl)
theorem dX3_swap_2 : decode cX3_swap 2 = .ok (.iaload, 1) := dk_46 (dk_at dksX3_swap_0 2 rfl rfl)
theorem dX3_swap_3 : decode cX3_swap 3 = .ok (.istore_n 3, 1) := dk_62 (dk_at dksX3_swap_0 3 rfl rfl)
theorem dX3_swap_4 : decode cX3_swap 4 = .ok (.aload_n 0, 1) := dk_42 (dk_at dksX3_swap_0 4 rfl rfl)
theorem dX3_swap_5 : decode cX3_swap 5 = .ok (.iload_n 1, 1) := dk_27 (dk_at dksX3_swap_0 5 rfl rfl)
theorem dX3_swap_6 : decode cX3_swap 6 = .ok (.aload_n 0, 1) := dk_42 (dk_at dksX3_swap_0 6 rfl rfl)
theorem dX3_swap_7 : decode cX3_swap 7 = .ok (.iload_n 2, 1) := dk_28 (dk_at dksX3_swap_0 7 rfl rfl)
theorem dX3_swap_8 : decode cX3_swap 8 = .ok (.iaload, 1) := dk_46 (dk_at dksX3_swap_0 8 rfl rfl)
theorem dX3_swap_9 : decode cX3_swap 9 = .ok (.iastore, 1) := dk_79 (dk_at dksX3_swap_0 9 rfl rfl)
theorem dX3_swap_10 : decode cX3_swap 10 = .ok (.aload_n 0, 1) := dk_42 (dk_at dksX3_swap_0 10 rfl rfl)
theorem dX3_swap_11 : decode cX3_swap 11 = .ok (.iload_n 2, 1) := dk_28 (dk_at dksX3_swap_0 11 rfl rfl)
theorem dX3_swap_12 : decode cX3_swap 12 = .ok (.iload_n 3, 1) := dk_29 (dk_at dksX3_swap_0 12 rfl rfl)
theorem dX3_swap_13 : decode cX3_swap 13 = .ok (.iastore, 1) := dk_79 (dk_at dksX3_swap_0 13 rfl rfl)
theorem dX3_swap_14 : decode cX3_swap 14 = .ok (.return_, 1) := dk_177 (dk_at dksX3_swap_0 14 rfl rfl)
abbrev cX3_swap_2 : ByteArray := prog_5_method_4_code
def yX3_swap_2 : MethodName := ⟨RX3, "swap", "([IIII)V"⟩
def dkwX3_swap_2_1 : List UInt8 := [167, 255, 235, 177]
abbrev dktX3_swap_2_1 : List UInt8 := dkwX3_swap_2_1 ++ []
def dkwX3_swap_2_0 : List UInt8 := [3, 54, 4, 21, 4, 29, 162, 0, 21, 42, 27, 28, 184, 0, 28, 132, 4, 1, 132, 1, 1, 132, 2, 1]
abbrev dktX3_swap_2_0 : List UInt8 := dkwX3_swap_2_0 ++ dktX3_swap_2_1
theorem dksX3_swap_2_0 : cX3_swap_2.data.toList.drop 0 = dktX3_swap_2_0 := by decide +kernel
theorem dksX3_swap_2_1 : cX3_swap_2.data.toList.drop 24 = dktX3_swap_2_1 := dk_seg dksX3_swap_2_0 24 rfl rfl
theorem dX3_swap_2_0 : decode cX3_swap_2 0 = .ok (.iconst 0, 1) := dk_3 (dk_at dksX3_swap_2_0 0 rfl rfl)
theorem dX3_swap_2_1 : decode cX3_swap_2 1 = .ok (.istore 4, 2) := dk_54 4 (dk_at dksX3_swap_2_0 1 rfl rfl)
theorem dX3_swap_2_3 : decode cX3_swap_2 3 = .ok (.iload 4, 2) := dk_21 4 (dk_at dksX3_swap_2_0 3 rfl rfl)
theorem dX3_swap_2_5 : decode cX3_swap_2 5 = .ok (.iload_n 3, 1) := dk_29 (dk_at dksX3_swap_2_0 5 rfl rfl)
theorem dX3_swap_2_6 : decode cX3_swap_2 6 = .ok (.if_icmp .ge 21, 3) := dk_162 0 21 (dk_at dksX3_swap_2_0 6 rfl rfl)
theorem dX3_swap_2_9 : decode cX3_swap_2 9 = .ok (.aload_n 0, 1) := dk_42 (dk_at dksX3_swap_2_0 9 rfl rfl)
theorem dX3_swap_2_10 : decode cX3_swap_2 10 = .ok (.iload_n 1, 1) := dk_27 (dk_at dksX3_swap_2_0 10 rfl rfl)
theorem dX3_swap_2_11 : decode cX3_swap_2 11 = .ok (.iload_n 2, 1) := dk_28 (dk_at dksX3_swap_2_0 11 rfl rfl)
theorem dX3_swap_2_12 : decode cX3_swap_2 12 = .ok (.invokestatic 28, 3) := dk_184 0 28 (dk_at dksX3_swap_2_0 12 rfl rfl)
theorem dX3_swap_2_15 : decode cX3_swap_2 15 = .ok (.iinc 4 1, 3) := dk_132 4 1 (dk_at dksX3_swap_2_0 15 rfl rfl)
theorem dX3_swap_2_18 : decode cX3_swap_2 18 = .ok (.iinc 1 1, 3) := dk_132 1 1 (dk_at dksX3_swap_2_0 18 rfl rfl)
theorem dX3_swap_2_21 : decode cX3_swap_2 21 = .ok (.iinc 2 1, 3) := dk_132 2 1 (dk_at dksX3_swap_2_0 21 rfl rfl)
theorem dX3_swap_2_24 : decode cX3_swap_2 24 = .ok (.goto (-21), 3) := dk_167 255 235 (dk_at dksX3_swap_2_1 0 rfl rfl)
theorem dX3_swap_2_27 : decode cX3_swap_2 27 = .ok (.return_, 1) := dk_177 (dk_at dksX3_swap_2_1 3 rfl rfl)
abbrev cX3_mergeSort : ByteArray := prog_5_method_10_code
def yX3_mergeSort : MethodName := ⟨RX3, "mergeSort", "([III)V"⟩
def dkwX3_mergeSort_0 : List UInt8 := [42, 27, 28, 1, 192, 0, 64, 184, 0, 60, 177]
abbrev dktX3_mergeSort_0 : List UInt8 := dkwX3_mergeSort_0 ++ []
theorem dksX3_mergeSort_0 : cX3_mergeSort.data.toList.drop 0 = dktX3_mergeSort_0 := by decide +kernel
theorem dX3_mergeSort_0 : decode cX3_mergeSort 0 = .ok (.aload_n 0, 1) := dk_42 (dk_at dksX3_mergeSort_0 0 rfl rfl)
theorem dX3_mergeSort_1 : decode cX3_mergeSort 1 = .ok (.iload_n 1, 1) := dk_27 (dk_at dksX3_mergeSort_0 1 rfl rfl)
theorem dX3_mergeSort_2 : decode cX3_mergeSort 2 = .ok (.iload_n 2, 1) := dk_28 (dk_at dksX3_mergeSort_0 2 rfl rfl)
theorem dX3_mergeSort_3 : decode cX3_mergeSort 3 = .ok (.aconst_null, 1) := dk_1 (dk_at dksX3_mergeSort_0 3 rfl rfl)
theorem dX3_mergeSort_4 : decode cX3_mergeSort 4 = .ok (.checkcast 64, 3) := dk_192 0 64 (dk_at dksX3_mergeSort_0 4 rfl rfl)
theorem dX3_mergeSort_7 : decode cX3_mergeSort 7 = .ok (.invokestatic 60, 3) := dk_184 0 60 (dk_at dksX3_mergeSort_0 7 rfl rfl)
theorem dX3_mergeSort_10 : decode cX3_mergeSort 10 = .ok (.return_, 1) := dk_177 (dk_at dksX3_mergeSort_0 10 rfl rfl)
abbrev cX3_mergeSort_2 : ByteArray := prog_5_method_9_code
def yX3_mergeSort_2 : MethodName := ⟨RX3, "mergeSort", "([III[I)V"⟩
def dkwX3_mergeSort_2_6 : List UInt8 := [132, 6, 1, 167, 255, 198, 177]
abbrev dktX3_mergeSort_2_6 : List UInt8 := dkwX3_mergeSort_2_6 ++ []
def dkwX3_mergeSort_2_5 : List UInt8 := [45, 21, 7, 132, 7, 1, 46, 79, 167, 0, 14, 42, 21, 6, 45, 21, 8, 132, 8, 1, 46, 79]
abbrev dktX3_mergeSort_2_5 : List UInt8 := dkwX3_mergeSort_2_5 ++ dktX3_mergeSort_2_6
def dkwX3_mergeSort_2_4 : List UInt8 := [162, 0, 21, 21, 7, 21, 5, 162, 0, 28, 45, 21, 7, 46, 45, 21, 8, 46, 163, 0, 17, 42, 21, 6]
abbrev dktX3_mergeSort_2_4 : List UInt8 := dkwX3_mergeSort_2_4 ++ dktX3_mergeSort_2_5
def dkwX3_mergeSort_2_3 : List UInt8 := [184, 0, 22, 177, 27, 54, 6, 27, 54, 7, 21, 5, 54, 8, 21, 6, 28, 162, 0, 58, 21, 8, 28]
abbrev dktX3_mergeSort_2_3 : List UInt8 := dkwX3_mergeSort_2_3 ++ dktX3_mergeSort_2_4
def dkwX3_mergeSort_2_2 : List UInt8 := [42, 184, 0, 60, 45, 21, 5, 4, 100, 46, 45, 21, 5, 46, 163, 0, 13, 45, 27, 42, 27, 21, 4]
abbrev dktX3_mergeSort_2_2 : List UInt8 := dkwX3_mergeSort_2_2 ++ dktX3_mergeSort_2_3
def dkwX3_mergeSort_2_1 : List UInt8 := [28, 184, 0, 54, 78, 27, 28, 96, 4, 124, 54, 5, 45, 27, 21, 5, 42, 184, 0, 60, 45, 21, 5, 28]
abbrev dktX3_mergeSort_2_1 : List UInt8 := dkwX3_mergeSort_2_1 ++ dktX3_mergeSort_2_2
def dkwX3_mergeSort_2_0 : List UInt8 := [28, 27, 100, 54, 4, 21, 4, 16, 16, 162, 0, 10, 42, 27, 28, 184, 0, 51, 177, 45, 199, 0, 9, 42]
abbrev dktX3_mergeSort_2_0 : List UInt8 := dkwX3_mergeSort_2_0 ++ dktX3_mergeSort_2_1
theorem dksX3_mergeSort_2_0 : cX3_mergeSort_2.data.toList.drop 0 = dktX3_mergeSort_2_0 := by decide +kernel
theorem dksX3_mergeSort_2_1 : cX3_mergeSort_2.data.toList.drop 24 = dktX3_mergeSort_2_1 := dk_seg dksX3_mergeSort_2_0 24 rfl rfl
theorem dksX3_mergeSort_2_2 : cX3_mergeSort_2.data.toList.drop 48 = dktX3_mergeSort_2_2 := dk_seg dksX3_mergeSort_2_1 24 rfl rfl
theorem dksX3_mergeSort_2_3 : cX3_mergeSort_2.data.toList.drop 71 = dktX3_mergeSort_2_3 := dk_seg dksX3_mergeSort_2_2 23 rfl rfl
theorem dksX3_mergeSort_2_4 : cX3_mergeSort_2.data.toList.drop 94 = dktX3_mergeSort_2_4 := dk_seg dksX3_mergeSort_2_3 23 rfl rfl
theorem dksX3_mergeSort_2_5 : cX3_mergeSort_2.data.toList.drop 118 = dktX3_mergeSort_2_5 := dk_seg dksX3_mergeSort_2_4 24 rfl rfl
theorem dksX3_mergeSort_2_6 : cX3_mergeSort_2.data.toList.drop 140 = dktX3_mergeSort_2_6 := dk_seg dksX3_mergeSort_2_5 22 rfl rfl
theorem dX3_mergeSort_2_0 : decode cX3_mergeSort_2 0 = .ok (.iload_n 2, 1) := dk_28 (dk_at dksX3_mergeSort_2_0 0 rfl rfl)
theorem dX3_mergeSort_2_1 : decode cX3_mergeSort_2 1 = .ok (.iload_n 1, 1) := dk_27 (dk_at dksX3_mergeSort_2_0 1 rfl rfl)
theorem dX3_mergeSort_2_2 : decode cX3_mergeSort_2 2 = .ok (.isub, 1) := dk_100 (dk_at dksX3_mergeSort_2_0 2 rfl rfl)
theorem dX3_mergeSort_2_3 : decode cX3_mergeSort_2 3 = .ok (.istore 4, 2) := dk_54 4 (dk_at dksX3_mergeSort_2_0 3 rfl rfl)
theorem dX3_mergeSort_2_5 : decode cX3_mergeSort_2 5 = .ok (.iload 4, 2) := dk_21 4 (dk_at dksX3_mergeSort_2_0 5 rfl rfl)
theorem dX3_mergeSort_2_7 : decode cX3_mergeSort_2 7 = .ok (.bipush 16, 2) := dk_16 16 (dk_at dksX3_mergeSort_2_0 7 rfl rfl)
theorem dX3_mergeSort_2_9 : decode cX3_mergeSort_2 9 = .ok (.if_icmp .ge 10, 3) := dk_162 0 10 (dk_at dksX3_mergeSort_2_0 9 rfl rfl)
theorem dX3_mergeSort_2_12 : decode cX3_mergeSort_2 12 = .ok (.aload_n 0, 1) := dk_42 (dk_at dksX3_mergeSort_2_0 12 rfl rfl)
theorem dX3_mergeSort_2_13 : decode cX3_mergeSort_2 13 = .ok (.iload_n 1, 1) := dk_27 (dk_at dksX3_mergeSort_2_0 13 rfl rfl)
theorem dX3_mergeSort_2_14 : decode cX3_mergeSort_2 14 = .ok (.iload_n 2, 1) := dk_28 (dk_at dksX3_mergeSort_2_0 14 rfl rfl)
theorem dX3_mergeSort_2_15 : decode cX3_mergeSort_2 15 = .ok (.invokestatic 51, 3) := dk_184 0 51 (dk_at dksX3_mergeSort_2_0 15 rfl rfl)
theorem dX3_mergeSort_2_18 : decode cX3_mergeSort_2 18 = .ok (.return_, 1) := dk_177 (dk_at dksX3_mergeSort_2_0 18 rfl rfl)
theorem dX3_mergeSort_2_19 : decode cX3_mergeSort_2 19 = .ok (.aload_n 3, 1) := dk_45 (dk_at dksX3_mergeSort_2_0 19 rfl rfl)
theorem dX3_mergeSort_2_20 : decode cX3_mergeSort_2 20 = .ok (.ifnonnull 9, 3) := dk_199 0 9 (dk_at dksX3_mergeSort_2_0 20 rfl rfl)
theorem dX3_mergeSort_2_23 : decode cX3_mergeSort_2 23 = .ok (.aload_n 0, 1) := dk_42 (dk_at dksX3_mergeSort_2_0 23 rfl rfl)
theorem dX3_mergeSort_2_24 : decode cX3_mergeSort_2 24 = .ok (.iload_n 2, 1) := dk_28 (dk_at dksX3_mergeSort_2_1 0 rfl rfl)
theorem dX3_mergeSort_2_25 : decode cX3_mergeSort_2 25 = .ok (.invokestatic 54, 3) := dk_184 0 54 (dk_at dksX3_mergeSort_2_1 1 rfl rfl)
theorem dX3_mergeSort_2_28 : decode cX3_mergeSort_2 28 = .ok (.astore_n 3, 1) := dk_78 (dk_at dksX3_mergeSort_2_1 4 rfl rfl)
theorem dX3_mergeSort_2_29 : decode cX3_mergeSort_2 29 = .ok (.iload_n 1, 1) := dk_27 (dk_at dksX3_mergeSort_2_1 5 rfl rfl)
theorem dX3_mergeSort_2_30 : decode cX3_mergeSort_2 30 = .ok (.iload_n 2, 1) := dk_28 (dk_at dksX3_mergeSort_2_1 6 rfl rfl)
theorem dX3_mergeSort_2_31 : decode cX3_mergeSort_2 31 = .ok (.iadd, 1) := dk_96 (dk_at dksX3_mergeSort_2_1 7 rfl rfl)
theorem dX3_mergeSort_2_32 : decode cX3_mergeSort_2 32 = .ok (.iconst 1, 1) := dk_4 (dk_at dksX3_mergeSort_2_1 8 rfl rfl)
theorem dX3_mergeSort_2_33 : decode cX3_mergeSort_2 33 = .ok (.iushr, 1) := dk_124 (dk_at dksX3_mergeSort_2_1 9 rfl rfl)
theorem dX3_mergeSort_2_34 : decode cX3_mergeSort_2 34 = .ok (.istore 5, 2) := dk_54 5 (dk_at dksX3_mergeSort_2_1 10 rfl rfl)
theorem dX3_mergeSort_2_36 : decode cX3_mergeSort_2 36 = .ok (.aload_n 3, 1) := dk_45 (dk_at dksX3_mergeSort_2_1 12 rfl rfl)
theorem dX3_mergeSort_2_37 : decode cX3_mergeSort_2 37 = .ok (.iload_n 1, 1) := dk_27 (dk_at dksX3_mergeSort_2_1 13 rfl rfl)
theorem dX3_mergeSort_2_38 : decode cX3_mergeSort_2 38 = .ok (.iload 5, 2) := dk_21 5 (dk_at dksX3_mergeSort_2_1 14 rfl rfl)
theorem dX3_mergeSort_2_40 : decode cX3_mergeSort_2 40 = .ok (.aload_n 0, 1) := dk_42 (dk_at dksX3_mergeSort_2_1 16 rfl rfl)
theorem dX3_mergeSort_2_41 : decode cX3_mergeSort_2 41 = .ok (.invokestatic 60, 3) := dk_184 0 60 (dk_at dksX3_mergeSort_2_1 17 rfl rfl)
theorem dX3_mergeSort_2_44 : decode cX3_mergeSort_2 44 = .ok (.aload_n 3, 1) := dk_45 (dk_at dksX3_mergeSort_2_1 20 rfl rfl)
theorem dX3_mergeSort_2_45 : decode cX3_mergeSort_2 45 = .ok (.iload 5, 2) := dk_21 5 (dk_at dksX3_mergeSort_2_1 21 rfl rfl)
theorem dX3_mergeSort_2_47 : decode cX3_mergeSort_2 47 = .ok (.iload_n 2, 1) := dk_28 (dk_at dksX3_mergeSort_2_1 23 rfl rfl)
theorem dX3_mergeSort_2_48 : decode cX3_mergeSort_2 48 = .ok (.aload_n 0, 1) := dk_42 (dk_at dksX3_mergeSort_2_2 0 rfl rfl)
theorem dX3_mergeSort_2_49 : decode cX3_mergeSort_2 49 = .ok (.invokestatic 60, 3) := dk_184 0 60 (dk_at dksX3_mergeSort_2_2 1 rfl rfl)
theorem dX3_mergeSort_2_52 : decode cX3_mergeSort_2 52 = .ok (.aload_n 3, 1) := dk_45 (dk_at dksX3_mergeSort_2_2 4 rfl rfl)
theorem dX3_mergeSort_2_53 : decode cX3_mergeSort_2 53 = .ok (.iload 5, 2) := dk_21 5 (dk_at dksX3_mergeSort_2_2 5 rfl rfl)
theorem dX3_mergeSort_2_55 : decode cX3_mergeSort_2 55 = .ok (.iconst 1, 1) := dk_4 (dk_at dksX3_mergeSort_2_2 7 rfl rfl)
theorem dX3_mergeSort_2_56 : decode cX3_mergeSort_2 56 = .ok (.isub, 1) := dk_100 (dk_at dksX3_mergeSort_2_2 8 rfl rfl)
theorem dX3_mergeSort_2_57 : decode cX3_mergeSort_2 57 = .ok (.iaload, 1) := dk_46 (dk_at dksX3_mergeSort_2_2 9 rfl rfl)
theorem dX3_mergeSort_2_58 : decode cX3_mergeSort_2 58 = .ok (.aload_n 3, 1) := dk_45 (dk_at dksX3_mergeSort_2_2 10 rfl rfl)
theorem dX3_mergeSort_2_59 : decode cX3_mergeSort_2 59 = .ok (.iload 5, 2) := dk_21 5 (dk_at dksX3_mergeSort_2_2 11 rfl rfl)
theorem dX3_mergeSort_2_61 : decode cX3_mergeSort_2 61 = .ok (.iaload, 1) := dk_46 (dk_at dksX3_mergeSort_2_2 13 rfl rfl)
theorem dX3_mergeSort_2_62 : decode cX3_mergeSort_2 62 = .ok (.if_icmp .gt 13, 3) := dk_163 0 13 (dk_at dksX3_mergeSort_2_2 14 rfl rfl)
theorem dX3_mergeSort_2_65 : decode cX3_mergeSort_2 65 = .ok (.aload_n 3, 1) := dk_45 (dk_at dksX3_mergeSort_2_2 17 rfl rfl)
theorem dX3_mergeSort_2_66 : decode cX3_mergeSort_2 66 = .ok (.iload_n 1, 1) := dk_27 (dk_at dksX3_mergeSort_2_2 18 rfl rfl)
theorem dX3_mergeSort_2_67 : decode cX3_mergeSort_2 67 = .ok (.aload_n 0, 1) := dk_42 (dk_at dksX3_mergeSort_2_2 19 rfl rfl)
theorem dX3_mergeSort_2_68 : decode cX3_mergeSort_2 68 = .ok (.iload_n 1, 1) := dk_27 (dk_at dksX3_mergeSort_2_2 20 rfl rfl)
theorem dX3_mergeSort_2_69 : decode cX3_mergeSort_2 69 = .ok (.iload 4, 2) := dk_21 4 (dk_at dksX3_mergeSort_2_2 21 rfl rfl)
theorem dX3_mergeSort_2_71 : decode cX3_mergeSort_2 71 = .ok (.invokestatic 22, 3) := dk_184 0 22 (dk_at dksX3_mergeSort_2_3 0 rfl rfl)
theorem dX3_mergeSort_2_74 : decode cX3_mergeSort_2 74 = .ok (.return_, 1) := dk_177 (dk_at dksX3_mergeSort_2_3 3 rfl rfl)
theorem dX3_mergeSort_2_75 : decode cX3_mergeSort_2 75 = .ok (.iload_n 1, 1) := dk_27 (dk_at dksX3_mergeSort_2_3 4 rfl rfl)
theorem dX3_mergeSort_2_76 : decode cX3_mergeSort_2 76 = .ok (.istore 6, 2) := dk_54 6 (dk_at dksX3_mergeSort_2_3 5 rfl rfl)
theorem dX3_mergeSort_2_78 : decode cX3_mergeSort_2 78 = .ok (.iload_n 1, 1) := dk_27 (dk_at dksX3_mergeSort_2_3 7 rfl rfl)
theorem dX3_mergeSort_2_79 : decode cX3_mergeSort_2 79 = .ok (.istore 7, 2) := dk_54 7 (dk_at dksX3_mergeSort_2_3 8 rfl rfl)
theorem dX3_mergeSort_2_81 : decode cX3_mergeSort_2 81 = .ok (.iload 5, 2) := dk_21 5 (dk_at dksX3_mergeSort_2_3 10 rfl rfl)
theorem dX3_mergeSort_2_83 : decode cX3_mergeSort_2 83 = .ok (.istore 8, 2) := dk_54 8 (dk_at dksX3_mergeSort_2_3 12 rfl rfl)
theorem dX3_mergeSort_2_85 : decode cX3_mergeSort_2 85 = .ok (.iload 6, 2) := dk_21 6 (dk_at dksX3_mergeSort_2_3 14 rfl rfl)
theorem dX3_mergeSort_2_87 : decode cX3_mergeSort_2 87 = .ok (.iload_n 2, 1) := dk_28 (dk_at dksX3_mergeSort_2_3 16 rfl rfl)
theorem dX3_mergeSort_2_88 : decode cX3_mergeSort_2 88 = .ok (.if_icmp .ge 58, 3) := dk_162 0 58 (dk_at dksX3_mergeSort_2_3 17 rfl rfl)
theorem dX3_mergeSort_2_91 : decode cX3_mergeSort_2 91 = .ok (.iload 8, 2) := dk_21 8 (dk_at dksX3_mergeSort_2_3 20 rfl rfl)
theorem dX3_mergeSort_2_93 : decode cX3_mergeSort_2 93 = .ok (.iload_n 2, 1) := dk_28 (dk_at dksX3_mergeSort_2_3 22 rfl rfl)
theorem dX3_mergeSort_2_94 : decode cX3_mergeSort_2 94 = .ok (.if_icmp .ge 21, 3) := dk_162 0 21 (dk_at dksX3_mergeSort_2_4 0 rfl rfl)
theorem dX3_mergeSort_2_97 : decode cX3_mergeSort_2 97 = .ok (.iload 7, 2) := dk_21 7 (dk_at dksX3_mergeSort_2_4 3 rfl rfl)
theorem dX3_mergeSort_2_99 : decode cX3_mergeSort_2 99 = .ok (.iload 5, 2) := dk_21 5 (dk_at dksX3_mergeSort_2_4 5 rfl rfl)
theorem dX3_mergeSort_2_101 : decode cX3_mergeSort_2 101 = .ok (.if_icmp .ge 28, 3) := dk_162 0 28 (dk_at dksX3_mergeSort_2_4 7 rfl rfl)
theorem dX3_mergeSort_2_104 : decode cX3_mergeSort_2 104 = .ok (.aload_n 3, 1) := dk_45 (dk_at dksX3_mergeSort_2_4 10 rfl rfl)
theorem dX3_mergeSort_2_105 : decode cX3_mergeSort_2 105 = .ok (.iload 7, 2) := dk_21 7 (dk_at dksX3_mergeSort_2_4 11 rfl rfl)
theorem dX3_mergeSort_2_107 : decode cX3_mergeSort_2 107 = .ok (.iaload, 1) := dk_46 (dk_at dksX3_mergeSort_2_4 13 rfl rfl)
theorem dX3_mergeSort_2_108 : decode cX3_mergeSort_2 108 = .ok (.aload_n 3, 1) := dk_45 (dk_at dksX3_mergeSort_2_4 14 rfl rfl)
theorem dX3_mergeSort_2_109 : decode cX3_mergeSort_2 109 = .ok (.iload 8, 2) := dk_21 8 (dk_at dksX3_mergeSort_2_4 15 rfl rfl)
theorem dX3_mergeSort_2_111 : decode cX3_mergeSort_2 111 = .ok (.iaload, 1) := dk_46 (dk_at dksX3_mergeSort_2_4 17 rfl rfl)
theorem dX3_mergeSort_2_112 : decode cX3_mergeSort_2 112 = .ok (.if_icmp .gt 17, 3) := dk_163 0 17 (dk_at dksX3_mergeSort_2_4 18 rfl rfl)
theorem dX3_mergeSort_2_115 : decode cX3_mergeSort_2 115 = .ok (.aload_n 0, 1) := dk_42 (dk_at dksX3_mergeSort_2_4 21 rfl rfl)
theorem dX3_mergeSort_2_116 : decode cX3_mergeSort_2 116 = .ok (.iload 6, 2) := dk_21 6 (dk_at dksX3_mergeSort_2_4 22 rfl rfl)
theorem dX3_mergeSort_2_118 : decode cX3_mergeSort_2 118 = .ok (.aload_n 3, 1) := dk_45 (dk_at dksX3_mergeSort_2_5 0 rfl rfl)
theorem dX3_mergeSort_2_119 : decode cX3_mergeSort_2 119 = .ok (.iload 7, 2) := dk_21 7 (dk_at dksX3_mergeSort_2_5 1 rfl rfl)
theorem dX3_mergeSort_2_121 : decode cX3_mergeSort_2 121 = .ok (.iinc 7 1, 3) := dk_132 7 1 (dk_at dksX3_mergeSort_2_5 3 rfl rfl)
theorem dX3_mergeSort_2_124 : decode cX3_mergeSort_2 124 = .ok (.iaload, 1) := dk_46 (dk_at dksX3_mergeSort_2_5 6 rfl rfl)
theorem dX3_mergeSort_2_125 : decode cX3_mergeSort_2 125 = .ok (.iastore, 1) := dk_79 (dk_at dksX3_mergeSort_2_5 7 rfl rfl)
theorem dX3_mergeSort_2_126 : decode cX3_mergeSort_2 126 = .ok (.goto 14, 3) := dk_167 0 14 (dk_at dksX3_mergeSort_2_5 8 rfl rfl)
theorem dX3_mergeSort_2_129 : decode cX3_mergeSort_2 129 = .ok (.aload_n 0, 1) := dk_42 (dk_at dksX3_mergeSort_2_5 11 rfl rfl)
theorem dX3_mergeSort_2_130 : decode cX3_mergeSort_2 130 = .ok (.iload 6, 2) := dk_21 6 (dk_at dksX3_mergeSort_2_5 12 rfl rfl)
theorem dX3_mergeSort_2_132 : decode cX3_mergeSort_2 132 = .ok (.aload_n 3, 1) := dk_45 (dk_at dksX3_mergeSort_2_5 14 rfl rfl)
theorem dX3_mergeSort_2_133 : decode cX3_mergeSort_2 133 = .ok (.iload 8, 2) := dk_21 8 (dk_at dksX3_mergeSort_2_5 15 rfl rfl)
theorem dX3_mergeSort_2_135 : decode cX3_mergeSort_2 135 = .ok (.iinc 8 1, 3) := dk_132 8 1 (dk_at dksX3_mergeSort_2_5 17 rfl rfl)
theorem dX3_mergeSort_2_138 : decode cX3_mergeSort_2 138 = .ok (.iaload, 1) := dk_46 (dk_at dksX3_mergeSort_2_5 20 rfl rfl)
theorem dX3_mergeSort_2_139 : decode cX3_mergeSort_2 139 = .ok (.iastore, 1) := dk_79 (dk_at dksX3_mergeSort_2_5 21 rfl rfl)
theorem dX3_mergeSort_2_140 : decode cX3_mergeSort_2 140 = .ok (.iinc 6 1, 3) := dk_132 6 1 (dk_at dksX3_mergeSort_2_6 0 rfl rfl)
theorem dX3_mergeSort_2_143 : decode cX3_mergeSort_2 143 = .ok (.goto (-58), 3) := dk_167 255 198 (dk_at dksX3_mergeSort_2_6 3 rfl rfl)
theorem dX3_mergeSort_2_146 : decode cX3_mergeSort_2 146 = .ok (.return_, 1) := dk_177 (dk_at dksX3_mergeSort_2_6 6 rfl rfl)
abbrev cX3_insertionSort : ByteArray := prog_5_method_7_code
def yX3_insertionSort : MethodName := ⟨RX3, "insertionSort", "([III)V"⟩
def dkwX3_insertionSort_3 : List UInt8 := [21, 4, 79, 167, 255, 185, 177]
abbrev dktX3_insertionSort_3 : List UInt8 := dkwX3_insertionSort_3 ++ []
def dkwX3_insertionSort_2 : List UInt8 := [132, 5, 255, 167, 0, 17, 42, 132, 5, 255, 21, 5, 4, 100, 46, 54, 6, 167, 255, 218, 42, 21, 5]
abbrev dktX3_insertionSort_2 : List UInt8 := dkwX3_insertionSort_2 ++ dktX3_insertionSort_3
def dkwX3_insertionSort_1 : List UInt8 := [54, 6, 21, 4, 21, 6, 162, 0, 37, 42, 21, 5, 21, 6, 79, 27, 21, 5, 4, 100, 160, 0, 9]
abbrev dktX3_insertionSort_1 : List UInt8 := dkwX3_insertionSort_1 ++ dktX3_insertionSort_2
def dkwX3_insertionSort_0 : List UInt8 := [27, 62, 132, 3, 1, 29, 28, 162, 0, 69, 42, 29, 46, 54, 4, 29, 54, 5, 42, 21, 5, 4, 100, 46]
abbrev dktX3_insertionSort_0 : List UInt8 := dkwX3_insertionSort_0 ++ dktX3_insertionSort_1
theorem dksX3_insertionSort_0 : cX3_insertionSort.data.toList.drop 0 = dktX3_insertionSort_0 := by decide +kernel
theorem dksX3_insertionSort_1 : cX3_insertionSort.data.toList.drop 24 = dktX3_insertionSort_1 := dk_seg dksX3_insertionSort_0 24 rfl rfl
theorem dksX3_insertionSort_2 : cX3_insertionSort.data.toList.drop 47 = dktX3_insertionSort_2 := dk_seg dksX3_insertionSort_1 23 rfl rfl
theorem dksX3_insertionSort_3 : cX3_insertionSort.data.toList.drop 70 = dktX3_insertionSort_3 := dk_seg dksX3_insertionSort_2 23 rfl rfl
theorem dX3_insertionSort_0 : decode cX3_insertionSort 0 = .ok (.iload_n 1, 1) := dk_27 (dk_at dksX3_insertionSort_0 0 rfl rfl)
theorem dX3_insertionSort_1 : decode cX3_insertionSort 1 = .ok (.istore_n 3, 1) := dk_62 (dk_at dksX3_insertionSort_0 1 rfl rfl)
theorem dX3_insertionSort_2 : decode cX3_insertionSort 2 = .ok (.iinc 3 1, 3) := dk_132 3 1 (dk_at dksX3_insertionSort_0 2 rfl rfl)
theorem dX3_insertionSort_5 : decode cX3_insertionSort 5 = .ok (.iload_n 3, 1) := dk_29 (dk_at dksX3_insertionSort_0 5 rfl rfl)
theorem dX3_insertionSort_6 : decode cX3_insertionSort 6 = .ok (.iload_n 2, 1) := dk_28 (dk_at dksX3_insertionSort_0 6 rfl rfl)
theorem dX3_insertionSort_7 : decode cX3_insertionSort 7 = .ok (.if_icmp .ge 69, 3) := dk_162 0 69 (dk_at dksX3_insertionSort_0 7 rfl rfl)
theorem dX3_insertionSort_10 : decode cX3_insertionSort 10 = .ok (.aload_n 0, 1) := dk_42 (dk_at dksX3_insertionSort_0 10 rfl rfl)
theorem dX3_insertionSort_11 : decode cX3_insertionSort 11 = .ok (.iload_n 3, 1) := dk_29 (dk_at dksX3_insertionSort_0 11 rfl rfl)
theorem dX3_insertionSort_12 : decode cX3_insertionSort 12 = .ok (.iaload, 1) := dk_46 (dk_at dksX3_insertionSort_0 12 rfl rfl)
theorem dX3_insertionSort_13 : decode cX3_insertionSort 13 = .ok (.istore 4, 2) := dk_54 4 (dk_at dksX3_insertionSort_0 13 rfl rfl)
theorem dX3_insertionSort_15 : decode cX3_insertionSort 15 = .ok (.iload_n 3, 1) := dk_29 (dk_at dksX3_insertionSort_0 15 rfl rfl)
theorem dX3_insertionSort_16 : decode cX3_insertionSort 16 = .ok (.istore 5, 2) := dk_54 5 (dk_at dksX3_insertionSort_0 16 rfl rfl)
theorem dX3_insertionSort_18 : decode cX3_insertionSort 18 = .ok (.aload_n 0, 1) := dk_42 (dk_at dksX3_insertionSort_0 18 rfl rfl)
theorem dX3_insertionSort_19 : decode cX3_insertionSort 19 = .ok (.iload 5, 2) := dk_21 5 (dk_at dksX3_insertionSort_0 19 rfl rfl)
theorem dX3_insertionSort_21 : decode cX3_insertionSort 21 = .ok (.iconst 1, 1) := dk_4 (dk_at dksX3_insertionSort_0 21 rfl rfl)
theorem dX3_insertionSort_22 : decode cX3_insertionSort 22 = .ok (.isub, 1) := dk_100 (dk_at dksX3_insertionSort_0 22 rfl rfl)
theorem dX3_insertionSort_23 : decode cX3_insertionSort 23 = .ok (.iaload, 1) := dk_46 (dk_at dksX3_insertionSort_0 23 rfl rfl)
theorem dX3_insertionSort_24 : decode cX3_insertionSort 24 = .ok (.istore 6, 2) := dk_54 6 (dk_at dksX3_insertionSort_1 0 rfl rfl)
theorem dX3_insertionSort_26 : decode cX3_insertionSort 26 = .ok (.iload 4, 2) := dk_21 4 (dk_at dksX3_insertionSort_1 2 rfl rfl)
theorem dX3_insertionSort_28 : decode cX3_insertionSort 28 = .ok (.iload 6, 2) := dk_21 6 (dk_at dksX3_insertionSort_1 4 rfl rfl)
theorem dX3_insertionSort_30 : decode cX3_insertionSort 30 = .ok (.if_icmp .ge 37, 3) := dk_162 0 37 (dk_at dksX3_insertionSort_1 6 rfl rfl)
theorem dX3_insertionSort_33 : decode cX3_insertionSort 33 = .ok (.aload_n 0, 1) := dk_42 (dk_at dksX3_insertionSort_1 9 rfl rfl)
theorem dX3_insertionSort_34 : decode cX3_insertionSort 34 = .ok (.iload 5, 2) := dk_21 5 (dk_at dksX3_insertionSort_1 10 rfl rfl)
theorem dX3_insertionSort_36 : decode cX3_insertionSort 36 = .ok (.iload 6, 2) := dk_21 6 (dk_at dksX3_insertionSort_1 12 rfl rfl)
theorem dX3_insertionSort_38 : decode cX3_insertionSort 38 = .ok (.iastore, 1) := dk_79 (dk_at dksX3_insertionSort_1 14 rfl rfl)
theorem dX3_insertionSort_39 : decode cX3_insertionSort 39 = .ok (.iload_n 1, 1) := dk_27 (dk_at dksX3_insertionSort_1 15 rfl rfl)
theorem dX3_insertionSort_40 : decode cX3_insertionSort 40 = .ok (.iload 5, 2) := dk_21 5 (dk_at dksX3_insertionSort_1 16 rfl rfl)
theorem dX3_insertionSort_42 : decode cX3_insertionSort 42 = .ok (.iconst 1, 1) := dk_4 (dk_at dksX3_insertionSort_1 18 rfl rfl)
theorem dX3_insertionSort_43 : decode cX3_insertionSort 43 = .ok (.isub, 1) := dk_100 (dk_at dksX3_insertionSort_1 19 rfl rfl)
theorem dX3_insertionSort_44 : decode cX3_insertionSort 44 = .ok (.if_icmp .ne 9, 3) := dk_160 0 9 (dk_at dksX3_insertionSort_1 20 rfl rfl)
theorem dX3_insertionSort_47 : decode cX3_insertionSort 47 = .ok (.iinc 5 (-1), 3) := dk_132 5 255 (dk_at dksX3_insertionSort_2 0 rfl rfl)
theorem dX3_insertionSort_50 : decode cX3_insertionSort 50 = .ok (.goto 17, 3) := dk_167 0 17 (dk_at dksX3_insertionSort_2 3 rfl rfl)
theorem dX3_insertionSort_53 : decode cX3_insertionSort 53 = .ok (.aload_n 0, 1) := dk_42 (dk_at dksX3_insertionSort_2 6 rfl rfl)
theorem dX3_insertionSort_54 : decode cX3_insertionSort 54 = .ok (.iinc 5 (-1), 3) := dk_132 5 255 (dk_at dksX3_insertionSort_2 7 rfl rfl)
theorem dX3_insertionSort_57 : decode cX3_insertionSort 57 = .ok (.iload 5, 2) := dk_21 5 (dk_at dksX3_insertionSort_2 10 rfl rfl)
theorem dX3_insertionSort_59 : decode cX3_insertionSort 59 = .ok (.iconst 1, 1) := dk_4 (dk_at dksX3_insertionSort_2 12 rfl rfl)
theorem dX3_insertionSort_60 : decode cX3_insertionSort 60 = .ok (.isub, 1) := dk_100 (dk_at dksX3_insertionSort_2 13 rfl rfl)
theorem dX3_insertionSort_61 : decode cX3_insertionSort 61 = .ok (.iaload, 1) := dk_46 (dk_at dksX3_insertionSort_2 14 rfl rfl)
theorem dX3_insertionSort_62 : decode cX3_insertionSort 62 = .ok (.istore 6, 2) := dk_54 6 (dk_at dksX3_insertionSort_2 15 rfl rfl)
theorem dX3_insertionSort_64 : decode cX3_insertionSort 64 = .ok (.goto (-38), 3) := dk_167 255 218 (dk_at dksX3_insertionSort_2 17 rfl rfl)
theorem dX3_insertionSort_67 : decode cX3_insertionSort 67 = .ok (.aload_n 0, 1) := dk_42 (dk_at dksX3_insertionSort_2 20 rfl rfl)
theorem dX3_insertionSort_68 : decode cX3_insertionSort 68 = .ok (.iload 5, 2) := dk_21 5 (dk_at dksX3_insertionSort_2 21 rfl rfl)
theorem dX3_insertionSort_70 : decode cX3_insertionSort 70 = .ok (.iload 4, 2) := dk_21 4 (dk_at dksX3_insertionSort_3 0 rfl rfl)
theorem dX3_insertionSort_72 : decode cX3_insertionSort 72 = .ok (.iastore, 1) := dk_79 (dk_at dksX3_insertionSort_3 2 rfl rfl)
theorem dX3_insertionSort_73 : decode cX3_insertionSort 73 = .ok (.goto (-71), 3) := dk_167 255 185 (dk_at dksX3_insertionSort_3 3 rfl rfl)
theorem dX3_insertionSort_76 : decode cX3_insertionSort 76 = .ok (.return_, 1) := dk_177 (dk_at dksX3_insertionSort_3 6 rfl rfl)
abbrev cX3_radixSort : ByteArray := prog_5_method_11_code
def yX3_radixSort : MethodName := ⟨RX3, "radixSort", "([III)V"⟩
def dkwX3_radixSort_17 : List UInt8 := [21, 16, 25, 7, 21, 17, 46, 96, 54, 16, 25, 7, 21, 17, 3, 79, 167, 255, 80, 167, 254, 168, 177]
abbrev dktX3_radixSort_17 : List UInt8 := dkwX3_radixSort_17 ++ []
def dkwX3_radixSort_16 : List UInt8 := [21, 16, 79, 25, 5, 29, 25, 7, 21, 17, 46, 79, 25, 6, 29, 132, 3, 1, 21, 11, 4, 96, 79]
abbrev dktX3_radixSort_16 : List UInt8 := dkwX3_radixSort_16 ++ dktX3_radixSort_17
def dkwX3_radixSort_15 : List UInt8 := [162, 0, 20, 42, 21, 16, 21, 16, 25, 7, 21, 17, 46, 96, 184, 0, 48, 167, 0, 29, 25, 4, 29]
abbrev dktX3_radixSort_15 : List UInt8 := dkwX3_radixSort_15 ++ dktX3_radixSort_16
def dkwX3_radixSort_14 : List UInt8 := [21, 11, 6, 162, 0, 66, 25, 7, 21, 17, 46, 4, 164, 0, 57, 25, 7, 21, 17, 46, 17, 4, 0]
abbrev dktX3_radixSort_14 : List UInt8 := dkwX3_radixSort_14 ++ dktX3_radixSort_15
def dkwX3_radixSort_13 : List UInt8 := [21, 19, 21, 13, 124, 17, 0, 255, 126, 21, 12, 130, 54, 17, 167, 255, 208, 42, 21, 16, 21, 19, 79]
abbrev dktX3_radixSort_13 : List UInt8 := dkwX3_radixSort_13 ++ dktX3_radixSort_14
def dkwX3_radixSort_12 : List UInt8 := [54, 18, 21, 16, 164, 0, 36, 21, 19, 54, 20, 42, 21, 18, 46, 54, 19, 42, 21, 18, 21, 20, 79]
abbrev dktX3_radixSort_12 : List UInt8 := dkwX3_radixSort_12 ++ dktX3_radixSort_13
def dkwX3_radixSort_11 : List UInt8 := [21, 12, 130, 54, 17, 21, 16, 21, 15, 162, 0, 60, 25, 8, 21, 17, 92, 46, 4, 100, 91, 79, 89]
abbrev dktX3_radixSort_11 : List UInt8 := dkwX3_radixSort_11 ++ dktX3_radixSort_12
def dkwX3_radixSort_10 : List UInt8 := [54, 17, 21, 16, 21, 15, 163, 0, 175, 42, 21, 16, 46, 54, 19, 21, 19, 21, 13, 124, 17, 0, 255, 126]
abbrev dktX3_radixSort_10 : List UInt8 := dkwX3_radixSort_10 ++ dktX3_radixSort_11
def dkwX3_radixSort_9 : List UInt8 := [132, 15, 1, 167, 255, 217, 21, 9, 21, 10, 96, 25, 7, 21, 14, 46, 100, 54, 15, 21, 9, 54, 16, 2]
abbrev dktX3_radixSort_9 : List UInt8 := dkwX3_radixSort_9 ++ dktX3_radixSort_10
def dkwX3_radixSort_8 : List UInt8 := [153, 0, 7, 21, 15, 54, 14, 25, 8, 21, 15, 21, 16, 25, 7, 21, 15, 46, 96, 89, 54, 16, 79]
abbrev dktX3_radixSort_8 : List UInt8 := dkwX3_radixSort_8 ++ dktX3_radixSort_9
def dkwX3_radixSort_7 : List UInt8 := [2, 54, 14, 3, 54, 15, 21, 9, 54, 16, 21, 15, 17, 1, 0, 162, 0, 37, 25, 7, 21, 15, 46]
abbrev dktX3_radixSort_7 : List UInt8 := dkwX3_radixSort_7 ++ dktX3_radixSort_8
def dkwX3_radixSort_6 : List UInt8 := [25, 7, 42, 21, 14, 46, 21, 13, 124, 17, 0, 255, 126, 21, 12, 130, 92, 46, 4, 96, 79, 167, 255, 225]
abbrev dktX3_radixSort_6 : List UInt8 := dkwX3_radixSort_6 ++ dktX3_radixSort_7
def dkwX3_radixSort_5 : List UInt8 := [100, 16, 8, 104, 54, 13, 21, 9, 21, 10, 96, 54, 14, 21, 14, 132, 14, 255, 21, 9, 159, 0, 27]
abbrev dktX3_radixSort_5 : List UInt8 := dkwX3_radixSort_5 ++ dktX3_radixSort_6
def dkwX3_radixSort_4 : List UInt8 := [46, 54, 11, 21, 11, 7, 112, 154, 0, 9, 17, 0, 128, 167, 0, 4, 3, 54, 12, 6, 21, 11, 7, 112]
abbrev dktX3_radixSort_4 : List UInt8 := dkwX3_radixSort_4 ++ dktX3_radixSort_5
def dkwX3_radixSort_3 : List UInt8 := [58, 8, 29, 158, 1, 90, 25, 4, 132, 3, 255, 29, 46, 54, 9, 25, 5, 29, 46, 54, 10, 25, 6, 29]
abbrev dktX3_radixSort_3 : List UInt8 := dkwX3_radixSort_3 ++ dktX3_radixSort_4
def dkwX3_radixSort_2 : List UInt8 := [28, 27, 100, 79, 25, 6, 29, 132, 3, 1, 3, 79, 17, 1, 0, 188, 10, 58, 7, 17, 1, 0, 188, 10]
abbrev dktX3_radixSort_2 : List UInt8 := dkwX3_radixSort_2 ++ dktX3_radixSort_3
def dkwX3_radixSort_1 : List UInt8 := [58, 4, 17, 2, 254, 188, 10, 58, 5, 17, 2, 254, 188, 10, 58, 6, 25, 4, 29, 27, 79, 25, 5, 29]
abbrev dktX3_radixSort_1 : List UInt8 := dkwX3_radixSort_1 ++ dktX3_radixSort_2
def dkwX3_radixSort_0 : List UInt8 := [28, 27, 100, 17, 4, 0, 162, 0, 10, 42, 27, 28, 184, 0, 48, 177, 3, 62, 17, 2, 254, 188, 10]
abbrev dktX3_radixSort_0 : List UInt8 := dkwX3_radixSort_0 ++ dktX3_radixSort_1
theorem dksX3_radixSort_0 : cX3_radixSort.data.toList.drop 0 = dktX3_radixSort_0 := by decide +kernel
theorem dksX3_radixSort_1 : cX3_radixSort.data.toList.drop 23 = dktX3_radixSort_1 := dk_seg dksX3_radixSort_0 23 rfl rfl
theorem dksX3_radixSort_2 : cX3_radixSort.data.toList.drop 47 = dktX3_radixSort_2 := dk_seg dksX3_radixSort_1 24 rfl rfl
theorem dksX3_radixSort_3 : cX3_radixSort.data.toList.drop 71 = dktX3_radixSort_3 := dk_seg dksX3_radixSort_2 24 rfl rfl
theorem dksX3_radixSort_4 : cX3_radixSort.data.toList.drop 95 = dktX3_radixSort_4 := dk_seg dksX3_radixSort_3 24 rfl rfl
theorem dksX3_radixSort_5 : cX3_radixSort.data.toList.drop 119 = dktX3_radixSort_5 := dk_seg dksX3_radixSort_4 24 rfl rfl
theorem dksX3_radixSort_6 : cX3_radixSort.data.toList.drop 142 = dktX3_radixSort_6 := dk_seg dksX3_radixSort_5 23 rfl rfl
theorem dksX3_radixSort_7 : cX3_radixSort.data.toList.drop 166 = dktX3_radixSort_7 := dk_seg dksX3_radixSort_6 24 rfl rfl
theorem dksX3_radixSort_8 : cX3_radixSort.data.toList.drop 189 = dktX3_radixSort_8 := dk_seg dksX3_radixSort_7 23 rfl rfl
theorem dksX3_radixSort_9 : cX3_radixSort.data.toList.drop 212 = dktX3_radixSort_9 := dk_seg dksX3_radixSort_8 23 rfl rfl
theorem dksX3_radixSort_10 : cX3_radixSort.data.toList.drop 236 = dktX3_radixSort_10 := dk_seg dksX3_radixSort_9 24 rfl rfl
theorem dksX3_radixSort_11 : cX3_radixSort.data.toList.drop 260 = dktX3_radixSort_11 := dk_seg dksX3_radixSort_10 24 rfl rfl
theorem dksX3_radixSort_12 : cX3_radixSort.data.toList.drop 283 = dktX3_radixSort_12 := dk_seg dksX3_radixSort_11 23 rfl rfl
theorem dksX3_radixSort_13 : cX3_radixSort.data.toList.drop 306 = dktX3_radixSort_13 := dk_seg dksX3_radixSort_12 23 rfl rfl
theorem dksX3_radixSort_14 : cX3_radixSort.data.toList.drop 329 = dktX3_radixSort_14 := dk_seg dksX3_radixSort_13 23 rfl rfl
theorem dksX3_radixSort_15 : cX3_radixSort.data.toList.drop 352 = dktX3_radixSort_15 := dk_seg dksX3_radixSort_14 23 rfl rfl
theorem dksX3_radixSort_16 : cX3_radixSort.data.toList.drop 375 = dktX3_radixSort_16 := dk_seg dksX3_radixSort_15 23 rfl rfl
theorem dksX3_radixSort_17 : cX3_radixSort.data.toList.drop 398 = dktX3_radixSort_17 := dk_seg dksX3_radixSort_16 23 rfl rfl
theorem dX3_radixSort_0 : decode cX3_radixSort 0 = .ok (.iload_n 2, 1) := dk_28 (dk_at dksX3_radixSort_0 0 rfl rfl)
theorem dX3_radixSort_1 : decode cX3_radixSort 1 = .ok (.iload_n 1, 1) := dk_27 (dk_at dksX3_radixSort_0 1 rfl rfl)
theorem dX3_radixSort_2 : decode cX3_radixSort 2 = .ok (.isub, 1) := dk_100 (dk_at dksX3_radixSort_0 2 rfl rfl)
theorem dX3_radixSort_3 : decode cX3_radixSort 3 = .ok (.sipush 1024, 3) := dk_17 4 0 (dk_at dksX3_radixSort_0 3 rfl rfl)
theorem dX3_radixSort_6 : decode cX3_radixSort 6 = .ok (.if_icmp .ge 10, 3) := dk_162 0 10 (dk_at dksX3_radixSort_0 6 rfl rfl)
theorem dX3_radixSort_9 : decode cX3_radixSort 9 = .ok (.aload_n 0, 1) := dk_42 (dk_at dksX3_radixSort_0 9 rfl rfl)
theorem dX3_radixSort_10 : decode cX3_radixSort 10 = .ok (.iload_n 1, 1) := dk_27 (dk_at dksX3_radixSort_0 10 rfl rfl)
theorem dX3_radixSort_11 : decode cX3_radixSort 11 = .ok (.iload_n 2, 1) := dk_28 (dk_at dksX3_radixSort_0 11 rfl rfl)
theorem dX3_radixSort_12 : decode cX3_radixSort 12 = .ok (.invokestatic 48, 3) := dk_184 0 48 (dk_at dksX3_radixSort_0 12 rfl rfl)
theorem dX3_radixSort_15 : decode cX3_radixSort 15 = .ok (.return_, 1) := dk_177 (dk_at dksX3_radixSort_0 15 rfl rfl)
theorem dX3_radixSort_16 : decode cX3_radixSort 16 = .ok (.iconst 0, 1) := dk_3 (dk_at dksX3_radixSort_0 16 rfl rfl)
theorem dX3_radixSort_17 : decode cX3_radixSort 17 = .ok (.istore_n 3, 1) := dk_62 (dk_at dksX3_radixSort_0 17 rfl rfl)
theorem dX3_radixSort_18 : decode cX3_radixSort 18 = .ok (.sipush 766, 3) := dk_17 2 254 (dk_at dksX3_radixSort_0 18 rfl rfl)
theorem dX3_radixSort_21 : decode cX3_radixSort 21 = .ok (.newarray .int, 2) := dk_188_10 (dk_at dksX3_radixSort_0 21 rfl rfl)
theorem dX3_radixSort_23 : decode cX3_radixSort 23 = .ok (.astore 4, 2) := dk_58 4 (dk_at dksX3_radixSort_1 0 rfl rfl)
theorem dX3_radixSort_25 : decode cX3_radixSort 25 = .ok (.sipush 766, 3) := dk_17 2 254 (dk_at dksX3_radixSort_1 2 rfl rfl)
theorem dX3_radixSort_28 : decode cX3_radixSort 28 = .ok (.newarray .int, 2) := dk_188_10 (dk_at dksX3_radixSort_1 5 rfl rfl)
theorem dX3_radixSort_30 : decode cX3_radixSort 30 = .ok (.astore 5, 2) := dk_58 5 (dk_at dksX3_radixSort_1 7 rfl rfl)
theorem dX3_radixSort_32 : decode cX3_radixSort 32 = .ok (.sipush 766, 3) := dk_17 2 254 (dk_at dksX3_radixSort_1 9 rfl rfl)
theorem dX3_radixSort_35 : decode cX3_radixSort 35 = .ok (.newarray .int, 2) := dk_188_10 (dk_at dksX3_radixSort_1 12 rfl rfl)
theorem dX3_radixSort_37 : decode cX3_radixSort 37 = .ok (.astore 6, 2) := dk_58 6 (dk_at dksX3_radixSort_1 14 rfl rfl)
theorem dX3_radixSort_39 : decode cX3_radixSort 39 = .ok (.aload 4, 2) := dk_25 4 (dk_at dksX3_radixSort_1 16 rfl rfl)
theorem dX3_radixSort_41 : decode cX3_radixSort 41 = .ok (.iload_n 3, 1) := dk_29 (dk_at dksX3_radixSort_1 18 rfl rfl)
theorem dX3_radixSort_42 : decode cX3_radixSort 42 = .ok (.iload_n 1, 1) := dk_27 (dk_at dksX3_radixSort_1 19 rfl rfl)
theorem dX3_radixSort_43 : decode cX3_radixSort 43 = .ok (.iastore, 1) := dk_79 (dk_at dksX3_radixSort_1 20 rfl rfl)
theorem dX3_radixSort_44 : decode cX3_radixSort 44 = .ok (.aload 5, 2) := dk_25 5 (dk_at dksX3_radixSort_1 21 rfl rfl)
theorem dX3_radixSort_46 : decode cX3_radixSort 46 = .ok (.iload_n 3, 1) := dk_29 (dk_at dksX3_radixSort_1 23 rfl rfl)
theorem dX3_radixSort_47 : decode cX3_radixSort 47 = .ok (.iload_n 2, 1) := dk_28 (dk_at dksX3_radixSort_2 0 rfl rfl)
theorem dX3_radixSort_48 : decode cX3_radixSort 48 = .ok (.iload_n 1, 1) := dk_27 (dk_at dksX3_radixSort_2 1 rfl rfl)
theorem dX3_radixSort_49 : decode cX3_radixSort 49 = .ok (.isub, 1) := dk_100 (dk_at dksX3_radixSort_2 2 rfl rfl)
theorem dX3_radixSort_50 : decode cX3_radixSort 50 = .ok (.iastore, 1) := dk_79 (dk_at dksX3_radixSort_2 3 rfl rfl)
theorem dX3_radixSort_51 : decode cX3_radixSort 51 = .ok (.aload 6, 2) := dk_25 6 (dk_at dksX3_radixSort_2 4 rfl rfl)
theorem dX3_radixSort_53 : decode cX3_radixSort 53 = .ok (.iload_n 3, 1) := dk_29 (dk_at dksX3_radixSort_2 6 rfl rfl)
theorem dX3_radixSort_54 : decode cX3_radixSort 54 = .ok (.iinc 3 1, 3) := dk_132 3 1 (dk_at dksX3_radixSort_2 7 rfl rfl)
theorem dX3_radixSort_57 : decode cX3_radixSort 57 = .ok (.iconst 0, 1) := dk_3 (dk_at dksX3_radixSort_2 10 rfl rfl)
theorem dX3_radixSort_58 : decode cX3_radixSort 58 = .ok (.iastore, 1) := dk_79 (dk_at dksX3_radixSort_2 11 rfl rfl)
theorem dX3_radixSort_59 : decode cX3_radixSort 59 = .ok (.sipush 256, 3) := dk_17 1 0 (dk_at dksX3_radixSort_2 12 rfl rfl)
theorem dX3_radixSort_62 : decode cX3_radixSort 62 = .ok (.newarray .int, 2) := dk_188_10 (dk_at dksX3_radixSort_2 15 rfl rfl)
theorem dX3_radixSort_64 : decode cX3_radixSort 64 = .ok (.astore 7, 2) := dk_58 7 (dk_at dksX3_radixSort_2 17 rfl rfl)
theorem dX3_radixSort_66 : decode cX3_radixSort 66 = .ok (.sipush 256, 3) := dk_17 1 0 (dk_at dksX3_radixSort_2 19 rfl rfl)
theorem dX3_radixSort_69 : decode cX3_radixSort 69 = .ok (.newarray .int, 2) := dk_188_10 (dk_at dksX3_radixSort_2 22 rfl rfl)
theorem dX3_radixSort_71 : decode cX3_radixSort 71 = .ok (.astore 8, 2) := dk_58 8 (dk_at dksX3_radixSort_3 0 rfl rfl)
theorem dX3_radixSort_73 : decode cX3_radixSort 73 = .ok (.iload_n 3, 1) := dk_29 (dk_at dksX3_radixSort_3 2 rfl rfl)
theorem dX3_radixSort_74 : decode cX3_radixSort 74 = .ok (.ifCond .le 346, 3) := dk_158 1 90 (dk_at dksX3_radixSort_3 3 rfl rfl)
theorem dX3_radixSort_77 : decode cX3_radixSort 77 = .ok (.aload 4, 2) := dk_25 4 (dk_at dksX3_radixSort_3 6 rfl rfl)
theorem dX3_radixSort_79 : decode cX3_radixSort 79 = .ok (.iinc 3 (-1), 3) := dk_132 3 255 (dk_at dksX3_radixSort_3 8 rfl rfl)
theorem dX3_radixSort_82 : decode cX3_radixSort 82 = .ok (.iload_n 3, 1) := dk_29 (dk_at dksX3_radixSort_3 11 rfl rfl)
theorem dX3_radixSort_83 : decode cX3_radixSort 83 = .ok (.iaload, 1) := dk_46 (dk_at dksX3_radixSort_3 12 rfl rfl)
theorem dX3_radixSort_84 : decode cX3_radixSort 84 = .ok (.istore 9, 2) := dk_54 9 (dk_at dksX3_radixSort_3 13 rfl rfl)
theorem dX3_radixSort_86 : decode cX3_radixSort 86 = .ok (.aload 5, 2) := dk_25 5 (dk_at dksX3_radixSort_3 15 rfl rfl)
theorem dX3_radixSort_88 : decode cX3_radixSort 88 = .ok (.iload_n 3, 1) := dk_29 (dk_at dksX3_radixSort_3 17 rfl rfl)
theorem dX3_radixSort_89 : decode cX3_radixSort 89 = .ok (.iaload, 1) := dk_46 (dk_at dksX3_radixSort_3 18 rfl rfl)
theorem dX3_radixSort_90 : decode cX3_radixSort 90 = .ok (.istore 10, 2) := dk_54 10 (dk_at dksX3_radixSort_3 19 rfl rfl)
theorem dX3_radixSort_92 : decode cX3_radixSort 92 = .ok (.aload 6, 2) := dk_25 6 (dk_at dksX3_radixSort_3 21 rfl rfl)
theorem dX3_radixSort_94 : decode cX3_radixSort 94 = .ok (.iload_n 3, 1) := dk_29 (dk_at dksX3_radixSort_3 23 rfl rfl)
theorem dX3_radixSort_95 : decode cX3_radixSort 95 = .ok (.iaload, 1) := dk_46 (dk_at dksX3_radixSort_4 0 rfl rfl)
theorem dX3_radixSort_96 : decode cX3_radixSort 96 = .ok (.istore 11, 2) := dk_54 11 (dk_at dksX3_radixSort_4 1 rfl rfl)
theorem dX3_radixSort_98 : decode cX3_radixSort 98 = .ok (.iload 11, 2) := dk_21 11 (dk_at dksX3_radixSort_4 3 rfl rfl)
theorem dX3_radixSort_100 : decode cX3_radixSort 100 = .ok (.iconst 4, 1) := dk_7 (dk_at dksX3_radixSort_4 5 rfl rfl)
theorem dX3_radixSort_101 : decode cX3_radixSort 101 = .ok (.irem, 1) := dk_112 (dk_at dksX3_radixSort_4 6 rfl rfl)
theorem dX3_radixSort_102 : decode cX3_radixSort 102 = .ok (.ifCond .ne 9, 3) := dk_154 0 9 (dk_at dksX3_radixSort_4 7 rfl rfl)
theorem dX3_radixSort_105 : decode cX3_radixSort 105 = .ok (.sipush 128, 3) := dk_17 0 128 (dk_at dksX3_radixSort_4 10 rfl rfl)
theorem dX3_radixSort_108 : decode cX3_radixSort 108 = .ok (.goto 4, 3) := dk_167 0 4 (dk_at dksX3_radixSort_4 13 rfl rfl)
theorem dX3_radixSort_111 : decode cX3_radixSort 111 = .ok (.iconst 0, 1) := dk_3 (dk_at dksX3_radixSort_4 16 rfl rfl)
theorem dX3_radixSort_112 : decode cX3_radixSort 112 = .ok (.istore 12, 2) := dk_54 12 (dk_at dksX3_radixSort_4 17 rfl rfl)
theorem dX3_radixSort_114 : decode cX3_radixSort 114 = .ok (.iconst 3, 1) := dk_6 (dk_at dksX3_radixSort_4 19 rfl rfl)
theorem dX3_radixSort_115 : decode cX3_radixSort 115 = .ok (.iload 11, 2) := dk_21 11 (dk_at dksX3_radixSort_4 20 rfl rfl)
theorem dX3_radixSort_117 : decode cX3_radixSort 117 = .ok (.iconst 4, 1) := dk_7 (dk_at dksX3_radixSort_4 22 rfl rfl)
theorem dX3_radixSort_118 : decode cX3_radixSort 118 = .ok (.irem, 1) := dk_112 (dk_at dksX3_radixSort_4 23 rfl rfl)
theorem dX3_radixSort_119 : decode cX3_radixSort 119 = .ok (.isub, 1) := dk_100 (dk_at dksX3_radixSort_5 0 rfl rfl)
theorem dX3_radixSort_120 : decode cX3_radixSort 120 = .ok (.bipush 8, 2) := dk_16 8 (dk_at dksX3_radixSort_5 1 rfl rfl)
theorem dX3_radixSort_122 : decode cX3_radixSort 122 = .ok (.imul, 1) := dk_104 (dk_at dksX3_radixSort_5 3 rfl rfl)
theorem dX3_radixSort_123 : decode cX3_radixSort 123 = .ok (.istore 13, 2) := dk_54 13 (dk_at dksX3_radixSort_5 4 rfl rfl)
theorem dX3_radixSort_125 : decode cX3_radixSort 125 = .ok (.iload 9, 2) := dk_21 9 (dk_at dksX3_radixSort_5 6 rfl rfl)
theorem dX3_radixSort_127 : decode cX3_radixSort 127 = .ok (.iload 10, 2) := dk_21 10 (dk_at dksX3_radixSort_5 8 rfl rfl)
theorem dX3_radixSort_129 : decode cX3_radixSort 129 = .ok (.iadd, 1) := dk_96 (dk_at dksX3_radixSort_5 10 rfl rfl)
theorem dX3_radixSort_130 : decode cX3_radixSort 130 = .ok (.istore 14, 2) := dk_54 14 (dk_at dksX3_radixSort_5 11 rfl rfl)
theorem dX3_radixSort_132 : decode cX3_radixSort 132 = .ok (.iload 14, 2) := dk_21 14 (dk_at dksX3_radixSort_5 13 rfl rfl)
theorem dX3_radixSort_134 : decode cX3_radixSort 134 = .ok (.iinc 14 (-1), 3) := dk_132 14 255 (dk_at dksX3_radixSort_5 15 rfl rfl)
theorem dX3_radixSort_137 : decode cX3_radixSort 137 = .ok (.iload 9, 2) := dk_21 9 (dk_at dksX3_radixSort_5 18 rfl rfl)
theorem dX3_radixSort_139 : decode cX3_radixSort 139 = .ok (.if_icmp .eq 27, 3) := dk_159 0 27 (dk_at dksX3_radixSort_5 20 rfl rfl)
theorem dX3_radixSort_142 : decode cX3_radixSort 142 = .ok (.aload 7, 2) := dk_25 7 (dk_at dksX3_radixSort_6 0 rfl rfl)
theorem dX3_radixSort_144 : decode cX3_radixSort 144 = .ok (.aload_n 0, 1) := dk_42 (dk_at dksX3_radixSort_6 2 rfl rfl)
theorem dX3_radixSort_145 : decode cX3_radixSort 145 = .ok (.iload 14, 2) := dk_21 14 (dk_at dksX3_radixSort_6 3 rfl rfl)
theorem dX3_radixSort_147 : decode cX3_radixSort 147 = .ok (.iaload, 1) := dk_46 (dk_at dksX3_radixSort_6 5 rfl rfl)
theorem dX3_radixSort_148 : decode cX3_radixSort 148 = .ok (.iload 13, 2) := dk_21 13 (dk_at dksX3_radixSort_6 6 rfl rfl)
theorem dX3_radixSort_150 : decode cX3_radixSort 150 = .ok (.iushr, 1) := dk_124 (dk_at dksX3_radixSort_6 8 rfl rfl)
theorem dX3_radixSort_151 : decode cX3_radixSort 151 = .ok (.sipush 255, 3) := dk_17 0 255 (dk_at dksX3_radixSort_6 9 rfl rfl)
theorem dX3_radixSort_154 : decode cX3_radixSort 154 = .ok (.iand, 1) := dk_126 (dk_at dksX3_radixSort_6 12 rfl rfl)
theorem dX3_radixSort_155 : decode cX3_radixSort 155 = .ok (.iload 12, 2) := dk_21 12 (dk_at dksX3_radixSort_6 13 rfl rfl)
theorem dX3_radixSort_157 : decode cX3_radixSort 157 = .ok (.ixor, 1) := dk_130 (dk_at dksX3_radixSort_6 15 rfl rfl)
theorem dX3_radixSort_158 : decode cX3_radixSort 158 = .ok (.dup2, 1) := dk_92 (dk_at dksX3_radixSort_6 16 rfl rfl)
theorem dX3_radixSort_159 : decode cX3_radixSort 159 = .ok (.iaload, 1) := dk_46 (dk_at dksX3_radixSort_6 17 rfl rfl)
theorem dX3_radixSort_160 : decode cX3_radixSort 160 = .ok (.iconst 1, 1) := dk_4 (dk_at dksX3_radixSort_6 18 rfl rfl)
theorem dX3_radixSort_161 : decode cX3_radixSort 161 = .ok (.iadd, 1) := dk_96 (dk_at dksX3_radixSort_6 19 rfl rfl)
theorem dX3_radixSort_162 : decode cX3_radixSort 162 = .ok (.iastore, 1) := dk_79 (dk_at dksX3_radixSort_6 20 rfl rfl)
theorem dX3_radixSort_163 : decode cX3_radixSort 163 = .ok (.goto (-31), 3) := dk_167 255 225 (dk_at dksX3_radixSort_6 21 rfl rfl)
theorem dX3_radixSort_166 : decode cX3_radixSort 166 = .ok (.iconst (-1), 1) := dk_2 (dk_at dksX3_radixSort_7 0 rfl rfl)
theorem dX3_radixSort_167 : decode cX3_radixSort 167 = .ok (.istore 14, 2) := dk_54 14 (dk_at dksX3_radixSort_7 1 rfl rfl)
theorem dX3_radixSort_169 : decode cX3_radixSort 169 = .ok (.iconst 0, 1) := dk_3 (dk_at dksX3_radixSort_7 3 rfl rfl)
theorem dX3_radixSort_170 : decode cX3_radixSort 170 = .ok (.istore 15, 2) := dk_54 15 (dk_at dksX3_radixSort_7 4 rfl rfl)
theorem dX3_radixSort_172 : decode cX3_radixSort 172 = .ok (.iload 9, 2) := dk_21 9 (dk_at dksX3_radixSort_7 6 rfl rfl)
theorem dX3_radixSort_174 : decode cX3_radixSort 174 = .ok (.istore 16, 2) := dk_54 16 (dk_at dksX3_radixSort_7 8 rfl rfl)
theorem dX3_radixSort_176 : decode cX3_radixSort 176 = .ok (.iload 15, 2) := dk_21 15 (dk_at dksX3_radixSort_7 10 rfl rfl)
theorem dX3_radixSort_178 : decode cX3_radixSort 178 = .ok (.sipush 256, 3) := dk_17 1 0 (dk_at dksX3_radixSort_7 12 rfl rfl)
theorem dX3_radixSort_181 : decode cX3_radixSort 181 = .ok (.if_icmp .ge 37, 3) := dk_162 0 37 (dk_at dksX3_radixSort_7 15 rfl rfl)
theorem dX3_radixSort_184 : decode cX3_radixSort 184 = .ok (.aload 7, 2) := dk_25 7 (dk_at dksX3_radixSort_7 18 rfl rfl)
theorem dX3_radixSort_186 : decode cX3_radixSort 186 = .ok (.iload 15, 2) := dk_21 15 (dk_at dksX3_radixSort_7 20 rfl rfl)
theorem dX3_radixSort_188 : decode cX3_radixSort 188 = .ok (.iaload, 1) := dk_46 (dk_at dksX3_radixSort_7 22 rfl rfl)
theorem dX3_radixSort_189 : decode cX3_radixSort 189 = .ok (.ifCond .eq 7, 3) := dk_153 0 7 (dk_at dksX3_radixSort_8 0 rfl rfl)
theorem dX3_radixSort_192 : decode cX3_radixSort 192 = .ok (.iload 15, 2) := dk_21 15 (dk_at dksX3_radixSort_8 3 rfl rfl)
theorem dX3_radixSort_194 : decode cX3_radixSort 194 = .ok (.istore 14, 2) := dk_54 14 (dk_at dksX3_radixSort_8 5 rfl rfl)
theorem dX3_radixSort_196 : decode cX3_radixSort 196 = .ok (.aload 8, 2) := dk_25 8 (dk_at dksX3_radixSort_8 7 rfl rfl)
theorem dX3_radixSort_198 : decode cX3_radixSort 198 = .ok (.iload 15, 2) := dk_21 15 (dk_at dksX3_radixSort_8 9 rfl rfl)
theorem dX3_radixSort_200 : decode cX3_radixSort 200 = .ok (.iload 16, 2) := dk_21 16 (dk_at dksX3_radixSort_8 11 rfl rfl)
theorem dX3_radixSort_202 : decode cX3_radixSort 202 = .ok (.aload 7, 2) := dk_25 7 (dk_at dksX3_radixSort_8 13 rfl rfl)
theorem dX3_radixSort_204 : decode cX3_radixSort 204 = .ok (.iload 15, 2) := dk_21 15 (dk_at dksX3_radixSort_8 15 rfl rfl)
theorem dX3_radixSort_206 : decode cX3_radixSort 206 = .ok (.iaload, 1) := dk_46 (dk_at dksX3_radixSort_8 17 rfl rfl)
theorem dX3_radixSort_207 : decode cX3_radixSort 207 = .ok (.iadd, 1) := dk_96 (dk_at dksX3_radixSort_8 18 rfl rfl)
theorem dX3_radixSort_208 : decode cX3_radixSort 208 = .ok (.dup, 1) := dk_89 (dk_at dksX3_radixSort_8 19 rfl rfl)
theorem dX3_radixSort_209 : decode cX3_radixSort 209 = .ok (.istore 16, 2) := dk_54 16 (dk_at dksX3_radixSort_8 20 rfl rfl)
theorem dX3_radixSort_211 : decode cX3_radixSort 211 = .ok (.iastore, 1) := dk_79 (dk_at dksX3_radixSort_8 22 rfl rfl)
theorem dX3_radixSort_212 : decode cX3_radixSort 212 = .ok (.iinc 15 1, 3) := dk_132 15 1 (dk_at dksX3_radixSort_9 0 rfl rfl)
theorem dX3_radixSort_215 : decode cX3_radixSort 215 = .ok (.goto (-39), 3) := dk_167 255 217 (dk_at dksX3_radixSort_9 3 rfl rfl)
theorem dX3_radixSort_218 : decode cX3_radixSort 218 = .ok (.iload 9, 2) := dk_21 9 (dk_at dksX3_radixSort_9 6 rfl rfl)
theorem dX3_radixSort_220 : decode cX3_radixSort 220 = .ok (.iload 10, 2) := dk_21 10 (dk_at dksX3_radixSort_9 8 rfl rfl)
theorem dX3_radixSort_222 : decode cX3_radixSort 222 = .ok (.iadd, 1) := dk_96 (dk_at dksX3_radixSort_9 10 rfl rfl)
theorem dX3_radixSort_223 : decode cX3_radixSort 223 = .ok (.aload 7, 2) := dk_25 7 (dk_at dksX3_radixSort_9 11 rfl rfl)
theorem dX3_radixSort_225 : decode cX3_radixSort 225 = .ok (.iload 14, 2) := dk_21 14 (dk_at dksX3_radixSort_9 13 rfl rfl)
theorem dX3_radixSort_227 : decode cX3_radixSort 227 = .ok (.iaload, 1) := dk_46 (dk_at dksX3_radixSort_9 15 rfl rfl)
theorem dX3_radixSort_228 : decode cX3_radixSort 228 = .ok (.isub, 1) := dk_100 (dk_at dksX3_radixSort_9 16 rfl rfl)
theorem dX3_radixSort_229 : decode cX3_radixSort 229 = .ok (.istore 15, 2) := dk_54 15 (dk_at dksX3_radixSort_9 17 rfl rfl)
theorem dX3_radixSort_231 : decode cX3_radixSort 231 = .ok (.iload 9, 2) := dk_21 9 (dk_at dksX3_radixSort_9 19 rfl rfl)
theorem dX3_radixSort_233 : decode cX3_radixSort 233 = .ok (.istore 16, 2) := dk_54 16 (dk_at dksX3_radixSort_9 21 rfl rfl)
theorem dX3_radixSort_235 : decode cX3_radixSort 235 = .ok (.iconst (-1), 1) := dk_2 (dk_at dksX3_radixSort_9 23 rfl rfl)
theorem dX3_radixSort_236 : decode cX3_radixSort 236 = .ok (.istore 17, 2) := dk_54 17 (dk_at dksX3_radixSort_10 0 rfl rfl)
theorem dX3_radixSort_238 : decode cX3_radixSort 238 = .ok (.iload 16, 2) := dk_21 16 (dk_at dksX3_radixSort_10 2 rfl rfl)
theorem dX3_radixSort_240 : decode cX3_radixSort 240 = .ok (.iload 15, 2) := dk_21 15 (dk_at dksX3_radixSort_10 4 rfl rfl)
theorem dX3_radixSort_242 : decode cX3_radixSort 242 = .ok (.if_icmp .gt 175, 3) := dk_163 0 175 (dk_at dksX3_radixSort_10 6 rfl rfl)
theorem dX3_radixSort_245 : decode cX3_radixSort 245 = .ok (.aload_n 0, 1) := dk_42 (dk_at dksX3_radixSort_10 9 rfl rfl)
theorem dX3_radixSort_246 : decode cX3_radixSort 246 = .ok (.iload 16, 2) := dk_21 16 (dk_at dksX3_radixSort_10 10 rfl rfl)
theorem dX3_radixSort_248 : decode cX3_radixSort 248 = .ok (.iaload, 1) := dk_46 (dk_at dksX3_radixSort_10 12 rfl rfl)
theorem dX3_radixSort_249 : decode cX3_radixSort 249 = .ok (.istore 19, 2) := dk_54 19 (dk_at dksX3_radixSort_10 13 rfl rfl)
theorem dX3_radixSort_251 : decode cX3_radixSort 251 = .ok (.iload 19, 2) := dk_21 19 (dk_at dksX3_radixSort_10 15 rfl rfl)
theorem dX3_radixSort_253 : decode cX3_radixSort 253 = .ok (.iload 13, 2) := dk_21 13 (dk_at dksX3_radixSort_10 17 rfl rfl)
theorem dX3_radixSort_255 : decode cX3_radixSort 255 = .ok (.iushr, 1) := dk_124 (dk_at dksX3_radixSort_10 19 rfl rfl)
theorem dX3_radixSort_256 : decode cX3_radixSort 256 = .ok (.sipush 255, 3) := dk_17 0 255 (dk_at dksX3_radixSort_10 20 rfl rfl)
theorem dX3_radixSort_259 : decode cX3_radixSort 259 = .ok (.iand, 1) := dk_126 (dk_at dksX3_radixSort_10 23 rfl rfl)
theorem dX3_radixSort_260 : decode cX3_radixSort 260 = .ok (.iload 12, 2) := dk_21 12 (dk_at dksX3_radixSort_11 0 rfl rfl)
theorem dX3_radixSort_262 : decode cX3_radixSort 262 = .ok (.ixor, 1) := dk_130 (dk_at dksX3_radixSort_11 2 rfl rfl)
theorem dX3_radixSort_263 : decode cX3_radixSort 263 = .ok (.istore 17, 2) := dk_54 17 (dk_at dksX3_radixSort_11 3 rfl rfl)
theorem dX3_radixSort_265 : decode cX3_radixSort 265 = .ok (.iload 16, 2) := dk_21 16 (dk_at dksX3_radixSort_11 5 rfl rfl)
theorem dX3_radixSort_267 : decode cX3_radixSort 267 = .ok (.iload 15, 2) := dk_21 15 (dk_at dksX3_radixSort_11 7 rfl rfl)
theorem dX3_radixSort_269 : decode cX3_radixSort 269 = .ok (.if_icmp .ge 60, 3) := dk_162 0 60 (dk_at dksX3_radixSort_11 9 rfl rfl)
theorem dX3_radixSort_272 : decode cX3_radixSort 272 = .ok (.aload 8, 2) := dk_25 8 (dk_at dksX3_radixSort_11 12 rfl rfl)
theorem dX3_radixSort_274 : decode cX3_radixSort 274 = .ok (.iload 17, 2) := dk_21 17 (dk_at dksX3_radixSort_11 14 rfl rfl)
theorem dX3_radixSort_276 : decode cX3_radixSort 276 = .ok (.dup2, 1) := dk_92 (dk_at dksX3_radixSort_11 16 rfl rfl)
theorem dX3_radixSort_277 : decode cX3_radixSort 277 = .ok (.iaload, 1) := dk_46 (dk_at dksX3_radixSort_11 17 rfl rfl)
theorem dX3_radixSort_278 : decode cX3_radixSort 278 = .ok (.iconst 1, 1) := dk_4 (dk_at dksX3_radixSort_11 18 rfl rfl)
theorem dX3_radixSort_279 : decode cX3_radixSort 279 = .ok (.isub, 1) := dk_100 (dk_at dksX3_radixSort_11 19 rfl rfl)
theorem dX3_radixSort_280 : decode cX3_radixSort 280 = .ok (.dup_x2, 1) := dk_91 (dk_at dksX3_radixSort_11 20 rfl rfl)
theorem dX3_radixSort_281 : decode cX3_radixSort 281 = .ok (.iastore, 1) := dk_79 (dk_at dksX3_radixSort_11 21 rfl rfl)
theorem dX3_radixSort_282 : decode cX3_radixSort 282 = .ok (.dup, 1) := dk_89 (dk_at dksX3_radixSort_11 22 rfl rfl)
theorem dX3_radixSort_283 : decode cX3_radixSort 283 = .ok (.istore 18, 2) := dk_54 18 (dk_at dksX3_radixSort_12 0 rfl rfl)
theorem dX3_radixSort_285 : decode cX3_radixSort 285 = .ok (.iload 16, 2) := dk_21 16 (dk_at dksX3_radixSort_12 2 rfl rfl)
theorem dX3_radixSort_287 : decode cX3_radixSort 287 = .ok (.if_icmp .le 36, 3) := dk_164 0 36 (dk_at dksX3_radixSort_12 4 rfl rfl)
theorem dX3_radixSort_290 : decode cX3_radixSort 290 = .ok (.iload 19, 2) := dk_21 19 (dk_at dksX3_radixSort_12 7 rfl rfl)
theorem dX3_radixSort_292 : decode cX3_radixSort 292 = .ok (.istore 20, 2) := dk_54 20 (dk_at dksX3_radixSort_12 9 rfl rfl)
theorem dX3_radixSort_294 : decode cX3_radixSort 294 = .ok (.aload_n 0, 1) := dk_42 (dk_at dksX3_radixSort_12 11 rfl rfl)
theorem dX3_radixSort_295 : decode cX3_radixSort 295 = .ok (.iload 18, 2) := dk_21 18 (dk_at dksX3_radixSort_12 12 rfl rfl)
theorem dX3_radixSort_297 : decode cX3_radixSort 297 = .ok (.iaload, 1) := dk_46 (dk_at dksX3_radixSort_12 14 rfl rfl)
theorem dX3_radixSort_298 : decode cX3_radixSort 298 = .ok (.istore 19, 2) := dk_54 19 (dk_at dksX3_radixSort_12 15 rfl rfl)
theorem dX3_radixSort_300 : decode cX3_radixSort 300 = .ok (.aload_n 0, 1) := dk_42 (dk_at dksX3_radixSort_12 17 rfl rfl)
theorem dX3_radixSort_301 : decode cX3_radixSort 301 = .ok (.iload 18, 2) := dk_21 18 (dk_at dksX3_radixSort_12 18 rfl rfl)
theorem dX3_radixSort_303 : decode cX3_radixSort 303 = .ok (.iload 20, 2) := dk_21 20 (dk_at dksX3_radixSort_12 20 rfl rfl)
theorem dX3_radixSort_305 : decode cX3_radixSort 305 = .ok (.iastore, 1) := dk_79 (dk_at dksX3_radixSort_12 22 rfl rfl)
theorem dX3_radixSort_306 : decode cX3_radixSort 306 = .ok (.iload 19, 2) := dk_21 19 (dk_at dksX3_radixSort_13 0 rfl rfl)
theorem dX3_radixSort_308 : decode cX3_radixSort 308 = .ok (.iload 13, 2) := dk_21 13 (dk_at dksX3_radixSort_13 2 rfl rfl)
theorem dX3_radixSort_310 : decode cX3_radixSort 310 = .ok (.iushr, 1) := dk_124 (dk_at dksX3_radixSort_13 4 rfl rfl)
theorem dX3_radixSort_311 : decode cX3_radixSort 311 = .ok (.sipush 255, 3) := dk_17 0 255 (dk_at dksX3_radixSort_13 5 rfl rfl)
theorem dX3_radixSort_314 : decode cX3_radixSort 314 = .ok (.iand, 1) := dk_126 (dk_at dksX3_radixSort_13 8 rfl rfl)
theorem dX3_radixSort_315 : decode cX3_radixSort 315 = .ok (.iload 12, 2) := dk_21 12 (dk_at dksX3_radixSort_13 9 rfl rfl)
theorem dX3_radixSort_317 : decode cX3_radixSort 317 = .ok (.ixor, 1) := dk_130 (dk_at dksX3_radixSort_13 11 rfl rfl)
theorem dX3_radixSort_318 : decode cX3_radixSort 318 = .ok (.istore 17, 2) := dk_54 17 (dk_at dksX3_radixSort_13 12 rfl rfl)
theorem dX3_radixSort_320 : decode cX3_radixSort 320 = .ok (.goto (-48), 3) := dk_167 255 208 (dk_at dksX3_radixSort_13 14 rfl rfl)
theorem dX3_radixSort_323 : decode cX3_radixSort 323 = .ok (.aload_n 0, 1) := dk_42 (dk_at dksX3_radixSort_13 17 rfl rfl)
theorem dX3_radixSort_324 : decode cX3_radixSort 324 = .ok (.iload 16, 2) := dk_21 16 (dk_at dksX3_radixSort_13 18 rfl rfl)
theorem dX3_radixSort_326 : decode cX3_radixSort 326 = .ok (.iload 19, 2) := dk_21 19 (dk_at dksX3_radixSort_13 20 rfl rfl)
theorem dX3_radixSort_328 : decode cX3_radixSort 328 = .ok (.iastore, 1) := dk_79 (dk_at dksX3_radixSort_13 22 rfl rfl)
theorem dX3_radixSort_329 : decode cX3_radixSort 329 = .ok (.iload 11, 2) := dk_21 11 (dk_at dksX3_radixSort_14 0 rfl rfl)
theorem dX3_radixSort_331 : decode cX3_radixSort 331 = .ok (.iconst 3, 1) := dk_6 (dk_at dksX3_radixSort_14 2 rfl rfl)
theorem dX3_radixSort_332 : decode cX3_radixSort 332 = .ok (.if_icmp .ge 66, 3) := dk_162 0 66 (dk_at dksX3_radixSort_14 3 rfl rfl)
theorem dX3_radixSort_335 : decode cX3_radixSort 335 = .ok (.aload 7, 2) := dk_25 7 (dk_at dksX3_radixSort_14 6 rfl rfl)
theorem dX3_radixSort_337 : decode cX3_radixSort 337 = .ok (.iload 17, 2) := dk_21 17 (dk_at dksX3_radixSort_14 8 rfl rfl)
theorem dX3_radixSort_339 : decode cX3_radixSort 339 = .ok (.iaload, 1) := dk_46 (dk_at dksX3_radixSort_14 10 rfl rfl)
theorem dX3_radixSort_340 : decode cX3_radixSort 340 = .ok (.iconst 1, 1) := dk_4 (dk_at dksX3_radixSort_14 11 rfl rfl)
theorem dX3_radixSort_341 : decode cX3_radixSort 341 = .ok (.if_icmp .le 57, 3) := dk_164 0 57 (dk_at dksX3_radixSort_14 12 rfl rfl)
theorem dX3_radixSort_344 : decode cX3_radixSort 344 = .ok (.aload 7, 2) := dk_25 7 (dk_at dksX3_radixSort_14 15 rfl rfl)
theorem dX3_radixSort_346 : decode cX3_radixSort 346 = .ok (.iload 17, 2) := dk_21 17 (dk_at dksX3_radixSort_14 17 rfl rfl)
theorem dX3_radixSort_348 : decode cX3_radixSort 348 = .ok (.iaload, 1) := dk_46 (dk_at dksX3_radixSort_14 19 rfl rfl)
theorem dX3_radixSort_349 : decode cX3_radixSort 349 = .ok (.sipush 1024, 3) := dk_17 4 0 (dk_at dksX3_radixSort_14 20 rfl rfl)
theorem dX3_radixSort_352 : decode cX3_radixSort 352 = .ok (.if_icmp .ge 20, 3) := dk_162 0 20 (dk_at dksX3_radixSort_15 0 rfl rfl)
theorem dX3_radixSort_355 : decode cX3_radixSort 355 = .ok (.aload_n 0, 1) := dk_42 (dk_at dksX3_radixSort_15 3 rfl rfl)
theorem dX3_radixSort_356 : decode cX3_radixSort 356 = .ok (.iload 16, 2) := dk_21 16 (dk_at dksX3_radixSort_15 4 rfl rfl)
theorem dX3_radixSort_358 : decode cX3_radixSort 358 = .ok (.iload 16, 2) := dk_21 16 (dk_at dksX3_radixSort_15 6 rfl rfl)
theorem dX3_radixSort_360 : decode cX3_radixSort 360 = .ok (.aload 7, 2) := dk_25 7 (dk_at dksX3_radixSort_15 8 rfl rfl)
theorem dX3_radixSort_362 : decode cX3_radixSort 362 = .ok (.iload 17, 2) := dk_21 17 (dk_at dksX3_radixSort_15 10 rfl rfl)
theorem dX3_radixSort_364 : decode cX3_radixSort 364 = .ok (.iaload, 1) := dk_46 (dk_at dksX3_radixSort_15 12 rfl rfl)
theorem dX3_radixSort_365 : decode cX3_radixSort 365 = .ok (.iadd, 1) := dk_96 (dk_at dksX3_radixSort_15 13 rfl rfl)
theorem dX3_radixSort_366 : decode cX3_radixSort 366 = .ok (.invokestatic 48, 3) := dk_184 0 48 (dk_at dksX3_radixSort_15 14 rfl rfl)
theorem dX3_radixSort_369 : decode cX3_radixSort 369 = .ok (.goto 29, 3) := dk_167 0 29 (dk_at dksX3_radixSort_15 17 rfl rfl)
theorem dX3_radixSort_372 : decode cX3_radixSort 372 = .ok (.aload 4, 2) := dk_25 4 (dk_at dksX3_radixSort_15 20 rfl rfl)
theorem dX3_radixSort_374 : decode cX3_radixSort 374 = .ok (.iload_n 3, 1) := dk_29 (dk_at dksX3_radixSort_15 22 rfl rfl)
theorem dX3_radixSort_375 : decode cX3_radixSort 375 = .ok (.iload 16, 2) := dk_21 16 (dk_at dksX3_radixSort_16 0 rfl rfl)
theorem dX3_radixSort_377 : decode cX3_radixSort 377 = .ok (.iastore, 1) := dk_79 (dk_at dksX3_radixSort_16 2 rfl rfl)
theorem dX3_radixSort_378 : decode cX3_radixSort 378 = .ok (.aload 5, 2) := dk_25 5 (dk_at dksX3_radixSort_16 3 rfl rfl)
theorem dX3_radixSort_380 : decode cX3_radixSort 380 = .ok (.iload_n 3, 1) := dk_29 (dk_at dksX3_radixSort_16 5 rfl rfl)
theorem dX3_radixSort_381 : decode cX3_radixSort 381 = .ok (.aload 7, 2) := dk_25 7 (dk_at dksX3_radixSort_16 6 rfl rfl)
theorem dX3_radixSort_383 : decode cX3_radixSort 383 = .ok (.iload 17, 2) := dk_21 17 (dk_at dksX3_radixSort_16 8 rfl rfl)
theorem dX3_radixSort_385 : decode cX3_radixSort 385 = .ok (.iaload, 1) := dk_46 (dk_at dksX3_radixSort_16 10 rfl rfl)
theorem dX3_radixSort_386 : decode cX3_radixSort 386 = .ok (.iastore, 1) := dk_79 (dk_at dksX3_radixSort_16 11 rfl rfl)
theorem dX3_radixSort_387 : decode cX3_radixSort 387 = .ok (.aload 6, 2) := dk_25 6 (dk_at dksX3_radixSort_16 12 rfl rfl)
theorem dX3_radixSort_389 : decode cX3_radixSort 389 = .ok (.iload_n 3, 1) := dk_29 (dk_at dksX3_radixSort_16 14 rfl rfl)
theorem dX3_radixSort_390 : decode cX3_radixSort 390 = .ok (.iinc 3 1, 3) := dk_132 3 1 (dk_at dksX3_radixSort_16 15 rfl rfl)
theorem dX3_radixSort_393 : decode cX3_radixSort 393 = .ok (.iload 11, 2) := dk_21 11 (dk_at dksX3_radixSort_16 18 rfl rfl)
theorem dX3_radixSort_395 : decode cX3_radixSort 395 = .ok (.iconst 1, 1) := dk_4 (dk_at dksX3_radixSort_16 20 rfl rfl)
theorem dX3_radixSort_396 : decode cX3_radixSort 396 = .ok (.iadd, 1) := dk_96 (dk_at dksX3_radixSort_16 21 rfl rfl)
theorem dX3_radixSort_397 : decode cX3_radixSort 397 = .ok (.iastore, 1) := dk_79 (dk_at dksX3_radixSort_16 22 rfl rfl)
theorem dX3_radixSort_398 : decode cX3_radixSort 398 = .ok (.iload 16, 2) := dk_21 16 (dk_at dksX3_radixSort_17 0 rfl rfl)
theorem dX3_radixSort_400 : decode cX3_radixSort 400 = .ok (.aload 7, 2) := dk_25 7 (dk_at dksX3_radixSort_17 2 rfl rfl)
theorem dX3_radixSort_402 : decode cX3_radixSort 402 = .ok (.iload 17, 2) := dk_21 17 (dk_at dksX3_radixSort_17 4 rfl rfl)
theorem dX3_radixSort_404 : decode cX3_radixSort 404 = .ok (.iaload, 1) := dk_46 (dk_at dksX3_radixSort_17 6 rfl rfl)
theorem dX3_radixSort_405 : decode cX3_radixSort 405 = .ok (.iadd, 1) := dk_96 (dk_at dksX3_radixSort_17 7 rfl rfl)
theorem dX3_radixSort_406 : decode cX3_radixSort 406 = .ok (.istore 16, 2) := dk_54 16 (dk_at dksX3_radixSort_17 8 rfl rfl)
theorem dX3_radixSort_408 : decode cX3_radixSort 408 = .ok (.aload 7, 2) := dk_25 7 (dk_at dksX3_radixSort_17 10 rfl rfl)
theorem dX3_radixSort_410 : decode cX3_radixSort 410 = .ok (.iload 17, 2) := dk_21 17 (dk_at dksX3_radixSort_17 12 rfl rfl)
theorem dX3_radixSort_412 : decode cX3_radixSort 412 = .ok (.iconst 0, 1) := dk_3 (dk_at dksX3_radixSort_17 14 rfl rfl)
theorem dX3_radixSort_413 : decode cX3_radixSort 413 = .ok (.iastore, 1) := dk_79 (dk_at dksX3_radixSort_17 15 rfl rfl)
theorem dX3_radixSort_414 : decode cX3_radixSort 414 = .ok (.goto (-176), 3) := dk_167 255 80 (dk_at dksX3_radixSort_17 16 rfl rfl)
theorem dX3_radixSort_417 : decode cX3_radixSort 417 = .ok (.goto (-344), 3) := dk_167 254 168 (dk_at dksX3_radixSort_17 19 rfl rfl)
theorem dX3_radixSort_420 : decode cX3_radixSort 420 = .ok (.return_, 1) := dk_177 (dk_at dksX3_radixSort_17 22 rfl rfl)
theorem q7 : (Jvm.Cond.initialized "IntArrays") ∈ lw_all := lw_g (lw_at lw_m1 4 rfl) rfl
theorem q40 : (Jvm.Cond.laysStatic "IntArrays" "EMPTY_ARRAY" "[I") ∈ lw_tbl := lw_at lw_m1 37 rfl
theorem q75 : (Jvm.Cond.static ({ cls := "IntArrays", name := "grow", desc := "([II)[I" } : Jvm.MethodName)) ∈ lw_all := lw_g (lw_at lw_m1 72 rfl) rfl
theorem q76 : (Jvm.Cond.code ({ cls := "IntArrays", name := "grow", desc := "([II)[I" } : Jvm.MethodName) prog_5_method_1_code (2 : Nat) (Option.some (Jvm.ClassFile.FieldType.array Jvm.ClassFile.FieldType.int))) ∈ lw_all := lw_g (lw_at lw_m1 73 rfl) rfl
theorem q77 : (Jvm.Cond.methodLink "IntArrays" (5 : Nat) ({ cls := "IntArrays", name := "grow", desc := "([III)[I" } : Jvm.MethodName)) ∈ lw_all := lw_g (lw_at lw_m1 74 rfl) rfl
theorem q78 : (Jvm.Cond.static ({ cls := "IntArrays", name := "grow", desc := "([III)[I" } : Jvm.MethodName)) ∈ lw_all := lw_g (lw_at lw_m1 75 rfl) rfl
theorem q79 : (Jvm.Cond.code ({ cls := "IntArrays", name := "grow", desc := "([III)[I" } : Jvm.MethodName) prog_5_method_2_code (5 : Nat) (Option.some (Jvm.ClassFile.FieldType.array Jvm.ClassFile.FieldType.int))) ∈ lw_all := lw_g (lw_at lw_m1 76 rfl) rfl
theorem q80 : (Jvm.Cond.constantLong "IntArrays" (11 : Nat) (2147483639 : Int64)) ∈ lw_all := lw_g (lw_at lw_m1 77 rfl) rfl
theorem q81 : (Jvm.Cond.methodLink "IntArrays" (13 : Nat) ({ cls := "java/lang/Math", name := "min", desc := "(JJ)J" } : Jvm.MethodName)) ∈ lw_all := lw_g (lw_at lw_m1 78 rfl) rfl
theorem q84 : (Jvm.Cond.methodLink "IntArrays" (19 : Nat) ({ cls := "java/lang/Math", name := "max", desc := "(JJ)J" } : Jvm.MethodName)) ∈ lw_all := lw_g (lw_at lw_m1 81 rfl) rfl
theorem q87 : (Jvm.Cond.methodLink "IntArrays" (22 : Nat) ({ cls := "java/lang/System", name := "arraycopy", desc := "(Ljava/lang/Object;ILjava/lang/Object;II)V" } : Jvm.MethodName)) ∈ lw_all := lw_g (lw_at lw_m1 84 rfl) rfl
theorem q222 : (Jvm.Cond.static ({ cls := "IntArrays", name := "quickSort", desc := "([III)V" } : Jvm.MethodName)) ∈ lw_all := lw_g (lw_at lw_m1 219 rfl) rfl
theorem q223 : (Jvm.Cond.code ({ cls := "IntArrays", name := "quickSort", desc := "([III)V" } : Jvm.MethodName) prog_5_method_8_code (13 : Nat) (Option.none : Option Jvm.ClassFile.FieldType)) ∈ lw_all := lw_g (lw_at lw_m1 220 rfl) rfl
theorem q224 : (Jvm.Cond.methodLink "IntArrays" (36 : Nat) ({ cls := "IntArrays", name := "selectionSort", desc := "([III)V" } : Jvm.MethodName)) ∈ lw_all := lw_g (lw_at lw_m1 221 rfl) rfl
theorem q225 : (Jvm.Cond.static ({ cls := "IntArrays", name := "selectionSort", desc := "([III)V" } : Jvm.MethodName)) ∈ lw_all := lw_g (lw_at lw_m1 222 rfl) rfl
theorem q226 : (Jvm.Cond.code ({ cls := "IntArrays", name := "selectionSort", desc := "([III)V" } : Jvm.MethodName) prog_5_method_6_code (6 : Nat) (Option.none : Option Jvm.ClassFile.FieldType)) ∈ lw_all := lw_g (lw_at lw_m1 223 rfl) rfl
theorem q227 : (Jvm.Cond.methodLink "IntArrays" (39 : Nat) ({ cls := "IntArrays", name := "med3", desc := "([IIII)I" } : Jvm.MethodName)) ∈ lw_all := lw_g (lw_at lw_m1 224 rfl) rfl
theorem q228 : (Jvm.Cond.static ({ cls := "IntArrays", name := "med3", desc := "([IIII)I" } : Jvm.MethodName)) ∈ lw_all := lw_g (lw_at lw_m1 225 rfl) rfl
theorem q229 : (Jvm.Cond.code ({ cls := "IntArrays", name := "med3", desc := "([IIII)I" } : Jvm.MethodName) prog_5_method_5_code (7 : Nat) (Option.some Jvm.ClassFile.FieldType.int)) ∈ lw_all := lw_g (lw_at lw_m1 226 rfl) rfl
theorem q230 : (Jvm.Cond.methodLink "IntArrays" (32 : Nat) ({ cls := "java/lang/Integer", name := "compare", desc := "(II)I" } : Jvm.MethodName)) ∈ lw_all := lw_g (lw_at lw_m1 227 rfl) rfl
theorem q233 : (Jvm.Cond.methodLink "IntArrays" (28 : Nat) ({ cls := "IntArrays", name := "swap", desc := "([III)V" } : Jvm.MethodName)) ∈ lw_all := lw_g (lw_at lw_m1 230 rfl) rfl
theorem q234 : (Jvm.Cond.static ({ cls := "IntArrays", name := "swap", desc := "([III)V" } : Jvm.MethodName)) ∈ lw_all := lw_g (lw_at lw_m1 231 rfl) rfl
theorem q235 : (Jvm.Cond.code ({ cls := "IntArrays", name := "swap", desc := "([III)V" } : Jvm.MethodName) prog_5_method_3_code (4 : Nat) (Option.none : Option Jvm.ClassFile.FieldType)) ∈ lw_all := lw_g (lw_at lw_m1 232 rfl) rfl
theorem q236 : (Jvm.Cond.methodLink "IntArrays" (43 : Nat) ({ cls := "java/lang/Math", name := "min", desc := "(II)I" } : Jvm.MethodName)) ∈ lw_all := lw_g (lw_at lw_m1 233 rfl) rfl
theorem q239 : (Jvm.Cond.methodLink "IntArrays" (45 : Nat) ({ cls := "IntArrays", name := "swap", desc := "([IIII)V" } : Jvm.MethodName)) ∈ lw_all := lw_g (lw_at lw_m1 236 rfl) rfl
theorem q240 : (Jvm.Cond.static ({ cls := "IntArrays", name := "swap", desc := "([IIII)V" } : Jvm.MethodName)) ∈ lw_all := lw_g (lw_at lw_m1 237 rfl) rfl
theorem q241 : (Jvm.Cond.code ({ cls := "IntArrays", name := "swap", desc := "([IIII)V" } : Jvm.MethodName) prog_5_method_4_code (5 : Nat) (Option.none : Option Jvm.ClassFile.FieldType)) ∈ lw_all := lw_g (lw_at lw_m1 238 rfl) rfl
theorem q242 : (Jvm.Cond.methodLink "IntArrays" (48 : Nat) ({ cls := "IntArrays", name := "quickSort", desc := "([III)V" } : Jvm.MethodName)) ∈ lw_all := lw_g (lw_at lw_m1 239 rfl) rfl
theorem q248 : (Jvm.Cond.static ({ cls := "IntArrays", name := "mergeSort", desc := "([III)V" } : Jvm.MethodName)) ∈ lw_all := lw_g (lw_at lw_m2 5 rfl) rfl
theorem q249 : (Jvm.Cond.code ({ cls := "IntArrays", name := "mergeSort", desc := "([III)V" } : Jvm.MethodName) prog_5_method_10_code (3 : Nat) (Option.none : Option Jvm.ClassFile.FieldType)) ∈ lw_all := lw_g (lw_at lw_m2 6 rfl) rfl
theorem q250 : (Jvm.Cond.classLink "IntArrays" (64 : Nat) "[I") ∈ lw_all := lw_g (lw_at lw_m2 7 rfl) rfl
theorem q251 : (Jvm.Cond.methodLink "IntArrays" (60 : Nat) ({ cls := "IntArrays", name := "mergeSort", desc := "([III[I)V" } : Jvm.MethodName)) ∈ lw_all := lw_g (lw_at lw_m2 8 rfl) rfl
theorem q252 : (Jvm.Cond.static ({ cls := "IntArrays", name := "mergeSort", desc := "([III[I)V" } : Jvm.MethodName)) ∈ lw_all := lw_g (lw_at lw_m2 9 rfl) rfl
theorem q253 : (Jvm.Cond.code ({ cls := "IntArrays", name := "mergeSort", desc := "([III[I)V" } : Jvm.MethodName) prog_5_method_9_code (9 : Nat) (Option.none : Option Jvm.ClassFile.FieldType)) ∈ lw_all := lw_g (lw_at lw_m2 10 rfl) rfl
theorem q254 : (Jvm.Cond.methodLink "IntArrays" (51 : Nat) ({ cls := "IntArrays", name := "insertionSort", desc := "([III)V" } : Jvm.MethodName)) ∈ lw_all := lw_g (lw_at lw_m2 11 rfl) rfl
theorem q255 : (Jvm.Cond.static ({ cls := "IntArrays", name := "insertionSort", desc := "([III)V" } : Jvm.MethodName)) ∈ lw_all := lw_g (lw_at lw_m2 12 rfl) rfl
theorem q256 : (Jvm.Cond.code ({ cls := "IntArrays", name := "insertionSort", desc := "([III)V" } : Jvm.MethodName) prog_5_method_7_code (7 : Nat) (Option.none : Option Jvm.ClassFile.FieldType)) ∈ lw_all := lw_g (lw_at lw_m2 13 rfl) rfl
theorem q257 : (Jvm.Cond.methodLink "IntArrays" (54 : Nat) ({ cls := "java/util/Arrays", name := "copyOf", desc := "([II)[I" } : Jvm.MethodName)) ∈ lw_all := lw_g (lw_at lw_m2 14 rfl) rfl
theorem q274 : (Jvm.Cond.static ({ cls := "IntArrays", name := "radixSort", desc := "([III)V" } : Jvm.MethodName)) ∈ lw_all := lw_g (lw_at lw_m2 31 rfl) rfl
theorem q275 : (Jvm.Cond.code ({ cls := "IntArrays", name := "radixSort", desc := "([III)V" } : Jvm.MethodName) prog_5_method_11_code (21 : Nat) (Option.none : Option Jvm.ClassFile.FieldType)) ∈ lw_all := lw_g (lw_at lw_m2 32 rfl) rfl
end
section
/-! HeapLine -/
set_option maxRecDepth 100000
def RX0 : String := "HeapLine"
def TX0 : u_T := fun k => match k with
  | 0 => ("HeapLine", "heap", "LIntHeapPriorityQueue;", true)
  | 1 => ("HeapLine", "rows", "[I", true)
  | _ => ("HeapLine", "size", "I", false)
def tyX0 : Nat → FieldType := fun k => match k with
  | 0 => .object "IntHeapPriorityQueue"
  | 1 => .array .int
  | _ => .int
abbrev wsX00 : List Cond := u_ws RX0 TX0 3
theorem nmX0 : ∀ a, a < 3 → ∀ b, b < 3 → a ≠ b → (TX0 a).2.1 ≠ (TX0 b).2.1 := by decide +kernel
theorem tyX0_ok : ∀ k, k < 3 → parseFieldDescriptor (TX0 k).2.2.1 = some (tyX0 k) := by decide +kernel
abbrev cX0_init : ByteArray := prog_1_method_1_code
def yX0_init : MethodName := ⟨RX0, "<init>", "()V"⟩
def dkwX0_init_1 : List UInt8 := [17, 16, 0, 188, 10, 181, 0, 21, 177]
abbrev dktX0_init_1 : List UInt8 := dkwX0_init_1 ++ []
def dkwX0_init_0 : List UInt8 := [42, 183, 0, 1, 42, 187, 0, 7, 89, 7, 187, 0, 9, 89, 183, 0, 11, 183, 0, 12, 181, 0, 15, 42]
abbrev dktX0_init_0 : List UInt8 := dkwX0_init_0 ++ dktX0_init_1
theorem dksX0_init_0 : cX0_init.data.toList.drop 0 = dktX0_init_0 := by decide +kernel
theorem dksX0_init_1 : cX0_init.data.toList.drop 24 = dktX0_init_1 := dk_seg dksX0_init_0 24 rfl rfl
theorem dX0_init_0 : decode cX0_init 0 = .ok (.aload_n 0, 1) := dk_42 (dk_at dksX0_init_0 0 rfl rfl)
theorem dX0_init_1 : decode cX0_init 1 = .ok (.invokespecial 1, 3) := dk_183 0 1 (dk_at dksX0_init_0 1 rfl rfl)
theorem dX0_init_4 : decode cX0_init 4 = .ok (.aload_n 0, 1) := dk_42 (dk_at dksX0_init_0 4 rfl rfl)
theorem dX0_init_5 : decode cX0_init 5 = .ok (.new 7, 3) := dk_187 0 7 (dk_at dksX0_init_0 5 rfl rfl)
theorem dX0_init_8 : decode cX0_init 8 = .ok (.dup, 1) := dk_89 (dk_at dksX0_init_0 8 rfl rfl)
theorem dX0_init_9 : decode cX0_init 9 = .ok (.iconst 4, 1) := dk_7 (dk_at dksX0_init_0 9 rfl rfl)
theorem dX0_init_10 : decode cX0_init 10 = .ok (.new 9, 3) := dk_187 0 9 (dk_at dksX0_init_0 10 rfl rfl)
theorem dX0_init_13 : decode cX0_init 13 = .ok (.dup, 1) := dk_89 (dk_at dksX0_init_0 13 rfl rfl)
theorem dX0_init_14 : decode cX0_init 14 = .ok (.invokespecial 11, 3) := dk_183 0 11 (dk_at dksX0_init_0 14 rfl rfl)
theorem dX0_init_17 : decode cX0_init 17 = .ok (.invokespecial 12, 3) := dk_183 0 12 (dk_at dksX0_init_0 17 rfl rfl)
theorem dX0_init_20 : decode cX0_init 20 = .ok (.putfield 15, 3) := dk_181 0 15 (dk_at dksX0_init_0 20 rfl rfl)
theorem dX0_init_23 : decode cX0_init 23 = .ok (.aload_n 0, 1) := dk_42 (dk_at dksX0_init_0 23 rfl rfl)
theorem dX0_init_24 : decode cX0_init 24 = .ok (.sipush 4096, 3) := dk_17 16 0 (dk_at dksX0_init_1 0 rfl rfl)
theorem dX0_init_27 : decode cX0_init 27 = .ok (.newarray .int, 2) := dk_188_10 (dk_at dksX0_init_1 3 rfl rfl)
theorem dX0_init_29 : decode cX0_init 29 = .ok (.putfield 21, 3) := dk_181 0 21 (dk_at dksX0_init_1 5 rfl rfl)
theorem dX0_init_32 : decode cX0_init 32 = .ok (.return_, 1) := dk_177 (dk_at dksX0_init_1 8 rfl rfl)
abbrev cX0_add : ByteArray := prog_1_method_2_code
def yX0_add : MethodName := ⟨RX0, "add", "(I)Z"⟩
def dkwX0_add_1 : List UInt8 := [172]
abbrev dktX0_add_1 : List UInt8 := dkwX0_add_1 ++ []
def dkwX0_add_0 : List UInt8 := [42, 180, 0, 15, 182, 0, 25, 17, 16, 0, 161, 0, 5, 3, 172, 42, 180, 0, 15, 27, 182, 0, 29, 4]
abbrev dktX0_add_0 : List UInt8 := dkwX0_add_0 ++ dktX0_add_1
theorem dksX0_add_0 : cX0_add.data.toList.drop 0 = dktX0_add_0 := by decide +kernel
theorem dksX0_add_1 : cX0_add.data.toList.drop 24 = dktX0_add_1 := dk_seg dksX0_add_0 24 rfl rfl
theorem dX0_add_0 : decode cX0_add 0 = .ok (.aload_n 0, 1) := dk_42 (dk_at dksX0_add_0 0 rfl rfl)
theorem dX0_add_1 : decode cX0_add 1 = .ok (.getfield 15, 3) := dk_180 0 15 (dk_at dksX0_add_0 1 rfl rfl)
theorem dX0_add_4 : decode cX0_add 4 = .ok (.invokevirtual 25, 3) := dk_182 0 25 (dk_at dksX0_add_0 4 rfl rfl)
theorem dX0_add_7 : decode cX0_add 7 = .ok (.sipush 4096, 3) := dk_17 16 0 (dk_at dksX0_add_0 7 rfl rfl)
theorem dX0_add_10 : decode cX0_add 10 = .ok (.if_icmp .lt 5, 3) := dk_161 0 5 (dk_at dksX0_add_0 10 rfl rfl)
theorem dX0_add_13 : decode cX0_add 13 = .ok (.iconst 0, 1) := dk_3 (dk_at dksX0_add_0 13 rfl rfl)
theorem dX0_add_14 : decode cX0_add 14 = .ok (.ireturn, 1) := dk_172 (dk_at dksX0_add_0 14 rfl rfl)
theorem dX0_add_15 : decode cX0_add 15 = .ok (.aload_n 0, 1) := dk_42 (dk_at dksX0_add_0 15 rfl rfl)
theorem dX0_add_16 : decode cX0_add 16 = .ok (.getfield 15, 3) := dk_180 0 15 (dk_at dksX0_add_0 16 rfl rfl)
theorem dX0_add_19 : decode cX0_add 19 = .ok (.iload_n 1, 1) := dk_27 (dk_at dksX0_add_0 19 rfl rfl)
theorem dX0_add_20 : decode cX0_add 20 = .ok (.invokevirtual 29, 3) := dk_182 0 29 (dk_at dksX0_add_0 20 rfl rfl)
theorem dX0_add_23 : decode cX0_add 23 = .ok (.iconst 1, 1) := dk_4 (dk_at dksX0_add_0 23 rfl rfl)
theorem dX0_add_24 : decode cX0_add 24 = .ok (.ireturn, 1) := dk_172 (dk_at dksX0_add_1 0 rfl rfl)
abbrev cX0_take : ByteArray := prog_1_method_3_code
def yX0_take : MethodName := ⟨RX0, "take", "()I"⟩
def dkwX0_take_0 : List UInt8 := [42, 180, 0, 15, 182, 0, 33, 153, 0, 7, 3, 167, 0, 10, 42, 180, 0, 15, 182, 0, 37, 172]
abbrev dktX0_take_0 : List UInt8 := dkwX0_take_0 ++ []
theorem dksX0_take_0 : cX0_take.data.toList.drop 0 = dktX0_take_0 := by decide +kernel
theorem dX0_take_0 : decode cX0_take 0 = .ok (.aload_n 0, 1) := dk_42 (dk_at dksX0_take_0 0 rfl rfl)
theorem dX0_take_1 : decode cX0_take 1 = .ok (.getfield 15, 3) := dk_180 0 15 (dk_at dksX0_take_0 1 rfl rfl)
theorem dX0_take_4 : decode cX0_take 4 = .ok (.invokevirtual 33, 3) := dk_182 0 33 (dk_at dksX0_take_0 4 rfl rfl)
theorem dX0_take_7 : decode cX0_take 7 = .ok (.ifCond .eq 7, 3) := dk_153 0 7 (dk_at dksX0_take_0 7 rfl rfl)
theorem dX0_take_10 : decode cX0_take 10 = .ok (.iconst 0, 1) := dk_3 (dk_at dksX0_take_0 10 rfl rfl)
theorem dX0_take_11 : decode cX0_take 11 = .ok (.goto 10, 3) := dk_167 0 10 (dk_at dksX0_take_0 11 rfl rfl)
theorem dX0_take_14 : decode cX0_take 14 = .ok (.aload_n 0, 1) := dk_42 (dk_at dksX0_take_0 14 rfl rfl)
theorem dX0_take_15 : decode cX0_take 15 = .ok (.getfield 15, 3) := dk_180 0 15 (dk_at dksX0_take_0 15 rfl rfl)
theorem dX0_take_18 : decode cX0_take 18 = .ok (.invokevirtual 37, 3) := dk_182 0 37 (dk_at dksX0_take_0 18 rfl rfl)
theorem dX0_take_21 : decode cX0_take 21 = .ok (.ireturn, 1) := dk_172 (dk_at dksX0_take_0 21 rfl rfl)
abbrev cX0_least : ByteArray := prog_1_method_4_code
def yX0_least : MethodName := ⟨RX0, "least", "()I"⟩
def dkwX0_least_0 : List UInt8 := [42, 180, 0, 15, 182, 0, 33, 153, 0, 7, 3, 167, 0, 10, 42, 180, 0, 15, 182, 0, 40, 172]
abbrev dktX0_least_0 : List UInt8 := dkwX0_least_0 ++ []
theorem dksX0_least_0 : cX0_least.data.toList.drop 0 = dktX0_least_0 := by decide +kernel
theorem dX0_least_0 : decode cX0_least 0 = .ok (.aload_n 0, 1) := dk_42 (dk_at dksX0_least_0 0 rfl rfl)
theorem dX0_least_1 : decode cX0_least 1 = .ok (.getfield 15, 3) := dk_180 0 15 (dk_at dksX0_least_0 1 rfl rfl)
theorem dX0_least_4 : decode cX0_least 4 = .ok (.invokevirtual 33, 3) := dk_182 0 33 (dk_at dksX0_least_0 4 rfl rfl)
theorem dX0_least_7 : decode cX0_least 7 = .ok (.ifCond .eq 7, 3) := dk_153 0 7 (dk_at dksX0_least_0 7 rfl rfl)
theorem dX0_least_10 : decode cX0_least 10 = .ok (.iconst 0, 1) := dk_3 (dk_at dksX0_least_0 10 rfl rfl)
theorem dX0_least_11 : decode cX0_least 11 = .ok (.goto 10, 3) := dk_167 0 10 (dk_at dksX0_least_0 11 rfl rfl)
theorem dX0_least_14 : decode cX0_least 14 = .ok (.aload_n 0, 1) := dk_42 (dk_at dksX0_least_0 14 rfl rfl)
theorem dX0_least_15 : decode cX0_least 15 = .ok (.getfield 15, 3) := dk_180 0 15 (dk_at dksX0_least_0 15 rfl rfl)
theorem dX0_least_18 : decode cX0_least 18 = .ok (.invokevirtual 40, 3) := dk_182 0 40 (dk_at dksX0_least_0 18 rfl rfl)
theorem dX0_least_21 : decode cX0_least 21 = .ok (.ireturn, 1) := dk_172 (dk_at dksX0_least_0 21 rfl rfl)
abbrev cX0_waiting : ByteArray := prog_1_method_5_code
def yX0_waiting : MethodName := ⟨RX0, "waiting", "()I"⟩
def dkwX0_waiting_0 : List UInt8 := [42, 180, 0, 15, 182, 0, 25, 172]
abbrev dktX0_waiting_0 : List UInt8 := dkwX0_waiting_0 ++ []
theorem dksX0_waiting_0 : cX0_waiting.data.toList.drop 0 = dktX0_waiting_0 := by decide +kernel
theorem dX0_waiting_0 : decode cX0_waiting 0 = .ok (.aload_n 0, 1) := dk_42 (dk_at dksX0_waiting_0 0 rfl rfl)
theorem dX0_waiting_1 : decode cX0_waiting 1 = .ok (.getfield 15, 3) := dk_180 0 15 (dk_at dksX0_waiting_0 1 rfl rfl)
theorem dX0_waiting_4 : decode cX0_waiting 4 = .ok (.invokevirtual 25, 3) := dk_182 0 25 (dk_at dksX0_waiting_0 4 rfl rfl)
theorem dX0_waiting_7 : decode cX0_waiting 7 = .ok (.ireturn, 1) := dk_172 (dk_at dksX0_waiting_0 7 rfl rfl)
abbrev cX0_drain : ByteArray := prog_1_method_6_code
def yX0_drain : MethodName := ⟨RX0, "drain", "()V"⟩
def dkwX0_drain_0 : List UInt8 := [42, 180, 0, 15, 182, 0, 43, 177]
abbrev dktX0_drain_0 : List UInt8 := dkwX0_drain_0 ++ []
theorem dksX0_drain_0 : cX0_drain.data.toList.drop 0 = dktX0_drain_0 := by decide +kernel
theorem dX0_drain_0 : decode cX0_drain 0 = .ok (.aload_n 0, 1) := dk_42 (dk_at dksX0_drain_0 0 rfl rfl)
theorem dX0_drain_1 : decode cX0_drain 1 = .ok (.getfield 15, 3) := dk_180 0 15 (dk_at dksX0_drain_0 1 rfl rfl)
theorem dX0_drain_4 : decode cX0_drain 4 = .ok (.invokevirtual 43, 3) := dk_182 0 43 (dk_at dksX0_drain_0 4 rfl rfl)
theorem dX0_drain_7 : decode cX0_drain 7 = .ok (.return_, 1) := dk_177 (dk_at dksX0_drain_0 7 rfl rfl)
abbrev cX0_ramp : ByteArray := prog_1_method_7_code
def yX0_ramp : MethodName := ⟨RX0, "ramp", "(III)I"⟩
def dkwX0_ramp_3 : List UInt8 := [21, 4, 172]
abbrev dktX0_ramp_3 : List UInt8 := dkwX0_ramp_3 ++ []
def dkwX0_ramp_2 : List UInt8 := [42, 89, 180, 0, 47, 90, 4, 96, 181, 0, 47, 28, 21, 5, 29, 104, 96, 79, 132, 5, 1, 167, 255, 224]
abbrev dktX0_ramp_2 : List UInt8 := dkwX0_ramp_2 ++ dktX0_ramp_3
def dkwX0_ramp_1 : List UInt8 := [17, 16, 0, 42, 180, 0, 47, 100, 54, 4, 3, 54, 5, 21, 5, 21, 4, 162, 0, 31, 42, 180, 0, 21]
abbrev dktX0_ramp_1 : List UInt8 := dkwX0_ramp_1 ++ dktX0_ramp_2
def dkwX0_ramp_0 : List UInt8 := [27, 18, 46, 126, 17, 1, 1, 112, 54, 4, 21, 4, 17, 16, 0, 42, 180, 0, 47, 100, 164, 0, 13]
abbrev dktX0_ramp_0 : List UInt8 := dkwX0_ramp_0 ++ dktX0_ramp_1
theorem dksX0_ramp_0 : cX0_ramp.data.toList.drop 0 = dktX0_ramp_0 := by decide +kernel
theorem dksX0_ramp_1 : cX0_ramp.data.toList.drop 23 = dktX0_ramp_1 := dk_seg dksX0_ramp_0 23 rfl rfl
theorem dksX0_ramp_2 : cX0_ramp.data.toList.drop 47 = dktX0_ramp_2 := dk_seg dksX0_ramp_1 24 rfl rfl
theorem dksX0_ramp_3 : cX0_ramp.data.toList.drop 71 = dktX0_ramp_3 := dk_seg dksX0_ramp_2 24 rfl rfl
theorem dX0_ramp_0 : decode cX0_ramp 0 = .ok (.iload_n 1, 1) := dk_27 (dk_at dksX0_ramp_0 0 rfl rfl)
theorem dX0_ramp_1 : decode cX0_ramp 1 = .ok (.ldc 46, 2) := dk_18 46 (dk_at dksX0_ramp_0 1 rfl rfl)
theorem dX0_ramp_3 : decode cX0_ramp 3 = .ok (.iand, 1) := dk_126 (dk_at dksX0_ramp_0 3 rfl rfl)
theorem dX0_ramp_4 : decode cX0_ramp 4 = .ok (.sipush 257, 3) := dk_17 1 1 (dk_at dksX0_ramp_0 4 rfl rfl)
theorem dX0_ramp_7 : decode cX0_ramp 7 = .ok (.irem, 1) := dk_112 (dk_at dksX0_ramp_0 7 rfl rfl)
theorem dX0_ramp_8 : decode cX0_ramp 8 = .ok (.istore 4, 2) := dk_54 4 (dk_at dksX0_ramp_0 8 rfl rfl)
theorem dX0_ramp_10 : decode cX0_ramp 10 = .ok (.iload 4, 2) := dk_21 4 (dk_at dksX0_ramp_0 10 rfl rfl)
theorem dX0_ramp_12 : decode cX0_ramp 12 = .ok (.sipush 4096, 3) := dk_17 16 0 (dk_at dksX0_ramp_0 12 rfl rfl)
theorem dX0_ramp_15 : decode cX0_ramp 15 = .ok (.aload_n 0, 1) := dk_42 (dk_at dksX0_ramp_0 15 rfl rfl)
theorem dX0_ramp_16 : decode cX0_ramp 16 = .ok (.getfield 47, 3) := dk_180 0 47 (dk_at dksX0_ramp_0 16 rfl rfl)
theorem dX0_ramp_19 : decode cX0_ramp 19 = .ok (.isub, 1) := dk_100 (dk_at dksX0_ramp_0 19 rfl rfl)
theorem dX0_ramp_20 : decode cX0_ramp 20 = .ok (.if_icmp .le 13, 3) := dk_164 0 13 (dk_at dksX0_ramp_0 20 rfl rfl)
theorem dX0_ramp_23 : decode cX0_ramp 23 = .ok (.sipush 4096, 3) := dk_17 16 0 (dk_at dksX0_ramp_1 0 rfl rfl)
theorem dX0_ramp_26 : decode cX0_ramp 26 = .ok (.aload_n 0, 1) := dk_42 (dk_at dksX0_ramp_1 3 rfl rfl)
theorem dX0_ramp_27 : decode cX0_ramp 27 = .ok (.getfield 47, 3) := dk_180 0 47 (dk_at dksX0_ramp_1 4 rfl rfl)
theorem dX0_ramp_30 : decode cX0_ramp 30 = .ok (.isub, 1) := dk_100 (dk_at dksX0_ramp_1 7 rfl rfl)
theorem dX0_ramp_31 : decode cX0_ramp 31 = .ok (.istore 4, 2) := dk_54 4 (dk_at dksX0_ramp_1 8 rfl rfl)
theorem dX0_ramp_33 : decode cX0_ramp 33 = .ok (.iconst 0, 1) := dk_3 (dk_at dksX0_ramp_1 10 rfl rfl)
theorem dX0_ramp_34 : decode cX0_ramp 34 = .ok (.istore 5, 2) := dk_54 5 (dk_at dksX0_ramp_1 11 rfl rfl)
theorem dX0_ramp_36 : decode cX0_ramp 36 = .ok (.iload 5, 2) := dk_21 5 (dk_at dksX0_ramp_1 13 rfl rfl)
theorem dX0_ramp_38 : decode cX0_ramp 38 = .ok (.iload 4, 2) := dk_21 4 (dk_at dksX0_ramp_1 15 rfl rfl)
theorem dX0_ramp_40 : decode cX0_ramp 40 = .ok (.if_icmp .ge 31, 3) := dk_162 0 31 (dk_at dksX0_ramp_1 17 rfl rfl)
theorem dX0_ramp_43 : decode cX0_ramp 43 = .ok (.aload_n 0, 1) := dk_42 (dk_at dksX0_ramp_1 20 rfl rfl)
theorem dX0_ramp_44 : decode cX0_ramp 44 = .ok (.getfield 21, 3) := dk_180 0 21 (dk_at dksX0_ramp_1 21 rfl rfl)
theorem dX0_ramp_47 : decode cX0_ramp 47 = .ok (.aload_n 0, 1) := dk_42 (dk_at dksX0_ramp_2 0 rfl rfl)
theorem dX0_ramp_48 : decode cX0_ramp 48 = .ok (.dup, 1) := dk_89 (dk_at dksX0_ramp_2 1 rfl rfl)
theorem dX0_ramp_49 : decode cX0_ramp 49 = .ok (.getfield 47, 3) := dk_180 0 47 (dk_at dksX0_ramp_2 2 rfl rfl)
theorem dX0_ramp_52 : decode cX0_ramp 52 = .ok (.dup_x1, 1) := dk_90 (dk_at dksX0_ramp_2 5 rfl rfl)
theorem dX0_ramp_53 : decode cX0_ramp 53 = .ok (.iconst 1, 1) := dk_4 (dk_at dksX0_ramp_2 6 rfl rfl)
theorem dX0_ramp_54 : decode cX0_ramp 54 = .ok (.iadd, 1) := dk_96 (dk_at dksX0_ramp_2 7 rfl rfl)
theorem dX0_ramp_55 : decode cX0_ramp 55 = .ok (.putfield 47, 3) := dk_181 0 47 (dk_at dksX0_ramp_2 8 rfl rfl)
theorem dX0_ramp_58 : decode cX0_ramp 58 = .ok (.iload_n 2, 1) := dk_28 (dk_at dksX0_ramp_2 11 rfl rfl)
theorem dX0_ramp_59 : decode cX0_ramp 59 = .ok (.iload 5, 2) := dk_21 5 (dk_at dksX0_ramp_2 12 rfl rfl)
theorem dX0_ramp_61 : decode cX0_ramp 61 = .ok (.iload_n 3, 1) := dk_29 (dk_at dksX0_ramp_2 14 rfl rfl)
theorem dX0_ramp_62 : decode cX0_ramp 62 = .ok (.imul, 1) := dk_104 (dk_at dksX0_ramp_2 15 rfl rfl)
theorem dX0_ramp_63 : decode cX0_ramp 63 = .ok (.iadd, 1) := dk_96 (dk_at dksX0_ramp_2 16 rfl rfl)
theorem dX0_ramp_64 : decode cX0_ramp 64 = .ok (.iastore, 1) := dk_79 (dk_at dksX0_ramp_2 17 rfl rfl)
theorem dX0_ramp_65 : decode cX0_ramp 65 = .ok (.iinc 5 1, 3) := dk_132 5 1 (dk_at dksX0_ramp_2 18 rfl rfl)
theorem dX0_ramp_68 : decode cX0_ramp 68 = .ok (.goto (-32), 3) := dk_167 255 224 (dk_at dksX0_ramp_2 21 rfl rfl)
theorem dX0_ramp_71 : decode cX0_ramp 71 = .ok (.iload 4, 2) := dk_21 4 (dk_at dksX0_ramp_3 0 rfl rfl)
theorem dX0_ramp_73 : decode cX0_ramp 73 = .ok (.ireturn, 1) := dk_172 (dk_at dksX0_ramp_3 2 rfl rfl)
abbrev cX0_row : ByteArray := prog_1_method_8_code
def yX0_row : MethodName := ⟨RX0, "row", "(I)I"⟩
def dkwX0_row_1 : List UInt8 := [46, 172]
abbrev dktX0_row_1 : List UInt8 := dkwX0_row_1 ++ []
def dkwX0_row_0 : List UInt8 := [42, 180, 0, 47, 154, 0, 7, 3, 167, 0, 17, 42, 180, 0, 21, 27, 18, 46, 126, 42, 180, 0, 47, 112]
abbrev dktX0_row_0 : List UInt8 := dkwX0_row_0 ++ dktX0_row_1
theorem dksX0_row_0 : cX0_row.data.toList.drop 0 = dktX0_row_0 := by decide +kernel
theorem dksX0_row_1 : cX0_row.data.toList.drop 24 = dktX0_row_1 := dk_seg dksX0_row_0 24 rfl rfl
theorem dX0_row_0 : decode cX0_row 0 = .ok (.aload_n 0, 1) := dk_42 (dk_at dksX0_row_0 0 rfl rfl)
theorem dX0_row_1 : decode cX0_row 1 = .ok (.getfield 47, 3) := dk_180 0 47 (dk_at dksX0_row_0 1 rfl rfl)
theorem dX0_row_4 : decode cX0_row 4 = .ok (.ifCond .ne 7, 3) := dk_154 0 7 (dk_at dksX0_row_0 4 rfl rfl)
theorem dX0_row_7 : decode cX0_row 7 = .ok (.iconst 0, 1) := dk_3 (dk_at dksX0_row_0 7 rfl rfl)
theorem dX0_row_8 : decode cX0_row 8 = .ok (.goto 17, 3) := dk_167 0 17 (dk_at dksX0_row_0 8 rfl rfl)
theorem dX0_row_11 : decode cX0_row 11 = .ok (.aload_n 0, 1) := dk_42 (dk_at dksX0_row_0 11 rfl rfl)
theorem dX0_row_12 : decode cX0_row 12 = .ok (.getfield 21, 3) := dk_180 0 21 (dk_at dksX0_row_0 12 rfl rfl)
theorem dX0_row_15 : decode cX0_row 15 = .ok (.iload_n 1, 1) := dk_27 (dk_at dksX0_row_0 15 rfl rfl)
theorem dX0_row_16 : decode cX0_row 16 = .ok (.ldc 46, 2) := dk_18 46 (dk_at dksX0_row_0 16 rfl rfl)
theorem dX0_row_18 : decode cX0_row 18 = .ok (.iand, 1) := dk_126 (dk_at dksX0_row_0 18 rfl rfl)
theorem dX0_row_19 : decode cX0_row 19 = .ok (.aload_n 0, 1) := dk_42 (dk_at dksX0_row_0 19 rfl rfl)
theorem dX0_row_20 : decode cX0_row 20 = .ok (.getfield 47, 3) := dk_180 0 47 (dk_at dksX0_row_0 20 rfl rfl)
theorem dX0_row_23 : decode cX0_row 23 = .ok (.irem, 1) := dk_112 (dk_at dksX0_row_0 23 rfl rfl)
theorem dX0_row_24 : decode cX0_row 24 = .ok (.iaload, 1) := dk_46 (dk_at dksX0_row_1 0 rfl rfl)
theorem dX0_row_25 : decode cX0_row 25 = .ok (.ireturn, 1) := dk_172 (dk_at dksX0_row_1 1 rfl rfl)
abbrev cX0_quick : ByteArray := prog_1_method_9_code
def yX0_quick : MethodName := ⟨RX0, "quick", "(II)I"⟩
def dkwX0_quick_1 : List UInt8 := [112, 54, 4, 42, 180, 0, 21, 29, 29, 21, 4, 96, 184, 0, 50, 21, 4, 172]
abbrev dktX0_quick_1 : List UInt8 := dkwX0_quick_1 ++ []
def dkwX0_quick_0 : List UInt8 := [27, 18, 46, 126, 42, 180, 0, 47, 4, 96, 112, 62, 28, 18, 46, 126, 42, 180, 0, 47, 29, 100, 4, 96]
abbrev dktX0_quick_0 : List UInt8 := dkwX0_quick_0 ++ dktX0_quick_1
theorem dksX0_quick_0 : cX0_quick.data.toList.drop 0 = dktX0_quick_0 := by decide +kernel
theorem dksX0_quick_1 : cX0_quick.data.toList.drop 24 = dktX0_quick_1 := dk_seg dksX0_quick_0 24 rfl rfl
theorem dX0_quick_0 : decode cX0_quick 0 = .ok (.iload_n 1, 1) := dk_27 (dk_at dksX0_quick_0 0 rfl rfl)
theorem dX0_quick_1 : decode cX0_quick 1 = .ok (.ldc 46, 2) := dk_18 46 (dk_at dksX0_quick_0 1 rfl rfl)
theorem dX0_quick_3 : decode cX0_quick 3 = .ok (.iand, 1) := dk_126 (dk_at dksX0_quick_0 3 rfl rfl)
theorem dX0_quick_4 : decode cX0_quick 4 = .ok (.aload_n 0, 1) := dk_42 (dk_at dksX0_quick_0 4 rfl rfl)
theorem dX0_quick_5 : decode cX0_quick 5 = .ok (.getfield 47, 3) := dk_180 0 47 (dk_at dksX0_quick_0 5 rfl rfl)
theorem dX0_quick_8 : decode cX0_quick 8 = .ok (.iconst 1, 1) := dk_4 (dk_at dksX0_quick_0 8 rfl rfl)
theorem dX0_quick_9 : decode cX0_quick 9 = .ok (.iadd, 1) := dk_96 (dk_at dksX0_quick_0 9 rfl rfl)
theorem dX0_quick_10 : decode cX0_quick 10 = .ok (.irem, 1) := dk_112 (dk_at dksX0_quick_0 10 rfl rfl)
theorem dX0_quick_11 : decode cX0_quick 11 = .ok (.istore_n 3, 1) := dk_62 (dk_at dksX0_quick_0 11 rfl rfl)
theorem dX0_quick_12 : decode cX0_quick 12 = .ok (.iload_n 2, 1) := dk_28 (dk_at dksX0_quick_0 12 rfl rfl)
theorem dX0_quick_13 : decode cX0_quick 13 = .ok (.ldc 46, 2) := dk_18 46 (dk_at dksX0_quick_0 13 rfl rfl)
theorem dX0_quick_15 : decode cX0_quick 15 = .ok (.iand, 1) := dk_126 (dk_at dksX0_quick_0 15 rfl rfl)
theorem dX0_quick_16 : decode cX0_quick 16 = .ok (.aload_n 0, 1) := dk_42 (dk_at dksX0_quick_0 16 rfl rfl)
theorem dX0_quick_17 : decode cX0_quick 17 = .ok (.getfield 47, 3) := dk_180 0 47 (dk_at dksX0_quick_0 17 rfl rfl)
theorem dX0_quick_20 : decode cX0_quick 20 = .ok (.iload_n 3, 1) := dk_29 (dk_at dksX0_quick_0 20 rfl rfl)
theorem dX0_quick_21 : decode cX0_quick 21 = .ok (.isub, 1) := dk_100 (dk_at dksX0_quick_0 21 rfl rfl)
theorem dX0_quick_22 : decode cX0_quick 22 = .ok (.iconst 1, 1) := dk_4 (dk_at dksX0_quick_0 22 rfl rfl)
theorem dX0_quick_23 : decode cX0_quick 23 = .ok (.iadd, 1) := dk_96 (dk_at dksX0_quick_0 23 rfl rfl)
theorem dX0_quick_24 : decode cX0_quick 24 = .ok (.irem, 1) := dk_112 (dk_at dksX0_quick_1 0 rfl rfl)
theorem dX0_quick_25 : decode cX0_quick 25 = .ok (.istore 4, 2) := dk_54 4 (dk_at dksX0_quick_1 1 rfl rfl)
theorem dX0_quick_27 : decode cX0_quick 27 = .ok (.aload_n 0, 1) := dk_42 (dk_at dksX0_quick_1 3 rfl rfl)
theorem dX0_quick_28 : decode cX0_quick 28 = .ok (.getfield 21, 3) := dk_180 0 21 (dk_at dksX0_quick_1 4 rfl rfl)
theorem dX0_quick_31 : decode cX0_quick 31 = .ok (.iload_n 3, 1) := dk_29 (dk_at dksX0_quick_1 7 rfl rfl)
theorem dX0_quick_32 : decode cX0_quick 32 = .ok (.iload_n 3, 1) := dk_29 (dk_at dksX0_quick_1 8 rfl rfl)
theorem dX0_quick_33 : decode cX0_quick 33 = .ok (.iload 4, 2) := dk_21 4 (dk_at dksX0_quick_1 9 rfl rfl)
theorem dX0_quick_35 : decode cX0_quick 35 = .ok (.iadd, 1) := dk_96 (dk_at dksX0_quick_1 11 rfl rfl)
theorem dX0_quick_36 : decode cX0_quick 36 = .ok (.invokestatic 50, 3) := dk_184 0 50 (dk_at dksX0_quick_1 12 rfl rfl)
theorem dX0_quick_39 : decode cX0_quick 39 = .ok (.iload 4, 2) := dk_21 4 (dk_at dksX0_quick_1 15 rfl rfl)
theorem dX0_quick_41 : decode cX0_quick 41 = .ok (.ireturn, 1) := dk_172 (dk_at dksX0_quick_1 17 rfl rfl)
abbrev cX0_merge : ByteArray := prog_1_method_10_code
def yX0_merge : MethodName := ⟨RX0, "merge", "(II)I"⟩
def dkwX0_merge_1 : List UInt8 := [112, 54, 4, 42, 180, 0, 21, 29, 29, 21, 4, 96, 184, 0, 56, 21, 4, 172]
abbrev dktX0_merge_1 : List UInt8 := dkwX0_merge_1 ++ []
def dkwX0_merge_0 : List UInt8 := [27, 18, 46, 126, 42, 180, 0, 47, 4, 96, 112, 62, 28, 18, 46, 126, 42, 180, 0, 47, 29, 100, 4, 96]
abbrev dktX0_merge_0 : List UInt8 := dkwX0_merge_0 ++ dktX0_merge_1
theorem dksX0_merge_0 : cX0_merge.data.toList.drop 0 = dktX0_merge_0 := by decide +kernel
theorem dksX0_merge_1 : cX0_merge.data.toList.drop 24 = dktX0_merge_1 := dk_seg dksX0_merge_0 24 rfl rfl
theorem dX0_merge_0 : decode cX0_merge 0 = .ok (.iload_n 1, 1) := dk_27 (dk_at dksX0_merge_0 0 rfl rfl)
theorem dX0_merge_1 : decode cX0_merge 1 = .ok (.ldc 46, 2) := dk_18 46 (dk_at dksX0_merge_0 1 rfl rfl)
theorem dX0_merge_3 : decode cX0_merge 3 = .ok (.iand, 1) := dk_126 (dk_at dksX0_merge_0 3 rfl rfl)
theorem dX0_merge_4 : decode cX0_merge 4 = .ok (.aload_n 0, 1) := dk_42 (dk_at dksX0_merge_0 4 rfl rfl)
theorem dX0_merge_5 : decode cX0_merge 5 = .ok (.getfield 47, 3) := dk_180 0 47 (dk_at dksX0_merge_0 5 rfl rfl)
theorem dX0_merge_8 : decode cX0_merge 8 = .ok (.iconst 1, 1) := dk_4 (dk_at dksX0_merge_0 8 rfl rfl)
theorem dX0_merge_9 : decode cX0_merge 9 = .ok (.iadd, 1) := dk_96 (dk_at dksX0_merge_0 9 rfl rfl)
theorem dX0_merge_10 : decode cX0_merge 10 = .ok (.irem, 1) := dk_112 (dk_at dksX0_merge_0 10 rfl rfl)
theorem dX0_merge_11 : decode cX0_merge 11 = .ok (.istore_n 3, 1) := dk_62 (dk_at dksX0_merge_0 11 rfl rfl)
theorem dX0_merge_12 : decode cX0_merge 12 = .ok (.iload_n 2, 1) := dk_28 (dk_at dksX0_merge_0 12 rfl rfl)
theorem dX0_merge_13 : decode cX0_merge 13 = .ok (.ldc 46, 2) := dk_18 46 (dk_at dksX0_merge_0 13 rfl rfl)
theorem dX0_merge_15 : decode cX0_merge 15 = .ok (.iand, 1) := dk_126 (dk_at dksX0_merge_0 15 rfl rfl)
theorem dX0_merge_16 : decode cX0_merge 16 = .ok (.aload_n 0, 1) := dk_42 (dk_at dksX0_merge_0 16 rfl rfl)
theorem dX0_merge_17 : decode cX0_merge 17 = .ok (.getfield 47, 3) := dk_180 0 47 (dk_at dksX0_merge_0 17 rfl rfl)
theorem dX0_merge_20 : decode cX0_merge 20 = .ok (.iload_n 3, 1) := dk_29 (dk_at dksX0_merge_0 20 rfl rfl)
theorem dX0_merge_21 : decode cX0_merge 21 = .ok (.isub, 1) := dk_100 (dk_at dksX0_merge_0 21 rfl rfl)
theorem dX0_merge_22 : decode cX0_merge 22 = .ok (.iconst 1, 1) := dk_4 (dk_at dksX0_merge_0 22 rfl rfl)
theorem dX0_merge_23 : decode cX0_merge 23 = .ok (.iadd, 1) := dk_96 (dk_at dksX0_merge_0 23 rfl rfl)
theorem dX0_merge_24 : decode cX0_merge 24 = .ok (.irem, 1) := dk_112 (dk_at dksX0_merge_1 0 rfl rfl)
theorem dX0_merge_25 : decode cX0_merge 25 = .ok (.istore 4, 2) := dk_54 4 (dk_at dksX0_merge_1 1 rfl rfl)
theorem dX0_merge_27 : decode cX0_merge 27 = .ok (.aload_n 0, 1) := dk_42 (dk_at dksX0_merge_1 3 rfl rfl)
theorem dX0_merge_28 : decode cX0_merge 28 = .ok (.getfield 21, 3) := dk_180 0 21 (dk_at dksX0_merge_1 4 rfl rfl)
theorem dX0_merge_31 : decode cX0_merge 31 = .ok (.iload_n 3, 1) := dk_29 (dk_at dksX0_merge_1 7 rfl rfl)
theorem dX0_merge_32 : decode cX0_merge 32 = .ok (.iload_n 3, 1) := dk_29 (dk_at dksX0_merge_1 8 rfl rfl)
theorem dX0_merge_33 : decode cX0_merge 33 = .ok (.iload 4, 2) := dk_21 4 (dk_at dksX0_merge_1 9 rfl rfl)
theorem dX0_merge_35 : decode cX0_merge 35 = .ok (.iadd, 1) := dk_96 (dk_at dksX0_merge_1 11 rfl rfl)
theorem dX0_merge_36 : decode cX0_merge 36 = .ok (.invokestatic 56, 3) := dk_184 0 56 (dk_at dksX0_merge_1 12 rfl rfl)
theorem dX0_merge_39 : decode cX0_merge 39 = .ok (.iload 4, 2) := dk_21 4 (dk_at dksX0_merge_1 15 rfl rfl)
theorem dX0_merge_41 : decode cX0_merge 41 = .ok (.ireturn, 1) := dk_172 (dk_at dksX0_merge_1 17 rfl rfl)
abbrev cX0_radix : ByteArray := prog_1_method_11_code
def yX0_radix : MethodName := ⟨RX0, "radix", "(II)I"⟩
def dkwX0_radix_1 : List UInt8 := [112, 54, 4, 42, 180, 0, 21, 29, 29, 21, 4, 96, 184, 0, 59, 21, 4, 172]
abbrev dktX0_radix_1 : List UInt8 := dkwX0_radix_1 ++ []
def dkwX0_radix_0 : List UInt8 := [27, 18, 46, 126, 42, 180, 0, 47, 4, 96, 112, 62, 28, 18, 46, 126, 42, 180, 0, 47, 29, 100, 4, 96]
abbrev dktX0_radix_0 : List UInt8 := dkwX0_radix_0 ++ dktX0_radix_1
theorem dksX0_radix_0 : cX0_radix.data.toList.drop 0 = dktX0_radix_0 := by decide +kernel
theorem dksX0_radix_1 : cX0_radix.data.toList.drop 24 = dktX0_radix_1 := dk_seg dksX0_radix_0 24 rfl rfl
theorem dX0_radix_0 : decode cX0_radix 0 = .ok (.iload_n 1, 1) := dk_27 (dk_at dksX0_radix_0 0 rfl rfl)
theorem dX0_radix_1 : decode cX0_radix 1 = .ok (.ldc 46, 2) := dk_18 46 (dk_at dksX0_radix_0 1 rfl rfl)
theorem dX0_radix_3 : decode cX0_radix 3 = .ok (.iand, 1) := dk_126 (dk_at dksX0_radix_0 3 rfl rfl)
theorem dX0_radix_4 : decode cX0_radix 4 = .ok (.aload_n 0, 1) := dk_42 (dk_at dksX0_radix_0 4 rfl rfl)
theorem dX0_radix_5 : decode cX0_radix 5 = .ok (.getfield 47, 3) := dk_180 0 47 (dk_at dksX0_radix_0 5 rfl rfl)
theorem dX0_radix_8 : decode cX0_radix 8 = .ok (.iconst 1, 1) := dk_4 (dk_at dksX0_radix_0 8 rfl rfl)
theorem dX0_radix_9 : decode cX0_radix 9 = .ok (.iadd, 1) := dk_96 (dk_at dksX0_radix_0 9 rfl rfl)
theorem dX0_radix_10 : decode cX0_radix 10 = .ok (.irem, 1) := dk_112 (dk_at dksX0_radix_0 10 rfl rfl)
theorem dX0_radix_11 : decode cX0_radix 11 = .ok (.istore_n 3, 1) := dk_62 (dk_at dksX0_radix_0 11 rfl rfl)
theorem dX0_radix_12 : decode cX0_radix 12 = .ok (.iload_n 2, 1) := dk_28 (dk_at dksX0_radix_0 12 rfl rfl)
theorem dX0_radix_13 : decode cX0_radix 13 = .ok (.ldc 46, 2) := dk_18 46 (dk_at dksX0_radix_0 13 rfl rfl)
theorem dX0_radix_15 : decode cX0_radix 15 = .ok (.iand, 1) := dk_126 (dk_at dksX0_radix_0 15 rfl rfl)
theorem dX0_radix_16 : decode cX0_radix 16 = .ok (.aload_n 0, 1) := dk_42 (dk_at dksX0_radix_0 16 rfl rfl)
theorem dX0_radix_17 : decode cX0_radix 17 = .ok (.getfield 47, 3) := dk_180 0 47 (dk_at dksX0_radix_0 17 rfl rfl)
theorem dX0_radix_20 : decode cX0_radix 20 = .ok (.iload_n 3, 1) := dk_29 (dk_at dksX0_radix_0 20 rfl rfl)
theorem dX0_radix_21 : decode cX0_radix 21 = .ok (.isub, 1) := dk_100 (dk_at dksX0_radix_0 21 rfl rfl)
theorem dX0_radix_22 : decode cX0_radix 22 = .ok (.iconst 1, 1) := dk_4 (dk_at dksX0_radix_0 22 rfl rfl)
theorem dX0_radix_23 : decode cX0_radix 23 = .ok (.iadd, 1) := dk_96 (dk_at dksX0_radix_0 23 rfl rfl)
theorem dX0_radix_24 : decode cX0_radix 24 = .ok (.irem, 1) := dk_112 (dk_at dksX0_radix_1 0 rfl rfl)
theorem dX0_radix_25 : decode cX0_radix 25 = .ok (.istore 4, 2) := dk_54 4 (dk_at dksX0_radix_1 1 rfl rfl)
theorem dX0_radix_27 : decode cX0_radix 27 = .ok (.aload_n 0, 1) := dk_42 (dk_at dksX0_radix_1 3 rfl rfl)
theorem dX0_radix_28 : decode cX0_radix 28 = .ok (.getfield 21, 3) := dk_180 0 21 (dk_at dksX0_radix_1 4 rfl rfl)
theorem dX0_radix_31 : decode cX0_radix 31 = .ok (.iload_n 3, 1) := dk_29 (dk_at dksX0_radix_1 7 rfl rfl)
theorem dX0_radix_32 : decode cX0_radix 32 = .ok (.iload_n 3, 1) := dk_29 (dk_at dksX0_radix_1 8 rfl rfl)
theorem dX0_radix_33 : decode cX0_radix 33 = .ok (.iload 4, 2) := dk_21 4 (dk_at dksX0_radix_1 9 rfl rfl)
theorem dX0_radix_35 : decode cX0_radix 35 = .ok (.iadd, 1) := dk_96 (dk_at dksX0_radix_1 11 rfl rfl)
theorem dX0_radix_36 : decode cX0_radix 36 = .ok (.invokestatic 59, 3) := dk_184 0 59 (dk_at dksX0_radix_1 12 rfl rfl)
theorem dX0_radix_39 : decode cX0_radix 39 = .ok (.iload 4, 2) := dk_21 4 (dk_at dksX0_radix_1 15 rfl rfl)
theorem dX0_radix_41 : decode cX0_radix 41 = .ok (.ireturn, 1) := dk_172 (dk_at dksX0_radix_1 17 rfl rfl)
abbrev cX0_empty : ByteArray := prog_1_method_12_code
def yX0_empty : MethodName := ⟨RX0, "empty", "()V"⟩
def dkwX0_empty_0 : List UInt8 := [42, 3, 181, 0, 47, 177]
abbrev dktX0_empty_0 : List UInt8 := dkwX0_empty_0 ++ []
theorem dksX0_empty_0 : cX0_empty.data.toList.drop 0 = dktX0_empty_0 := by decide +kernel
theorem dX0_empty_0 : decode cX0_empty 0 = .ok (.aload_n 0, 1) := dk_42 (dk_at dksX0_empty_0 0 rfl rfl)
theorem dX0_empty_1 : decode cX0_empty 1 = .ok (.iconst 0, 1) := dk_3 (dk_at dksX0_empty_0 1 rfl rfl)
theorem dX0_empty_2 : decode cX0_empty 2 = .ok (.putfield 47, 3) := dk_181 0 47 (dk_at dksX0_empty_0 2 rfl rfl)
theorem dX0_empty_5 : decode cX0_empty 5 = .ok (.return_, 1) := dk_177 (dk_at dksX0_empty_0 5 rfl rfl)
theorem q4 : (Jvm.Cond.initialized "HeapLine") ∈ lw_all := lw_g (lw_at lw_m1 1 rfl) rfl
theorem q19 : (Jvm.Cond.instantiable "HeapLine" (3 : Nat)) ∈ lw_all := lw_g (lw_at lw_m1 16 rfl) rfl
theorem q21 : (Jvm.Cond.instanceMethod ({ cls := "HeapLine", name := "<init>", desc := "()V" } : Jvm.MethodName)) ∈ lw_all := lw_g (lw_at lw_m1 18 rfl) rfl
theorem q22 : (Jvm.Cond.code ({ cls := "HeapLine", name := "<init>", desc := "()V" } : Jvm.MethodName) prog_1_method_1_code (1 : Nat) (Option.none : Option Jvm.ClassFile.FieldType)) ∈ lw_all := lw_g (lw_at lw_m1 19 rfl) rfl
theorem q23 : (Jvm.Cond.methodLink "HeapLine" (1 : Nat) ({ cls := "java/lang/Object", name := "<init>", desc := "()V" } : Jvm.MethodName)) ∈ lw_all := lw_g (lw_at lw_m1 20 rfl) rfl
theorem q26 : (Jvm.Cond.classLink "HeapLine" (7 : Nat) "IntHeapPriorityQueue") ∈ lw_all := lw_g (lw_at lw_m1 23 rfl) rfl
theorem q28 : (Jvm.Cond.classLink "HeapLine" (9 : Nat) "HeapLine$Order") ∈ lw_all := lw_g (lw_at lw_m1 25 rfl) rfl
theorem q30 : (Jvm.Cond.methodLinkNest "HeapLine" (11 : Nat) ({ cls := "HeapLine$Order", name := "<init>", desc := "()V" } : Jvm.MethodName) "HeapLine") ∈ lw_tbl := lw_at lw_m1 27 rfl
theorem q35 : (Jvm.Cond.methodLink "HeapLine" (12 : Nat) ({ cls := "IntHeapPriorityQueue", name := "<init>", desc := "(ILIntComparator;)V" } : Jvm.MethodName)) ∈ lw_all := lw_g (lw_at lw_m1 32 rfl) rfl
theorem q52 : (Jvm.Cond.fieldLink "HeapLine" (15 : Nat) "HeapLine" "heap" "LIntHeapPriorityQueue;") ∈ lw_all := lw_g (lw_at lw_m1 49 rfl) rfl
theorem q53 : (Jvm.Cond.fieldLink "HeapLine" (21 : Nat) "HeapLine" "rows" "[I") ∈ lw_all := lw_g (lw_at lw_m1 50 rfl) rfl
theorem q54 : (Jvm.Cond.fieldLink "HeapLine" (47 : Nat) "HeapLine" "size" "I") ∈ lw_all := lw_g (lw_at lw_m1 51 rfl) rfl
theorem q55 : (Jvm.Cond.laysFinal "HeapLine" "HeapLine" "heap" "LIntHeapPriorityQueue;") ∈ lw_all := lw_g (lw_at lw_m1 52 rfl) rfl
theorem q56 : (Jvm.Cond.soleField "HeapLine" "heap") ∈ lw_all := lw_g (lw_at lw_m1 53 rfl) rfl
theorem q57 : (Jvm.Cond.laysFinal "HeapLine" "HeapLine" "rows" "[I") ∈ lw_all := lw_g (lw_at lw_m1 54 rfl) rfl
theorem q58 : (Jvm.Cond.soleField "HeapLine" "rows") ∈ lw_all := lw_g (lw_at lw_m1 55 rfl) rfl
theorem q59 : (Jvm.Cond.lays "HeapLine" "HeapLine" "size" "I") ∈ lw_all := lw_g (lw_at lw_m1 56 rfl) rfl
theorem q60 : (Jvm.Cond.soleField "HeapLine" "size") ∈ lw_all := lw_g (lw_at lw_m1 57 rfl) rfl
theorem q61 : (Jvm.Cond.superclass "HeapLine" "java/lang/Object") ∈ lw_all := lw_g (lw_at lw_m1 58 rfl) rfl
theorem q63 : (Jvm.Cond.instanceMethod ({ cls := "HeapLine", name := "add", desc := "(I)Z" } : Jvm.MethodName)) ∈ lw_all := lw_g (lw_at lw_m1 60 rfl) rfl
theorem q64 : (Jvm.Cond.selects "HeapLine" ({ cls := "HeapLine", name := "add", desc := "(I)Z" } : Jvm.MethodName) ({ cls := "HeapLine", name := "add", desc := "(I)Z" } : Jvm.MethodName)) ∈ lw_all := lw_g (lw_at lw_m1 61 rfl) rfl
theorem q65 : (Jvm.Cond.code ({ cls := "HeapLine", name := "add", desc := "(I)Z" } : Jvm.MethodName) prog_1_method_2_code (2 : Nat) (Option.some Jvm.ClassFile.FieldType.boolean)) ∈ lw_all := lw_g (lw_at lw_m1 62 rfl) rfl
theorem q66 : (Jvm.Cond.methodLink "HeapLine" (25 : Nat) ({ cls := "IntHeapPriorityQueue", name := "size", desc := "()I" } : Jvm.MethodName)) ∈ lw_all := lw_g (lw_at lw_m1 63 rfl) rfl
theorem q70 : (Jvm.Cond.methodLink "HeapLine" (29 : Nat) ({ cls := "IntHeapPriorityQueue", name := "enqueue", desc := "(I)V" } : Jvm.MethodName)) ∈ lw_all := lw_g (lw_at lw_m1 67 rfl) rfl
theorem q104 : (Jvm.Cond.instanceMethod ({ cls := "HeapLine", name := "take", desc := "()I" } : Jvm.MethodName)) ∈ lw_all := lw_g (lw_at lw_m1 101 rfl) rfl
theorem q105 : (Jvm.Cond.selects "HeapLine" ({ cls := "HeapLine", name := "take", desc := "()I" } : Jvm.MethodName) ({ cls := "HeapLine", name := "take", desc := "()I" } : Jvm.MethodName)) ∈ lw_all := lw_g (lw_at lw_m1 102 rfl) rfl
theorem q106 : (Jvm.Cond.code ({ cls := "HeapLine", name := "take", desc := "()I" } : Jvm.MethodName) prog_1_method_3_code (1 : Nat) (Option.some Jvm.ClassFile.FieldType.int)) ∈ lw_all := lw_g (lw_at lw_m1 103 rfl) rfl
theorem q120 : (Jvm.Cond.methodLink "HeapLine" (37 : Nat) ({ cls := "IntHeapPriorityQueue", name := "dequeueInt", desc := "()I" } : Jvm.MethodName)) ∈ lw_all := lw_g (lw_at lw_m1 117 rfl) rfl
theorem q189 : (Jvm.Cond.instanceMethod ({ cls := "HeapLine", name := "least", desc := "()I" } : Jvm.MethodName)) ∈ lw_all := lw_g (lw_at lw_m1 186 rfl) rfl
theorem q190 : (Jvm.Cond.selects "HeapLine" ({ cls := "HeapLine", name := "least", desc := "()I" } : Jvm.MethodName) ({ cls := "HeapLine", name := "least", desc := "()I" } : Jvm.MethodName)) ∈ lw_all := lw_g (lw_at lw_m1 187 rfl) rfl
theorem q191 : (Jvm.Cond.code ({ cls := "HeapLine", name := "least", desc := "()I" } : Jvm.MethodName) prog_1_method_4_code (1 : Nat) (Option.some Jvm.ClassFile.FieldType.int)) ∈ lw_all := lw_g (lw_at lw_m1 188 rfl) rfl
theorem q192 : (Jvm.Cond.methodLink "HeapLine" (40 : Nat) ({ cls := "IntHeapPriorityQueue", name := "firstInt", desc := "()I" } : Jvm.MethodName)) ∈ lw_all := lw_g (lw_at lw_m1 189 rfl) rfl
theorem q197 : (Jvm.Cond.instanceMethod ({ cls := "HeapLine", name := "waiting", desc := "()I" } : Jvm.MethodName)) ∈ lw_all := lw_g (lw_at lw_m1 194 rfl) rfl
theorem q198 : (Jvm.Cond.selects "HeapLine" ({ cls := "HeapLine", name := "waiting", desc := "()I" } : Jvm.MethodName) ({ cls := "HeapLine", name := "waiting", desc := "()I" } : Jvm.MethodName)) ∈ lw_all := lw_g (lw_at lw_m1 195 rfl) rfl
theorem q199 : (Jvm.Cond.code ({ cls := "HeapLine", name := "waiting", desc := "()I" } : Jvm.MethodName) prog_1_method_5_code (1 : Nat) (Option.some Jvm.ClassFile.FieldType.int)) ∈ lw_all := lw_g (lw_at lw_m1 196 rfl) rfl
theorem q201 : (Jvm.Cond.instanceMethod ({ cls := "HeapLine", name := "drain", desc := "()V" } : Jvm.MethodName)) ∈ lw_all := lw_g (lw_at lw_m1 198 rfl) rfl
theorem q202 : (Jvm.Cond.selects "HeapLine" ({ cls := "HeapLine", name := "drain", desc := "()V" } : Jvm.MethodName) ({ cls := "HeapLine", name := "drain", desc := "()V" } : Jvm.MethodName)) ∈ lw_all := lw_g (lw_at lw_m1 199 rfl) rfl
theorem q203 : (Jvm.Cond.code ({ cls := "HeapLine", name := "drain", desc := "()V" } : Jvm.MethodName) prog_1_method_6_code (1 : Nat) (Option.none : Option Jvm.ClassFile.FieldType)) ∈ lw_all := lw_g (lw_at lw_m1 200 rfl) rfl
theorem q204 : (Jvm.Cond.methodLink "HeapLine" (43 : Nat) ({ cls := "IntHeapPriorityQueue", name := "clear", desc := "()V" } : Jvm.MethodName)) ∈ lw_all := lw_g (lw_at lw_m1 201 rfl) rfl
theorem q209 : (Jvm.Cond.instanceMethod ({ cls := "HeapLine", name := "ramp", desc := "(III)I" } : Jvm.MethodName)) ∈ lw_all := lw_g (lw_at lw_m1 206 rfl) rfl
theorem q210 : (Jvm.Cond.selects "HeapLine" ({ cls := "HeapLine", name := "ramp", desc := "(III)I" } : Jvm.MethodName) ({ cls := "HeapLine", name := "ramp", desc := "(III)I" } : Jvm.MethodName)) ∈ lw_all := lw_g (lw_at lw_m1 207 rfl) rfl
theorem q211 : (Jvm.Cond.code ({ cls := "HeapLine", name := "ramp", desc := "(III)I" } : Jvm.MethodName) prog_1_method_7_code (6 : Nat) (Option.some Jvm.ClassFile.FieldType.int)) ∈ lw_all := lw_g (lw_at lw_m1 208 rfl) rfl
theorem q212 : (Jvm.Cond.constant "HeapLine" (46 : Nat) (2147483647 : Int32)) ∈ lw_all := lw_g (lw_at lw_m1 209 rfl) rfl
theorem q214 : (Jvm.Cond.instanceMethod ({ cls := "HeapLine", name := "row", desc := "(I)I" } : Jvm.MethodName)) ∈ lw_all := lw_g (lw_at lw_m1 211 rfl) rfl
theorem q215 : (Jvm.Cond.selects "HeapLine" ({ cls := "HeapLine", name := "row", desc := "(I)I" } : Jvm.MethodName) ({ cls := "HeapLine", name := "row", desc := "(I)I" } : Jvm.MethodName)) ∈ lw_all := lw_g (lw_at lw_m1 212 rfl) rfl
theorem q216 : (Jvm.Cond.code ({ cls := "HeapLine", name := "row", desc := "(I)I" } : Jvm.MethodName) prog_1_method_8_code (2 : Nat) (Option.some Jvm.ClassFile.FieldType.int)) ∈ lw_all := lw_g (lw_at lw_m1 213 rfl) rfl
theorem q218 : (Jvm.Cond.instanceMethod ({ cls := "HeapLine", name := "quick", desc := "(II)I" } : Jvm.MethodName)) ∈ lw_all := lw_g (lw_at lw_m1 215 rfl) rfl
theorem q219 : (Jvm.Cond.selects "HeapLine" ({ cls := "HeapLine", name := "quick", desc := "(II)I" } : Jvm.MethodName) ({ cls := "HeapLine", name := "quick", desc := "(II)I" } : Jvm.MethodName)) ∈ lw_all := lw_g (lw_at lw_m1 216 rfl) rfl
theorem q220 : (Jvm.Cond.code ({ cls := "HeapLine", name := "quick", desc := "(II)I" } : Jvm.MethodName) prog_1_method_9_code (5 : Nat) (Option.some Jvm.ClassFile.FieldType.int)) ∈ lw_all := lw_g (lw_at lw_m1 217 rfl) rfl
theorem q221 : (Jvm.Cond.methodLink "HeapLine" (50 : Nat) ({ cls := "IntArrays", name := "quickSort", desc := "([III)V" } : Jvm.MethodName)) ∈ lw_all := lw_g (lw_at lw_m1 218 rfl) rfl
theorem q244 : (Jvm.Cond.instanceMethod ({ cls := "HeapLine", name := "merge", desc := "(II)I" } : Jvm.MethodName)) ∈ lw_all := lw_g (lw_at lw_m2 1 rfl) rfl
theorem q245 : (Jvm.Cond.selects "HeapLine" ({ cls := "HeapLine", name := "merge", desc := "(II)I" } : Jvm.MethodName) ({ cls := "HeapLine", name := "merge", desc := "(II)I" } : Jvm.MethodName)) ∈ lw_all := lw_g (lw_at lw_m2 2 rfl) rfl
theorem q246 : (Jvm.Cond.code ({ cls := "HeapLine", name := "merge", desc := "(II)I" } : Jvm.MethodName) prog_1_method_10_code (5 : Nat) (Option.some Jvm.ClassFile.FieldType.int)) ∈ lw_all := lw_g (lw_at lw_m2 3 rfl) rfl
theorem q247 : (Jvm.Cond.methodLink "HeapLine" (56 : Nat) ({ cls := "IntArrays", name := "mergeSort", desc := "([III)V" } : Jvm.MethodName)) ∈ lw_all := lw_g (lw_at lw_m2 4 rfl) rfl
theorem q270 : (Jvm.Cond.instanceMethod ({ cls := "HeapLine", name := "radix", desc := "(II)I" } : Jvm.MethodName)) ∈ lw_all := lw_g (lw_at lw_m2 27 rfl) rfl
theorem q271 : (Jvm.Cond.selects "HeapLine" ({ cls := "HeapLine", name := "radix", desc := "(II)I" } : Jvm.MethodName) ({ cls := "HeapLine", name := "radix", desc := "(II)I" } : Jvm.MethodName)) ∈ lw_all := lw_g (lw_at lw_m2 28 rfl) rfl
theorem q272 : (Jvm.Cond.code ({ cls := "HeapLine", name := "radix", desc := "(II)I" } : Jvm.MethodName) prog_1_method_11_code (5 : Nat) (Option.some Jvm.ClassFile.FieldType.int)) ∈ lw_all := lw_g (lw_at lw_m2 29 rfl) rfl
theorem q273 : (Jvm.Cond.methodLink "HeapLine" (59 : Nat) ({ cls := "IntArrays", name := "radixSort", desc := "([III)V" } : Jvm.MethodName)) ∈ lw_all := lw_g (lw_at lw_m2 30 rfl) rfl
theorem q277 : (Jvm.Cond.instanceMethod ({ cls := "HeapLine", name := "empty", desc := "()V" } : Jvm.MethodName)) ∈ lw_all := lw_g (lw_at lw_m2 34 rfl) rfl
theorem q278 : (Jvm.Cond.selects "HeapLine" ({ cls := "HeapLine", name := "empty", desc := "()V" } : Jvm.MethodName) ({ cls := "HeapLine", name := "empty", desc := "()V" } : Jvm.MethodName)) ∈ lw_all := lw_g (lw_at lw_m2 35 rfl) rfl
theorem q279 : (Jvm.Cond.code ({ cls := "HeapLine", name := "empty", desc := "()V" } : Jvm.MethodName) prog_1_method_12_code (1 : Nat) (Option.none : Option Jvm.ClassFile.FieldType)) ∈ lw_all := lw_g (lw_at lw_m2 36 rfl) rfl
theorem q355 : (Jvm.Cond.castable "HeapLine" "java/lang/Object") ∈ lw_tbl := lw_at lw_m2 112 rfl
theorem in_X0 : ∀ w ∈ wsX00, w ∈ lw_all := lw_in wsX00 [55, 57, 59] (by decide +kernel) (by decide +kernel)
/-! IntHeapPriorityQueue -/
set_option maxRecDepth 100000
def RX1 : String := "IntHeapPriorityQueue"
def TX1 : u_T := fun k => match k with
  | 0 => ("IntHeapPriorityQueue", "heap", "[I", false)
  | 1 => ("IntHeapPriorityQueue", "size", "I", false)
  | _ => ("IntHeapPriorityQueue", "c", "LIntComparator;", false)
def tyX1 : Nat → FieldType := fun k => match k with
  | 0 => .array .int
  | 1 => .int
  | _ => .object "IntComparator"
abbrev wsX10 : List Cond := u_ws RX1 TX1 3
theorem nmX1 : ∀ a, a < 3 → ∀ b, b < 3 → a ≠ b → (TX1 a).2.1 ≠ (TX1 b).2.1 := by decide +kernel
theorem tyX1_ok : ∀ k, k < 3 → parseFieldDescriptor (TX1 k).2.2.1 = some (tyX1 k) := by decide +kernel
abbrev cX1_init : ByteArray := prog_7_method_1_code
def yX1_init : MethodName := ⟨RX1, "<init>", "(ILIntComparator;)V"⟩
def dkwX1_init_1 : List UInt8 := [181, 0, 18, 177]
abbrev dktX1_init_1 : List UInt8 := dkwX1_init_1 ++ []
def dkwX1_init_0 : List UInt8 := [42, 183, 0, 1, 42, 178, 0, 7, 181, 0, 13, 27, 158, 0, 10, 42, 27, 188, 10, 181, 0, 13, 42, 44]
abbrev dktX1_init_0 : List UInt8 := dkwX1_init_0 ++ dktX1_init_1
theorem dksX1_init_0 : cX1_init.data.toList.drop 0 = dktX1_init_0 := by decide +kernel
theorem dksX1_init_1 : cX1_init.data.toList.drop 24 = dktX1_init_1 := dk_seg dksX1_init_0 24 rfl rfl
theorem dX1_init_0 : decode cX1_init 0 = .ok (.aload_n 0, 1) := dk_42 (dk_at dksX1_init_0 0 rfl rfl)
theorem dX1_init_1 : decode cX1_init 1 = .ok (.invokespecial 1, 3) := dk_183 0 1 (dk_at dksX1_init_0 1 rfl rfl)
theorem dX1_init_4 : decode cX1_init 4 = .ok (.aload_n 0, 1) := dk_42 (dk_at dksX1_init_0 4 rfl rfl)
theorem dX1_init_5 : decode cX1_init 5 = .ok (.getstatic 7, 3) := dk_178 0 7 (dk_at dksX1_init_0 5 rfl rfl)
theorem dX1_init_8 : decode cX1_init 8 = .ok (.putfield 13, 3) := dk_181 0 13 (dk_at dksX1_init_0 8 rfl rfl)
theorem dX1_init_11 : decode cX1_init 11 = .ok (.iload_n 1, 1) := dk_27 (dk_at dksX1_init_0 11 rfl rfl)
theorem dX1_init_12 : decode cX1_init 12 = .ok (.ifCond .le 10, 3) := dk_158 0 10 (dk_at dksX1_init_0 12 rfl rfl)
theorem dX1_init_15 : decode cX1_init 15 = .ok (.aload_n 0, 1) := dk_42 (dk_at dksX1_init_0 15 rfl rfl)
theorem dX1_init_16 : decode cX1_init 16 = .ok (.iload_n 1, 1) := dk_27 (dk_at dksX1_init_0 16 rfl rfl)
theorem dX1_init_17 : decode cX1_init 17 = .ok (.newarray .int, 2) := dk_188_10 (dk_at dksX1_init_0 17 rfl rfl)
theorem dX1_init_19 : decode cX1_init 19 = .ok (.putfield 13, 3) := dk_181 0 13 (dk_at dksX1_init_0 19 rfl rfl)
theorem dX1_init_22 : decode cX1_init 22 = .ok (.aload_n 0, 1) := dk_42 (dk_at dksX1_init_0 22 rfl rfl)
theorem dX1_init_23 : decode cX1_init 23 = .ok (.aload_n 2, 1) := dk_44 (dk_at dksX1_init_0 23 rfl rfl)
theorem dX1_init_24 : decode cX1_init 24 = .ok (.putfield 18, 3) := dk_181 0 18 (dk_at dksX1_init_1 0 rfl rfl)
theorem dX1_init_27 : decode cX1_init 27 = .ok (.return_, 1) := dk_177 (dk_at dksX1_init_1 3 rfl rfl)
abbrev cX1_size : ByteArray := prog_7_method_5_code
def yX1_size : MethodName := ⟨RX1, "size", "()I"⟩
theorem dX1_size_0 : decode cX1_size 0 = .ok (.aload_n 0, 1) := by decide +kernel
theorem dX1_size_1 : decode cX1_size 1 = .ok (.getfield 22, 3) := by decide +kernel
theorem dX1_size_4 : decode cX1_size 4 = .ok (.ireturn, 1) := by decide +kernel
abbrev cX1_enqueue : ByteArray := prog_7_method_2_code
def yX1_enqueue : MethodName := ⟨RX1, "enqueue", "(I)V"⟩
def dkwX1_enqueue_2 : List UInt8 := [180, 0, 13, 42, 180, 0, 22, 42, 180, 0, 22, 4, 100, 42, 180, 0, 18, 184, 0, 30, 87, 177]
abbrev dktX1_enqueue_2 : List UInt8 := dkwX1_enqueue_2 ++ []
def dkwX1_enqueue_1 : List UInt8 := [184, 0, 26, 181, 0, 13, 42, 180, 0, 13, 42, 89, 180, 0, 22, 90, 4, 96, 181, 0, 22, 27, 79, 42]
abbrev dktX1_enqueue_1 : List UInt8 := dkwX1_enqueue_1 ++ dktX1_enqueue_2
def dkwX1_enqueue_0 : List UInt8 := [42, 180, 0, 22, 42, 180, 0, 13, 190, 160, 0, 20, 42, 42, 180, 0, 13, 42, 180, 0, 22, 4, 96]
abbrev dktX1_enqueue_0 : List UInt8 := dkwX1_enqueue_0 ++ dktX1_enqueue_1
theorem dksX1_enqueue_0 : cX1_enqueue.data.toList.drop 0 = dktX1_enqueue_0 := by decide +kernel
theorem dksX1_enqueue_1 : cX1_enqueue.data.toList.drop 23 = dktX1_enqueue_1 := dk_seg dksX1_enqueue_0 23 rfl rfl
theorem dksX1_enqueue_2 : cX1_enqueue.data.toList.drop 47 = dktX1_enqueue_2 := dk_seg dksX1_enqueue_1 24 rfl rfl
theorem dX1_enqueue_0 : decode cX1_enqueue 0 = .ok (.aload_n 0, 1) := dk_42 (dk_at dksX1_enqueue_0 0 rfl rfl)
theorem dX1_enqueue_1 : decode cX1_enqueue 1 = .ok (.getfield 22, 3) := dk_180 0 22 (dk_at dksX1_enqueue_0 1 rfl rfl)
theorem dX1_enqueue_4 : decode cX1_enqueue 4 = .ok (.aload_n 0, 1) := dk_42 (dk_at dksX1_enqueue_0 4 rfl rfl)
theorem dX1_enqueue_5 : decode cX1_enqueue 5 = .ok (.getfield 13, 3) := dk_180 0 13 (dk_at dksX1_enqueue_0 5 rfl rfl)
theorem dX1_enqueue_8 : decode cX1_enqueue 8 = .ok (.arraylength, 1) := dk_190 (dk_at dksX1_enqueue_0 8 rfl rfl)
theorem dX1_enqueue_9 : decode cX1_enqueue 9 = .ok (.if_icmp .ne 20, 3) := dk_160 0 20 (dk_at dksX1_enqueue_0 9 rfl rfl)
theorem dX1_enqueue_12 : decode cX1_enqueue 12 = .ok (.aload_n 0, 1) := dk_42 (dk_at dksX1_enqueue_0 12 rfl rfl)
theorem dX1_enqueue_13 : decode cX1_enqueue 13 = .ok (.aload_n 0, 1) := dk_42 (dk_at dksX1_enqueue_0 13 rfl rfl)
theorem dX1_enqueue_14 : decode cX1_enqueue 14 = .ok (.getfield 13, 3) := dk_180 0 13 (dk_at dksX1_enqueue_0 14 rfl rfl)
theorem dX1_enqueue_17 : decode cX1_enqueue 17 = .ok (.aload_n 0, 1) := dk_42 (dk_at dksX1_enqueue_0 17 rfl rfl)
theorem dX1_enqueue_18 : decode cX1_enqueue 18 = .ok (.getfield 22, 3) := dk_180 0 22 (dk_at dksX1_enqueue_0 18 rfl rfl)
theorem dX1_enqueue_21 : decode cX1_enqueue 21 = .ok (.iconst 1, 1) := dk_4 (dk_at dksX1_enqueue_0 21 rfl rfl)
theorem dX1_enqueue_22 : decode cX1_enqueue 22 = .ok (.iadd, 1) := dk_96 (dk_at dksX1_enqueue_0 22 rfl rfl)
theorem dX1_enqueue_23 : decode cX1_enqueue 23 = .ok (.invokestatic 26, 3) := dk_184 0 26 (dk_at dksX1_enqueue_1 0 rfl rfl)
theorem dX1_enqueue_26 : decode cX1_enqueue 26 = .ok (.putfield 13, 3) := dk_181 0 13 (dk_at dksX1_enqueue_1 3 rfl rfl)
theorem dX1_enqueue_29 : decode cX1_enqueue 29 = .ok (.aload_n 0, 1) := dk_42 (dk_at dksX1_enqueue_1 6 rfl rfl)
theorem dX1_enqueue_30 : decode cX1_enqueue 30 = .ok (.getfield 13, 3) := dk_180 0 13 (dk_at dksX1_enqueue_1 7 rfl rfl)
theorem dX1_enqueue_33 : decode cX1_enqueue 33 = .ok (.aload_n 0, 1) := dk_42 (dk_at dksX1_enqueue_1 10 rfl rfl)
theorem dX1_enqueue_34 : decode cX1_enqueue 34 = .ok (.dup, 1) := dk_89 (dk_at dksX1_enqueue_1 11 rfl rfl)
theorem dX1_enqueue_35 : decode cX1_enqueue 35 = .ok (.getfield 22, 3) := dk_180 0 22 (dk_at dksX1_enqueue_1 12 rfl rfl)
theorem dX1_enqueue_38 : decode cX1_enqueue 38 = .ok (.dup_x1, 1) := dk_90 (dk_at dksX1_enqueue_1 15 rfl rfl)
theorem dX1_enqueue_39 : decode cX1_enqueue 39 = .ok (.iconst 1, 1) := dk_4 (dk_at dksX1_enqueue_1 16 rfl rfl)
theorem dX1_enqueue_40 : decode cX1_enqueue 40 = .ok (.iadd, 1) := dk_96 (dk_at dksX1_enqueue_1 17 rfl rfl)
theorem dX1_enqueue_41 : decode cX1_enqueue 41 = .ok (.putfield 22, 3) := dk_181 0 22 (dk_at dksX1_enqueue_1 18 rfl rfl)
theorem dX1_enqueue_44 : decode cX1_enqueue 44 = .ok (.iload_n 1, 1) := dk_27 (dk_at dksX1_enqueue_1 21 rfl rfl)
theorem dX1_enqueue_45 : decode cX1_enqueue 45 = .ok (.iastore, 1) := dk_79 (dk_at dksX1_enqueue_1 22 rfl rfl)
theorem dX1_enqueue_46 : decode cX1_enqueue 46 = .ok (.aload_n 0, 1) := dk_42 (dk_at dksX1_enqueue_1 23 rfl rfl)
theorem dX1_enqueue_47 : decode cX1_enqueue 47 = .ok (.getfield 13, 3) := dk_180 0 13 (dk_at dksX1_enqueue_2 0 rfl rfl)
theorem dX1_enqueue_50 : decode cX1_enqueue 50 = .ok (.aload_n 0, 1) := dk_42 (dk_at dksX1_enqueue_2 3 rfl rfl)
theorem dX1_enqueue_51 : decode cX1_enqueue 51 = .ok (.getfield 22, 3) := dk_180 0 22 (dk_at dksX1_enqueue_2 4 rfl rfl)
theorem dX1_enqueue_54 : decode cX1_enqueue 54 = .ok (.aload_n 0, 1) := dk_42 (dk_at dksX1_enqueue_2 7 rfl rfl)
theorem dX1_enqueue_55 : decode cX1_enqueue 55 = .ok (.getfield 22, 3) := dk_180 0 22 (dk_at dksX1_enqueue_2 8 rfl rfl)
theorem dX1_enqueue_58 : decode cX1_enqueue 58 = .ok (.iconst 1, 1) := dk_4 (dk_at dksX1_enqueue_2 11 rfl rfl)
theorem dX1_enqueue_59 : decode cX1_enqueue 59 = .ok (.isub, 1) := dk_100 (dk_at dksX1_enqueue_2 12 rfl rfl)
theorem dX1_enqueue_60 : decode cX1_enqueue 60 = .ok (.aload_n 0, 1) := dk_42 (dk_at dksX1_enqueue_2 13 rfl rfl)
theorem dX1_enqueue_61 : decode cX1_enqueue 61 = .ok (.getfield 18, 3) := dk_180 0 18 (dk_at dksX1_enqueue_2 14 rfl rfl)
theorem dX1_enqueue_64 : decode cX1_enqueue 64 = .ok (.invokestatic 30, 3) := dk_184 0 30 (dk_at dksX1_enqueue_2 17 rfl rfl)
theorem dX1_enqueue_67 : decode cX1_enqueue 67 = .ok (.pop, 1) := dk_87 (dk_at dksX1_enqueue_2 20 rfl rfl)
theorem dX1_enqueue_68 : decode cX1_enqueue 68 = .ok (.return_, 1) := dk_177 (dk_at dksX1_enqueue_2 21 rfl rfl)
abbrev cX1_dequeueInt : ByteArray := prog_7_method_3_code
def yX1_dequeueInt : MethodName := ⟨RX1, "dequeueInt", "()I"⟩
def dkwX1_dequeueInt_3 : List UInt8 := [172]
abbrev dktX1_dequeueInt_3 : List UInt8 := dkwX1_dequeueInt_3 ++ []
def dkwX1_dequeueInt_2 : List UInt8 := [180, 0, 22, 153, 0, 20, 42, 180, 0, 13, 42, 180, 0, 22, 3, 42, 180, 0, 18, 184, 0, 39, 87, 27]
abbrev dktX1_dequeueInt_2 : List UInt8 := dkwX1_dequeueInt_2 ++ dktX1_dequeueInt_3
def dkwX1_dequeueInt_1 : List UInt8 := [180, 0, 13, 3, 42, 180, 0, 13, 42, 89, 180, 0, 22, 4, 100, 90, 181, 0, 22, 46, 79, 42]
abbrev dktX1_dequeueInt_1 : List UInt8 := dkwX1_dequeueInt_1 ++ dktX1_dequeueInt_2
def dkwX1_dequeueInt_0 : List UInt8 := [42, 180, 0, 22, 154, 0, 11, 187, 0, 36, 89, 183, 0, 38, 191, 42, 180, 0, 13, 3, 46, 60, 42]
abbrev dktX1_dequeueInt_0 : List UInt8 := dkwX1_dequeueInt_0 ++ dktX1_dequeueInt_1
theorem dksX1_dequeueInt_0 : cX1_dequeueInt.data.toList.drop 0 = dktX1_dequeueInt_0 := by decide +kernel
theorem dksX1_dequeueInt_1 : cX1_dequeueInt.data.toList.drop 23 = dktX1_dequeueInt_1 := dk_seg dksX1_dequeueInt_0 23 rfl rfl
theorem dksX1_dequeueInt_2 : cX1_dequeueInt.data.toList.drop 45 = dktX1_dequeueInt_2 := dk_seg dksX1_dequeueInt_1 22 rfl rfl
theorem dksX1_dequeueInt_3 : cX1_dequeueInt.data.toList.drop 69 = dktX1_dequeueInt_3 := dk_seg dksX1_dequeueInt_2 24 rfl rfl
theorem dX1_dequeueInt_0 : decode cX1_dequeueInt 0 = .ok (.aload_n 0, 1) := dk_42 (dk_at dksX1_dequeueInt_0 0 rfl rfl)
theorem dX1_dequeueInt_1 : decode cX1_dequeueInt 1 = .ok (.getfield 22, 3) := dk_180 0 22 (dk_at dksX1_dequeueInt_0 1 rfl rfl)
theorem dX1_dequeueInt_4 : decode cX1_dequeueInt 4 = .ok (.ifCond .ne 11, 3) := dk_154 0 11 (dk_at dksX1_dequeueInt_0 4 rfl rfl)
theorem dX1_dequeueInt_7 : decode cX1_dequeueInt 7 = .ok (.new 36, 3) := dk_187 0 36 (dk_at dksX1_dequeueInt_0 7 rfl rfl)
theorem dX1_dequeueInt_10 : decode cX1_dequeueInt 10 = .ok (.dup, 1) := dk_89 (dk_at dksX1_dequeueInt_0 10 rfl rfl)
theorem dX1_dequeueInt_11 : decode cX1_dequeueInt 11 = .ok (.invokespecial 38, 3) := dk_183 0 38 (dk_at dksX1_dequeueInt_0 11 rfl rfl)
theorem dX1_dequeueInt_14 : decode cX1_dequeueInt 14 = .ok (.athrow, 1) := dk_191 (dk_at dksX1_dequeueInt_0 14 rfl rfl)
theorem dX1_dequeueInt_15 : decode cX1_dequeueInt 15 = .ok (.aload_n 0, 1) := dk_42 (dk_at dksX1_dequeueInt_0 15 rfl rfl)
theorem dX1_dequeueInt_16 : decode cX1_dequeueInt 16 = .ok (.getfield 13, 3) := dk_180 0 13 (dk_at dksX1_dequeueInt_0 16 rfl rfl)
theorem dX1_dequeueInt_19 : decode cX1_dequeueInt 19 = .ok (.iconst 0, 1) := dk_3 (dk_at dksX1_dequeueInt_0 19 rfl rfl)
theorem dX1_dequeueInt_20 : decode cX1_dequeueInt 20 = .ok (.iaload, 1) := dk_46 (dk_at dksX1_dequeueInt_0 20 rfl rfl)
theorem dX1_dequeueInt_21 : decode cX1_dequeueInt 21 = .ok (.istore_n 1, 1) := dk_60 (dk_at dksX1_dequeueInt_0 21 rfl rfl)
theorem dX1_dequeueInt_22 : decode cX1_dequeueInt 22 = .ok (.aload_n 0, 1) := dk_42 (dk_at dksX1_dequeueInt_0 22 rfl rfl)
theorem dX1_dequeueInt_23 : decode cX1_dequeueInt 23 = .ok (.getfield 13, 3) := dk_180 0 13 (dk_at dksX1_dequeueInt_1 0 rfl rfl)
theorem dX1_dequeueInt_26 : decode cX1_dequeueInt 26 = .ok (.iconst 0, 1) := dk_3 (dk_at dksX1_dequeueInt_1 3 rfl rfl)
theorem dX1_dequeueInt_27 : decode cX1_dequeueInt 27 = .ok (.aload_n 0, 1) := dk_42 (dk_at dksX1_dequeueInt_1 4 rfl rfl)
theorem dX1_dequeueInt_28 : decode cX1_dequeueInt 28 = .ok (.getfield 13, 3) := dk_180 0 13 (dk_at dksX1_dequeueInt_1 5 rfl rfl)
theorem dX1_dequeueInt_31 : decode cX1_dequeueInt 31 = .ok (.aload_n 0, 1) := dk_42 (dk_at dksX1_dequeueInt_1 8 rfl rfl)
theorem dX1_dequeueInt_32 : decode cX1_dequeueInt 32 = .ok (.dup, 1) := dk_89 (dk_at dksX1_dequeueInt_1 9 rfl rfl)
theorem dX1_dequeueInt_33 : decode cX1_dequeueInt 33 = .ok (.getfield 22, 3) := dk_180 0 22 (dk_at dksX1_dequeueInt_1 10 rfl rfl)
theorem dX1_dequeueInt_36 : decode cX1_dequeueInt 36 = .ok (.iconst 1, 1) := dk_4 (dk_at dksX1_dequeueInt_1 13 rfl rfl)
theorem dX1_dequeueInt_37 : decode cX1_dequeueInt 37 = .ok (.isub, 1) := dk_100 (dk_at dksX1_dequeueInt_1 14 rfl rfl)
theorem dX1_dequeueInt_38 : decode cX1_dequeueInt 38 = .ok (.dup_x1, 1) := dk_90 (dk_at dksX1_dequeueInt_1 15 rfl rfl)
theorem dX1_dequeueInt_39 : decode cX1_dequeueInt 39 = .ok (.putfield 22, 3) := dk_181 0 22 (dk_at dksX1_dequeueInt_1 16 rfl rfl)
theorem dX1_dequeueInt_42 : decode cX1_dequeueInt 42 = .ok (.iaload, 1) := dk_46 (dk_at dksX1_dequeueInt_1 19 rfl rfl)
theorem dX1_dequeueInt_43 : decode cX1_dequeueInt 43 = .ok (.iastore, 1) := dk_79 (dk_at dksX1_dequeueInt_1 20 rfl rfl)
theorem dX1_dequeueInt_44 : decode cX1_dequeueInt 44 = .ok (.aload_n 0, 1) := dk_42 (dk_at dksX1_dequeueInt_1 21 rfl rfl)
theorem dX1_dequeueInt_45 : decode cX1_dequeueInt 45 = .ok (.getfield 22, 3) := dk_180 0 22 (dk_at dksX1_dequeueInt_2 0 rfl rfl)
theorem dX1_dequeueInt_48 : decode cX1_dequeueInt 48 = .ok (.ifCond .eq 20, 3) := dk_153 0 20 (dk_at dksX1_dequeueInt_2 3 rfl rfl)
theorem dX1_dequeueInt_51 : decode cX1_dequeueInt 51 = .ok (.aload_n 0, 1) := dk_42 (dk_at dksX1_dequeueInt_2 6 rfl rfl)
theorem dX1_dequeueInt_52 : decode cX1_dequeueInt 52 = .ok (.getfield 13, 3) := dk_180 0 13 (dk_at dksX1_dequeueInt_2 7 rfl rfl)
theorem dX1_dequeueInt_55 : decode cX1_dequeueInt 55 = .ok (.aload_n 0, 1) := dk_42 (dk_at dksX1_dequeueInt_2 10 rfl rfl)
theorem dX1_dequeueInt_56 : decode cX1_dequeueInt 56 = .ok (.getfield 22, 3) := dk_180 0 22 (dk_at dksX1_dequeueInt_2 11 rfl rfl)
theorem dX1_dequeueInt_59 : decode cX1_dequeueInt 59 = .ok (.iconst 0, 1) := dk_3 (dk_at dksX1_dequeueInt_2 14 rfl rfl)
theorem dX1_dequeueInt_60 : decode cX1_dequeueInt 60 = .ok (.aload_n 0, 1) := dk_42 (dk_at dksX1_dequeueInt_2 15 rfl rfl)
theorem dX1_dequeueInt_61 : decode cX1_dequeueInt 61 = .ok (.getfield 18, 3) := dk_180 0 18 (dk_at dksX1_dequeueInt_2 16 rfl rfl)
theorem dX1_dequeueInt_64 : decode cX1_dequeueInt 64 = .ok (.invokestatic 39, 3) := dk_184 0 39 (dk_at dksX1_dequeueInt_2 19 rfl rfl)
theorem dX1_dequeueInt_67 : decode cX1_dequeueInt 67 = .ok (.pop, 1) := dk_87 (dk_at dksX1_dequeueInt_2 22 rfl rfl)
theorem dX1_dequeueInt_68 : decode cX1_dequeueInt 68 = .ok (.iload_n 1, 1) := dk_27 (dk_at dksX1_dequeueInt_2 23 rfl rfl)
theorem dX1_dequeueInt_69 : decode cX1_dequeueInt 69 = .ok (.ireturn, 1) := dk_172 (dk_at dksX1_dequeueInt_3 0 rfl rfl)
abbrev cX1_firstInt : ByteArray := prog_7_method_4_code
def yX1_firstInt : MethodName := ⟨RX1, "firstInt", "()I"⟩
def dkwX1_firstInt_0 : List UInt8 := [42, 180, 0, 22, 154, 0, 11, 187, 0, 36, 89, 183, 0, 38, 191, 42, 180, 0, 13, 3, 46, 172]
abbrev dktX1_firstInt_0 : List UInt8 := dkwX1_firstInt_0 ++ []
theorem dksX1_firstInt_0 : cX1_firstInt.data.toList.drop 0 = dktX1_firstInt_0 := by decide +kernel
theorem dX1_firstInt_0 : decode cX1_firstInt 0 = .ok (.aload_n 0, 1) := dk_42 (dk_at dksX1_firstInt_0 0 rfl rfl)
theorem dX1_firstInt_1 : decode cX1_firstInt 1 = .ok (.getfield 22, 3) := dk_180 0 22 (dk_at dksX1_firstInt_0 1 rfl rfl)
theorem dX1_firstInt_4 : decode cX1_firstInt 4 = .ok (.ifCond .ne 11, 3) := dk_154 0 11 (dk_at dksX1_firstInt_0 4 rfl rfl)
theorem dX1_firstInt_7 : decode cX1_firstInt 7 = .ok (.new 36, 3) := dk_187 0 36 (dk_at dksX1_firstInt_0 7 rfl rfl)
theorem dX1_firstInt_10 : decode cX1_firstInt 10 = .ok (.dup, 1) := dk_89 (dk_at dksX1_firstInt_0 10 rfl rfl)
theorem dX1_firstInt_11 : decode cX1_firstInt 11 = .ok (.invokespecial 38, 3) := dk_183 0 38 (dk_at dksX1_firstInt_0 11 rfl rfl)
theorem dX1_firstInt_14 : decode cX1_firstInt 14 = .ok (.athrow, 1) := dk_191 (dk_at dksX1_firstInt_0 14 rfl rfl)
theorem dX1_firstInt_15 : decode cX1_firstInt 15 = .ok (.aload_n 0, 1) := dk_42 (dk_at dksX1_firstInt_0 15 rfl rfl)
theorem dX1_firstInt_16 : decode cX1_firstInt 16 = .ok (.getfield 13, 3) := dk_180 0 13 (dk_at dksX1_firstInt_0 16 rfl rfl)
theorem dX1_firstInt_19 : decode cX1_firstInt 19 = .ok (.iconst 0, 1) := dk_3 (dk_at dksX1_firstInt_0 19 rfl rfl)
theorem dX1_firstInt_20 : decode cX1_firstInt 20 = .ok (.iaload, 1) := dk_46 (dk_at dksX1_firstInt_0 20 rfl rfl)
theorem dX1_firstInt_21 : decode cX1_firstInt 21 = .ok (.ireturn, 1) := dk_172 (dk_at dksX1_firstInt_0 21 rfl rfl)
abbrev cX1_clear : ByteArray := prog_7_method_6_code
def yX1_clear : MethodName := ⟨RX1, "clear", "()V"⟩
def dkwX1_clear_0 : List UInt8 := [42, 3, 181, 0, 22, 177]
abbrev dktX1_clear_0 : List UInt8 := dkwX1_clear_0 ++ []
theorem dksX1_clear_0 : cX1_clear.data.toList.drop 0 = dktX1_clear_0 := by decide +kernel
theorem dX1_clear_0 : decode cX1_clear 0 = .ok (.aload_n 0, 1) := dk_42 (dk_at dksX1_clear_0 0 rfl rfl)
theorem dX1_clear_1 : decode cX1_clear 1 = .ok (.iconst 0, 1) := dk_3 (dk_at dksX1_clear_0 1 rfl rfl)
theorem dX1_clear_2 : decode cX1_clear 2 = .ok (.putfield 22, 3) := dk_181 0 22 (dk_at dksX1_clear_0 2 rfl rfl)
theorem dX1_clear_5 : decode cX1_clear 5 = .ok (.return_, 1) := dk_177 (dk_at dksX1_clear_0 5 rfl rfl)
theorem q5 : (Jvm.Cond.initialized "IntHeapPriorityQueue") ∈ lw_all := lw_g (lw_at lw_m1 2 rfl) rfl
theorem q27 : (Jvm.Cond.instantiable "IntHeapPriorityQueue" (3 : Nat)) ∈ lw_all := lw_g (lw_at lw_m1 24 rfl) rfl
theorem q36 : (Jvm.Cond.instanceMethod ({ cls := "IntHeapPriorityQueue", name := "<init>", desc := "(ILIntComparator;)V" } : Jvm.MethodName)) ∈ lw_all := lw_g (lw_at lw_m1 33 rfl) rfl
theorem q37 : (Jvm.Cond.code ({ cls := "IntHeapPriorityQueue", name := "<init>", desc := "(ILIntComparator;)V" } : Jvm.MethodName) prog_7_method_1_code (3 : Nat) (Option.none : Option Jvm.ClassFile.FieldType)) ∈ lw_all := lw_g (lw_at lw_m1 34 rfl) rfl
theorem q38 : (Jvm.Cond.methodLink "IntHeapPriorityQueue" (1 : Nat) ({ cls := "java/lang/Object", name := "<init>", desc := "()V" } : Jvm.MethodName)) ∈ lw_all := lw_g (lw_at lw_m1 35 rfl) rfl
theorem q39 : (Jvm.Cond.fieldLink "IntHeapPriorityQueue" (7 : Nat) "IntArrays" "EMPTY_ARRAY" "[I") ∈ lw_all := lw_g (lw_at lw_m1 36 rfl) rfl
theorem q41 : (Jvm.Cond.fieldLink "IntHeapPriorityQueue" (13 : Nat) "IntHeapPriorityQueue" "heap" "[I") ∈ lw_all := lw_g (lw_at lw_m1 38 rfl) rfl
theorem q42 : (Jvm.Cond.fieldLink "IntHeapPriorityQueue" (22 : Nat) "IntHeapPriorityQueue" "size" "I") ∈ lw_all := lw_g (lw_at lw_m1 39 rfl) rfl
theorem q43 : (Jvm.Cond.fieldLink "IntHeapPriorityQueue" (18 : Nat) "IntHeapPriorityQueue" "c" "LIntComparator;") ∈ lw_all := lw_g (lw_at lw_m1 40 rfl) rfl
theorem q44 : (Jvm.Cond.lays "IntHeapPriorityQueue" "IntHeapPriorityQueue" "heap" "[I") ∈ lw_all := lw_g (lw_at lw_m1 41 rfl) rfl
theorem q45 : (Jvm.Cond.soleField "IntHeapPriorityQueue" "heap") ∈ lw_all := lw_g (lw_at lw_m1 42 rfl) rfl
theorem q46 : (Jvm.Cond.lays "IntHeapPriorityQueue" "IntHeapPriorityQueue" "size" "I") ∈ lw_all := lw_g (lw_at lw_m1 43 rfl) rfl
theorem q47 : (Jvm.Cond.soleField "IntHeapPriorityQueue" "size") ∈ lw_all := lw_g (lw_at lw_m1 44 rfl) rfl
theorem q48 : (Jvm.Cond.lays "IntHeapPriorityQueue" "IntHeapPriorityQueue" "c" "LIntComparator;") ∈ lw_all := lw_g (lw_at lw_m1 45 rfl) rfl
theorem q49 : (Jvm.Cond.soleField "IntHeapPriorityQueue" "c") ∈ lw_all := lw_g (lw_at lw_m1 46 rfl) rfl
theorem q50 : (Jvm.Cond.superclass "IntHeapPriorityQueue" "java/lang/Object") ∈ lw_all := lw_g (lw_at lw_m1 47 rfl) rfl
theorem q67 : (Jvm.Cond.instanceMethod ({ cls := "IntHeapPriorityQueue", name := "size", desc := "()I" } : Jvm.MethodName)) ∈ lw_all := lw_g (lw_at lw_m1 64 rfl) rfl
theorem q68 : (Jvm.Cond.selects "IntHeapPriorityQueue" ({ cls := "IntHeapPriorityQueue", name := "size", desc := "()I" } : Jvm.MethodName) ({ cls := "IntHeapPriorityQueue", name := "size", desc := "()I" } : Jvm.MethodName)) ∈ lw_all := lw_g (lw_at lw_m1 65 rfl) rfl
theorem q69 : (Jvm.Cond.code ({ cls := "IntHeapPriorityQueue", name := "size", desc := "()I" } : Jvm.MethodName) prog_7_method_5_code (1 : Nat) (Option.some Jvm.ClassFile.FieldType.int)) ∈ lw_all := lw_g (lw_at lw_m1 66 rfl) rfl
theorem q71 : (Jvm.Cond.instanceMethod ({ cls := "IntHeapPriorityQueue", name := "enqueue", desc := "(I)V" } : Jvm.MethodName)) ∈ lw_all := lw_g (lw_at lw_m1 68 rfl) rfl
theorem q72 : (Jvm.Cond.selects "IntHeapPriorityQueue" ({ cls := "IntHeapPriorityQueue", name := "enqueue", desc := "(I)V" } : Jvm.MethodName) ({ cls := "IntHeapPriorityQueue", name := "enqueue", desc := "(I)V" } : Jvm.MethodName)) ∈ lw_all := lw_g (lw_at lw_m1 69 rfl) rfl
theorem q73 : (Jvm.Cond.code ({ cls := "IntHeapPriorityQueue", name := "enqueue", desc := "(I)V" } : Jvm.MethodName) prog_7_method_2_code (2 : Nat) (Option.none : Option Jvm.ClassFile.FieldType)) ∈ lw_all := lw_g (lw_at lw_m1 70 rfl) rfl
theorem q74 : (Jvm.Cond.methodLink "IntHeapPriorityQueue" (26 : Nat) ({ cls := "IntArrays", name := "grow", desc := "([II)[I" } : Jvm.MethodName)) ∈ lw_all := lw_g (lw_at lw_m1 71 rfl) rfl
theorem q90 : (Jvm.Cond.methodLink "IntHeapPriorityQueue" (30 : Nat) ({ cls := "IntHeaps", name := "upHeap", desc := "([IIILIntComparator;)I" } : Jvm.MethodName)) ∈ lw_all := lw_g (lw_at lw_m1 87 rfl) rfl
theorem q108 : (Jvm.Cond.unhidden "IntHeapPriorityQueue" "isEmpty" "()Z") ∈ lw_tbl := lw_at lw_m1 105 rfl
theorem q116 : (Jvm.Cond.castable "IntHeapPriorityQueue" "OwnPriorityQueue") ∈ lw_tbl := lw_at lw_m1 113 rfl
theorem q117 : (Jvm.Cond.selects "IntHeapPriorityQueue" ({ cls := "OwnPriorityQueue", name := "size", desc := "()I" } : Jvm.MethodName) ({ cls := "IntHeapPriorityQueue", name := "size", desc := "()I" } : Jvm.MethodName)) ∈ lw_all := lw_g (lw_at lw_m1 114 rfl) rfl
theorem q118 : (Jvm.Cond.unhidden "IntHeapPriorityQueue" "size" "()I") ∈ lw_tbl := lw_at lw_m1 115 rfl
theorem q119 : (Jvm.Cond.publicMethod ({ cls := "IntHeapPriorityQueue", name := "size", desc := "()I" } : Jvm.MethodName)) ∈ lw_tbl := lw_at lw_m1 116 rfl
theorem q121 : (Jvm.Cond.instanceMethod ({ cls := "IntHeapPriorityQueue", name := "dequeueInt", desc := "()I" } : Jvm.MethodName)) ∈ lw_all := lw_g (lw_at lw_m1 118 rfl) rfl
theorem q122 : (Jvm.Cond.selects "IntHeapPriorityQueue" ({ cls := "IntHeapPriorityQueue", name := "dequeueInt", desc := "()I" } : Jvm.MethodName) ({ cls := "IntHeapPriorityQueue", name := "dequeueInt", desc := "()I" } : Jvm.MethodName)) ∈ lw_all := lw_g (lw_at lw_m1 119 rfl) rfl
theorem q123 : (Jvm.Cond.code ({ cls := "IntHeapPriorityQueue", name := "dequeueInt", desc := "()I" } : Jvm.MethodName) prog_7_method_3_code (2 : Nat) (Option.some Jvm.ClassFile.FieldType.int)) ∈ lw_all := lw_g (lw_at lw_m1 120 rfl) rfl
theorem q124 : (Jvm.Cond.classLink "IntHeapPriorityQueue" (36 : Nat) "java/util/NoSuchElementException") ∈ lw_all := lw_g (lw_at lw_m1 121 rfl) rfl
theorem q163 : (Jvm.Cond.methodLink "IntHeapPriorityQueue" (38 : Nat) ({ cls := "java/util/NoSuchElementException", name := "<init>", desc := "()V" } : Jvm.MethodName)) ∈ lw_all := lw_g (lw_at lw_m1 160 rfl) rfl
theorem q185 : (Jvm.Cond.methodLink "IntHeapPriorityQueue" (39 : Nat) ({ cls := "IntHeaps", name := "downHeap", desc := "([IIILIntComparator;)I" } : Jvm.MethodName)) ∈ lw_all := lw_g (lw_at lw_m1 182 rfl) rfl
theorem q193 : (Jvm.Cond.instanceMethod ({ cls := "IntHeapPriorityQueue", name := "firstInt", desc := "()I" } : Jvm.MethodName)) ∈ lw_all := lw_g (lw_at lw_m1 190 rfl) rfl
theorem q194 : (Jvm.Cond.selects "IntHeapPriorityQueue" ({ cls := "IntHeapPriorityQueue", name := "firstInt", desc := "()I" } : Jvm.MethodName) ({ cls := "IntHeapPriorityQueue", name := "firstInt", desc := "()I" } : Jvm.MethodName)) ∈ lw_all := lw_g (lw_at lw_m1 191 rfl) rfl
theorem q195 : (Jvm.Cond.code ({ cls := "IntHeapPriorityQueue", name := "firstInt", desc := "()I" } : Jvm.MethodName) prog_7_method_4_code (1 : Nat) (Option.some Jvm.ClassFile.FieldType.int)) ∈ lw_all := lw_g (lw_at lw_m1 192 rfl) rfl
theorem q205 : (Jvm.Cond.instanceMethod ({ cls := "IntHeapPriorityQueue", name := "clear", desc := "()V" } : Jvm.MethodName)) ∈ lw_all := lw_g (lw_at lw_m1 202 rfl) rfl
theorem q206 : (Jvm.Cond.selects "IntHeapPriorityQueue" ({ cls := "IntHeapPriorityQueue", name := "clear", desc := "()V" } : Jvm.MethodName) ({ cls := "IntHeapPriorityQueue", name := "clear", desc := "()V" } : Jvm.MethodName)) ∈ lw_all := lw_g (lw_at lw_m1 203 rfl) rfl
theorem q207 : (Jvm.Cond.code ({ cls := "IntHeapPriorityQueue", name := "clear", desc := "()V" } : Jvm.MethodName) prog_7_method_6_code (1 : Nat) (Option.none : Option Jvm.ClassFile.FieldType)) ∈ lw_all := lw_g (lw_at lw_m1 204 rfl) rfl
theorem q356 : (Jvm.Cond.castable "IntHeapPriorityQueue" "java/lang/Object") ∈ lw_tbl := lw_at lw_m2 113 rfl
theorem in_X1 : ∀ w ∈ wsX10, w ∈ lw_all := lw_in wsX10 [44, 46, 48] (by decide +kernel) (by decide +kernel)
/-! HeapLineModel -/
set_option maxRecDepth 100000
def RX4 : String := "HeapLineModel"
def TX4 : u_T := fun k => match k with
  | 0 => ("HeapLineModel", "keys", "[I", true)
  | 1 => ("HeapLineModel", "count", "I", false)
  | 2 => ("HeapLineModel", "rows", "[I", true)
  | _ => ("HeapLineModel", "size", "I", false)
def tyX4 : Nat → FieldType := fun k => match k with
  | 0 => .array .int
  | 1 => .int
  | 2 => .array .int
  | _ => .int
abbrev wsX40 : List Cond := u_ws RX4 TX4 4
theorem nmX4 : ∀ a, a < 4 → ∀ b, b < 4 → a ≠ b → (TX4 a).2.1 ≠ (TX4 b).2.1 := by decide +kernel
theorem tyX4_ok : ∀ k, k < 4 → parseFieldDescriptor (TX4 k).2.2.1 = some (tyX4 k) := by decide +kernel
abbrev cX4_init : ByteArray := prog_4_method_1_code
def yX4_init : MethodName := ⟨RX4, "<init>", "()V"⟩
def dkwX4_init_0 : List UInt8 := [42, 183, 0, 1, 42, 17, 16, 0, 188, 10, 181, 0, 7, 42, 17, 16, 0, 188, 10, 181, 0, 13, 177]
abbrev dktX4_init_0 : List UInt8 := dkwX4_init_0 ++ []
theorem dksX4_init_0 : cX4_init.data.toList.drop 0 = dktX4_init_0 := by decide +kernel
theorem dX4_init_0 : decode cX4_init 0 = .ok (.aload_n 0, 1) := dk_42 (dk_at dksX4_init_0 0 rfl rfl)
theorem dX4_init_1 : decode cX4_init 1 = .ok (.invokespecial 1, 3) := dk_183 0 1 (dk_at dksX4_init_0 1 rfl rfl)
theorem dX4_init_4 : decode cX4_init 4 = .ok (.aload_n 0, 1) := dk_42 (dk_at dksX4_init_0 4 rfl rfl)
theorem dX4_init_5 : decode cX4_init 5 = .ok (.sipush 4096, 3) := dk_17 16 0 (dk_at dksX4_init_0 5 rfl rfl)
theorem dX4_init_8 : decode cX4_init 8 = .ok (.newarray .int, 2) := dk_188_10 (dk_at dksX4_init_0 8 rfl rfl)
theorem dX4_init_10 : decode cX4_init 10 = .ok (.putfield 7, 3) := dk_181 0 7 (dk_at dksX4_init_0 10 rfl rfl)
theorem dX4_init_13 : decode cX4_init 13 = .ok (.aload_n 0, 1) := dk_42 (dk_at dksX4_init_0 13 rfl rfl)
theorem dX4_init_14 : decode cX4_init 14 = .ok (.sipush 4096, 3) := dk_17 16 0 (dk_at dksX4_init_0 14 rfl rfl)
theorem dX4_init_17 : decode cX4_init 17 = .ok (.newarray .int, 2) := dk_188_10 (dk_at dksX4_init_0 17 rfl rfl)
theorem dX4_init_19 : decode cX4_init 19 = .ok (.putfield 13, 3) := dk_181 0 13 (dk_at dksX4_init_0 19 rfl rfl)
theorem dX4_init_22 : decode cX4_init 22 = .ok (.return_, 1) := dk_177 (dk_at dksX4_init_0 22 rfl rfl)
abbrev cX4_add : ByteArray := prog_4_method_3_code
def yX4_add : MethodName := ⟨RX4, "add", "(I)Z"⟩
def dkwX4_add_1 : List UInt8 := [180, 0, 16, 4, 96, 181, 0, 16, 4, 172]
abbrev dktX4_add_1 : List UInt8 := dkwX4_add_1 ++ []
def dkwX4_add_0 : List UInt8 := [42, 180, 0, 16, 17, 16, 0, 161, 0, 5, 3, 172, 42, 180, 0, 7, 42, 180, 0, 16, 27, 79, 42, 42]
abbrev dktX4_add_0 : List UInt8 := dkwX4_add_0 ++ dktX4_add_1
theorem dksX4_add_0 : cX4_add.data.toList.drop 0 = dktX4_add_0 := by decide +kernel
theorem dksX4_add_1 : cX4_add.data.toList.drop 24 = dktX4_add_1 := dk_seg dksX4_add_0 24 rfl rfl
theorem dX4_add_0 : decode cX4_add 0 = .ok (.aload_n 0, 1) := dk_42 (dk_at dksX4_add_0 0 rfl rfl)
theorem dX4_add_1 : decode cX4_add 1 = .ok (.getfield 16, 3) := dk_180 0 16 (dk_at dksX4_add_0 1 rfl rfl)
theorem dX4_add_4 : decode cX4_add 4 = .ok (.sipush 4096, 3) := dk_17 16 0 (dk_at dksX4_add_0 4 rfl rfl)
theorem dX4_add_7 : decode cX4_add 7 = .ok (.if_icmp .lt 5, 3) := dk_161 0 5 (dk_at dksX4_add_0 7 rfl rfl)
theorem dX4_add_10 : decode cX4_add 10 = .ok (.iconst 0, 1) := dk_3 (dk_at dksX4_add_0 10 rfl rfl)
theorem dX4_add_11 : decode cX4_add 11 = .ok (.ireturn, 1) := dk_172 (dk_at dksX4_add_0 11 rfl rfl)
theorem dX4_add_12 : decode cX4_add 12 = .ok (.aload_n 0, 1) := dk_42 (dk_at dksX4_add_0 12 rfl rfl)
theorem dX4_add_13 : decode cX4_add 13 = .ok (.getfield 7, 3) := dk_180 0 7 (dk_at dksX4_add_0 13 rfl rfl)
theorem dX4_add_16 : decode cX4_add 16 = .ok (.aload_n 0, 1) := dk_42 (dk_at dksX4_add_0 16 rfl rfl)
theorem dX4_add_17 : decode cX4_add 17 = .ok (.getfield 16, 3) := dk_180 0 16 (dk_at dksX4_add_0 17 rfl rfl)
theorem dX4_add_20 : decode cX4_add 20 = .ok (.iload_n 1, 1) := dk_27 (dk_at dksX4_add_0 20 rfl rfl)
theorem dX4_add_21 : decode cX4_add 21 = .ok (.iastore, 1) := dk_79 (dk_at dksX4_add_0 21 rfl rfl)
theorem dX4_add_22 : decode cX4_add 22 = .ok (.aload_n 0, 1) := dk_42 (dk_at dksX4_add_0 22 rfl rfl)
theorem dX4_add_23 : decode cX4_add 23 = .ok (.aload_n 0, 1) := dk_42 (dk_at dksX4_add_0 23 rfl rfl)
theorem dX4_add_24 : decode cX4_add 24 = .ok (.getfield 16, 3) := dk_180 0 16 (dk_at dksX4_add_1 0 rfl rfl)
theorem dX4_add_27 : decode cX4_add 27 = .ok (.iconst 1, 1) := dk_4 (dk_at dksX4_add_1 3 rfl rfl)
theorem dX4_add_28 : decode cX4_add 28 = .ok (.iadd, 1) := dk_96 (dk_at dksX4_add_1 4 rfl rfl)
theorem dX4_add_29 : decode cX4_add 29 = .ok (.putfield 16, 3) := dk_181 0 16 (dk_at dksX4_add_1 5 rfl rfl)
theorem dX4_add_32 : decode cX4_add 32 = .ok (.iconst 1, 1) := dk_4 (dk_at dksX4_add_1 8 rfl rfl)
theorem dX4_add_33 : decode cX4_add 33 = .ok (.ireturn, 1) := dk_172 (dk_at dksX4_add_1 9 rfl rfl)
abbrev cX4_take : ByteArray := prog_4_method_4_code
def yX4_take : MethodName := ⟨RX4, "take", "()I"⟩
def dkwX4_take_2 : List UInt8 := [172]
abbrev dktX4_take_2 : List UInt8 := dkwX4_take_2 ++ []
def dkwX4_take_1 : List UInt8 := [180, 0, 16, 4, 100, 181, 0, 16, 42, 180, 0, 7, 27, 42, 180, 0, 7, 42, 180, 0, 16, 46, 79, 28]
abbrev dktX4_take_1 : List UInt8 := dkwX4_take_1 ++ dktX4_take_2
def dkwX4_take_0 : List UInt8 := [42, 180, 0, 16, 154, 0, 5, 3, 172, 42, 182, 0, 20, 60, 42, 180, 0, 7, 27, 46, 61, 42, 42]
abbrev dktX4_take_0 : List UInt8 := dkwX4_take_0 ++ dktX4_take_1
theorem dksX4_take_0 : cX4_take.data.toList.drop 0 = dktX4_take_0 := by decide +kernel
theorem dksX4_take_1 : cX4_take.data.toList.drop 23 = dktX4_take_1 := dk_seg dksX4_take_0 23 rfl rfl
theorem dksX4_take_2 : cX4_take.data.toList.drop 47 = dktX4_take_2 := dk_seg dksX4_take_1 24 rfl rfl
theorem dX4_take_0 : decode cX4_take 0 = .ok (.aload_n 0, 1) := dk_42 (dk_at dksX4_take_0 0 rfl rfl)
theorem dX4_take_1 : decode cX4_take 1 = .ok (.getfield 16, 3) := dk_180 0 16 (dk_at dksX4_take_0 1 rfl rfl)
theorem dX4_take_4 : decode cX4_take 4 = .ok (.ifCond .ne 5, 3) := dk_154 0 5 (dk_at dksX4_take_0 4 rfl rfl)
theorem dX4_take_7 : decode cX4_take 7 = .ok (.iconst 0, 1) := dk_3 (dk_at dksX4_take_0 7 rfl rfl)
theorem dX4_take_8 : decode cX4_take 8 = .ok (.ireturn, 1) := dk_172 (dk_at dksX4_take_0 8 rfl rfl)
theorem dX4_take_9 : decode cX4_take 9 = .ok (.aload_n 0, 1) := dk_42 (dk_at dksX4_take_0 9 rfl rfl)
theorem dX4_take_10 : decode cX4_take 10 = .ok (.invokevirtual 20, 3) := dk_182 0 20 (dk_at dksX4_take_0 10 rfl rfl)
theorem dX4_take_13 : decode cX4_take 13 = .ok (.istore_n 1, 1) := dk_60 (dk_at dksX4_take_0 13 rfl rfl)
theorem dX4_take_14 : decode cX4_take 14 = .ok (.aload_n 0, 1) := dk_42 (dk_at dksX4_take_0 14 rfl rfl)
theorem dX4_take_15 : decode cX4_take 15 = .ok (.getfield 7, 3) := dk_180 0 7 (dk_at dksX4_take_0 15 rfl rfl)
theorem dX4_take_18 : decode cX4_take 18 = .ok (.iload_n 1, 1) := dk_27 (dk_at dksX4_take_0 18 rfl rfl)
theorem dX4_take_19 : decode cX4_take 19 = .ok (.iaload, 1) := dk_46 (dk_at dksX4_take_0 19 rfl rfl)
theorem dX4_take_20 : decode cX4_take 20 = .ok (.istore_n 2, 1) := dk_61 (dk_at dksX4_take_0 20 rfl rfl)
theorem dX4_take_21 : decode cX4_take 21 = .ok (.aload_n 0, 1) := dk_42 (dk_at dksX4_take_0 21 rfl rfl)
theorem dX4_take_22 : decode cX4_take 22 = .ok (.aload_n 0, 1) := dk_42 (dk_at dksX4_take_0 22 rfl rfl)
theorem dX4_take_23 : decode cX4_take 23 = .ok (.getfield 16, 3) := dk_180 0 16 (dk_at dksX4_take_1 0 rfl rfl)
theorem dX4_take_26 : decode cX4_take 26 = .ok (.iconst 1, 1) := dk_4 (dk_at dksX4_take_1 3 rfl rfl)
theorem dX4_take_27 : decode cX4_take 27 = .ok (.isub, 1) := dk_100 (dk_at dksX4_take_1 4 rfl rfl)
theorem dX4_take_28 : decode cX4_take 28 = .ok (.putfield 16, 3) := dk_181 0 16 (dk_at dksX4_take_1 5 rfl rfl)
theorem dX4_take_31 : decode cX4_take 31 = .ok (.aload_n 0, 1) := dk_42 (dk_at dksX4_take_1 8 rfl rfl)
theorem dX4_take_32 : decode cX4_take 32 = .ok (.getfield 7, 3) := dk_180 0 7 (dk_at dksX4_take_1 9 rfl rfl)
theorem dX4_take_35 : decode cX4_take 35 = .ok (.iload_n 1, 1) := dk_27 (dk_at dksX4_take_1 12 rfl rfl)
theorem dX4_take_36 : decode cX4_take 36 = .ok (.aload_n 0, 1) := dk_42 (dk_at dksX4_take_1 13 rfl rfl)
theorem dX4_take_37 : decode cX4_take 37 = .ok (.getfield 7, 3) := dk_180 0 7 (dk_at dksX4_take_1 14 rfl rfl)
theorem dX4_take_40 : decode cX4_take 40 = .ok (.aload_n 0, 1) := dk_42 (dk_at dksX4_take_1 17 rfl rfl)
theorem dX4_take_41 : decode cX4_take 41 = .ok (.getfield 16, 3) := dk_180 0 16 (dk_at dksX4_take_1 18 rfl rfl)
theorem dX4_take_44 : decode cX4_take 44 = .ok (.iaload, 1) := dk_46 (dk_at dksX4_take_1 21 rfl rfl)
theorem dX4_take_45 : decode cX4_take 45 = .ok (.iastore, 1) := dk_79 (dk_at dksX4_take_1 22 rfl rfl)
theorem dX4_take_46 : decode cX4_take 46 = .ok (.iload_n 2, 1) := dk_28 (dk_at dksX4_take_1 23 rfl rfl)
theorem dX4_take_47 : decode cX4_take 47 = .ok (.ireturn, 1) := dk_172 (dk_at dksX4_take_2 0 rfl rfl)
abbrev cX4_best : ByteArray := prog_4_method_2_code
def yX4_best : MethodName := ⟨RX4, "best", "()I"⟩
def dkwX4_best_1 : List UInt8 := [162, 0, 5, 28, 60, 132, 2, 1, 167, 255, 228, 27, 172]
abbrev dktX4_best_1 : List UInt8 := dkwX4_best_1 ++ []
def dkwX4_best_0 : List UInt8 := [3, 60, 4, 61, 28, 42, 180, 0, 16, 162, 0, 26, 42, 180, 0, 7, 28, 46, 42, 180, 0, 7, 27, 46]
abbrev dktX4_best_0 : List UInt8 := dkwX4_best_0 ++ dktX4_best_1
theorem dksX4_best_0 : cX4_best.data.toList.drop 0 = dktX4_best_0 := by decide +kernel
theorem dksX4_best_1 : cX4_best.data.toList.drop 24 = dktX4_best_1 := dk_seg dksX4_best_0 24 rfl rfl
theorem dX4_best_0 : decode cX4_best 0 = .ok (.iconst 0, 1) := dk_3 (dk_at dksX4_best_0 0 rfl rfl)
theorem dX4_best_1 : decode cX4_best 1 = .ok (.istore_n 1, 1) := dk_60 (dk_at dksX4_best_0 1 rfl rfl)
theorem dX4_best_2 : decode cX4_best 2 = .ok (.iconst 1, 1) := dk_4 (dk_at dksX4_best_0 2 rfl rfl)
theorem dX4_best_3 : decode cX4_best 3 = .ok (.istore_n 2, 1) := dk_61 (dk_at dksX4_best_0 3 rfl rfl)
theorem dX4_best_4 : decode cX4_best 4 = .ok (.iload_n 2, 1) := dk_28 (dk_at dksX4_best_0 4 rfl rfl)
theorem dX4_best_5 : decode cX4_best 5 = .ok (.aload_n 0, 1) := dk_42 (dk_at dksX4_best_0 5 rfl rfl)
theorem dX4_best_6 : decode cX4_best 6 = .ok (.getfield 16, 3) := dk_180 0 16 (dk_at dksX4_best_0 6 rfl rfl)
theorem dX4_best_9 : decode cX4_best 9 = .ok (.if_icmp .ge 26, 3) := dk_162 0 26 (dk_at dksX4_best_0 9 rfl rfl)
theorem dX4_best_12 : decode cX4_best 12 = .ok (.aload_n 0, 1) := dk_42 (dk_at dksX4_best_0 12 rfl rfl)
theorem dX4_best_13 : decode cX4_best 13 = .ok (.getfield 7, 3) := dk_180 0 7 (dk_at dksX4_best_0 13 rfl rfl)
theorem dX4_best_16 : decode cX4_best 16 = .ok (.iload_n 2, 1) := dk_28 (dk_at dksX4_best_0 16 rfl rfl)
theorem dX4_best_17 : decode cX4_best 17 = .ok (.iaload, 1) := dk_46 (dk_at dksX4_best_0 17 rfl rfl)
theorem dX4_best_18 : decode cX4_best 18 = .ok (.aload_n 0, 1) := dk_42 (dk_at dksX4_best_0 18 rfl rfl)
theorem dX4_best_19 : decode cX4_best 19 = .ok (.getfield 7, 3) := dk_180 0 7 (dk_at dksX4_best_0 19 rfl rfl)
theorem dX4_best_22 : decode cX4_best 22 = .ok (.iload_n 1, 1) := dk_27 (dk_at dksX4_best_0 22 rfl rfl)
theorem dX4_best_23 : decode cX4_best 23 = .ok (.iaload, 1) := dk_46 (dk_at dksX4_best_0 23 rfl rfl)
theorem dX4_best_24 : decode cX4_best 24 = .ok (.if_icmp .ge 5, 3) := dk_162 0 5 (dk_at dksX4_best_1 0 rfl rfl)
theorem dX4_best_27 : decode cX4_best 27 = .ok (.iload_n 2, 1) := dk_28 (dk_at dksX4_best_1 3 rfl rfl)
theorem dX4_best_28 : decode cX4_best 28 = .ok (.istore_n 1, 1) := dk_60 (dk_at dksX4_best_1 4 rfl rfl)
theorem dX4_best_29 : decode cX4_best 29 = .ok (.iinc 2 1, 3) := dk_132 2 1 (dk_at dksX4_best_1 5 rfl rfl)
theorem dX4_best_32 : decode cX4_best 32 = .ok (.goto (-28), 3) := dk_167 255 228 (dk_at dksX4_best_1 8 rfl rfl)
theorem dX4_best_35 : decode cX4_best 35 = .ok (.iload_n 1, 1) := dk_27 (dk_at dksX4_best_1 11 rfl rfl)
theorem dX4_best_36 : decode cX4_best 36 = .ok (.ireturn, 1) := dk_172 (dk_at dksX4_best_1 12 rfl rfl)
abbrev cX4_least : ByteArray := prog_4_method_5_code
def yX4_least : MethodName := ⟨RX4, "least", "()I"⟩
def dkwX4_least_0 : List UInt8 := [42, 180, 0, 16, 154, 0, 7, 3, 167, 0, 12, 42, 180, 0, 7, 42, 182, 0, 20, 46, 172]
abbrev dktX4_least_0 : List UInt8 := dkwX4_least_0 ++ []
theorem dksX4_least_0 : cX4_least.data.toList.drop 0 = dktX4_least_0 := by decide +kernel
theorem dX4_least_0 : decode cX4_least 0 = .ok (.aload_n 0, 1) := dk_42 (dk_at dksX4_least_0 0 rfl rfl)
theorem dX4_least_1 : decode cX4_least 1 = .ok (.getfield 16, 3) := dk_180 0 16 (dk_at dksX4_least_0 1 rfl rfl)
theorem dX4_least_4 : decode cX4_least 4 = .ok (.ifCond .ne 7, 3) := dk_154 0 7 (dk_at dksX4_least_0 4 rfl rfl)
theorem dX4_least_7 : decode cX4_least 7 = .ok (.iconst 0, 1) := dk_3 (dk_at dksX4_least_0 7 rfl rfl)
theorem dX4_least_8 : decode cX4_least 8 = .ok (.goto 12, 3) := dk_167 0 12 (dk_at dksX4_least_0 8 rfl rfl)
theorem dX4_least_11 : decode cX4_least 11 = .ok (.aload_n 0, 1) := dk_42 (dk_at dksX4_least_0 11 rfl rfl)
theorem dX4_least_12 : decode cX4_least 12 = .ok (.getfield 7, 3) := dk_180 0 7 (dk_at dksX4_least_0 12 rfl rfl)
theorem dX4_least_15 : decode cX4_least 15 = .ok (.aload_n 0, 1) := dk_42 (dk_at dksX4_least_0 15 rfl rfl)
theorem dX4_least_16 : decode cX4_least 16 = .ok (.invokevirtual 20, 3) := dk_182 0 20 (dk_at dksX4_least_0 16 rfl rfl)
theorem dX4_least_19 : decode cX4_least 19 = .ok (.iaload, 1) := dk_46 (dk_at dksX4_least_0 19 rfl rfl)
theorem dX4_least_20 : decode cX4_least 20 = .ok (.ireturn, 1) := dk_172 (dk_at dksX4_least_0 20 rfl rfl)
abbrev cX4_waiting : ByteArray := prog_4_method_6_code
def yX4_waiting : MethodName := ⟨RX4, "waiting", "()I"⟩
theorem dX4_waiting_0 : decode cX4_waiting 0 = .ok (.aload_n 0, 1) := by decide +kernel
theorem dX4_waiting_1 : decode cX4_waiting 1 = .ok (.getfield 16, 3) := by decide +kernel
theorem dX4_waiting_4 : decode cX4_waiting 4 = .ok (.ireturn, 1) := by decide +kernel
abbrev cX4_drain : ByteArray := prog_4_method_7_code
def yX4_drain : MethodName := ⟨RX4, "drain", "()V"⟩
def dkwX4_drain_0 : List UInt8 := [42, 3, 181, 0, 16, 177]
abbrev dktX4_drain_0 : List UInt8 := dkwX4_drain_0 ++ []
theorem dksX4_drain_0 : cX4_drain.data.toList.drop 0 = dktX4_drain_0 := by decide +kernel
theorem dX4_drain_0 : decode cX4_drain 0 = .ok (.aload_n 0, 1) := dk_42 (dk_at dksX4_drain_0 0 rfl rfl)
theorem dX4_drain_1 : decode cX4_drain 1 = .ok (.iconst 0, 1) := dk_3 (dk_at dksX4_drain_0 1 rfl rfl)
theorem dX4_drain_2 : decode cX4_drain 2 = .ok (.putfield 16, 3) := dk_181 0 16 (dk_at dksX4_drain_0 2 rfl rfl)
theorem dX4_drain_5 : decode cX4_drain 5 = .ok (.return_, 1) := dk_177 (dk_at dksX4_drain_0 5 rfl rfl)
abbrev cX4_ramp : ByteArray := prog_4_method_8_code
def yX4_ramp : MethodName := ⟨RX4, "ramp", "(III)I"⟩
def dkwX4_ramp_3 : List UInt8 := [54, 5, 132, 6, 1, 167, 255, 219, 21, 4, 172]
abbrev dktX4_ramp_3 : List UInt8 := dkwX4_ramp_3 ++ []
def dkwX4_ramp_2 : List UInt8 := [180, 0, 13, 42, 180, 0, 25, 21, 5, 79, 42, 42, 180, 0, 25, 4, 96, 181, 0, 25, 21, 5, 29, 96]
abbrev dktX4_ramp_2 : List UInt8 := dkwX4_ramp_2 ++ dktX4_ramp_3
def dkwX4_ramp_1 : List UInt8 := [17, 16, 0, 42, 180, 0, 25, 100, 54, 4, 28, 54, 5, 3, 54, 6, 21, 6, 21, 4, 162, 0, 36, 42]
abbrev dktX4_ramp_1 : List UInt8 := dkwX4_ramp_1 ++ dktX4_ramp_2
def dkwX4_ramp_0 : List UInt8 := [27, 18, 24, 126, 17, 1, 1, 112, 54, 4, 42, 180, 0, 25, 21, 4, 96, 17, 16, 0, 164, 0, 13]
abbrev dktX4_ramp_0 : List UInt8 := dkwX4_ramp_0 ++ dktX4_ramp_1
theorem dksX4_ramp_0 : cX4_ramp.data.toList.drop 0 = dktX4_ramp_0 := by decide +kernel
theorem dksX4_ramp_1 : cX4_ramp.data.toList.drop 23 = dktX4_ramp_1 := dk_seg dksX4_ramp_0 23 rfl rfl
theorem dksX4_ramp_2 : cX4_ramp.data.toList.drop 47 = dktX4_ramp_2 := dk_seg dksX4_ramp_1 24 rfl rfl
theorem dksX4_ramp_3 : cX4_ramp.data.toList.drop 71 = dktX4_ramp_3 := dk_seg dksX4_ramp_2 24 rfl rfl
theorem dX4_ramp_0 : decode cX4_ramp 0 = .ok (.iload_n 1, 1) := dk_27 (dk_at dksX4_ramp_0 0 rfl rfl)
theorem dX4_ramp_1 : decode cX4_ramp 1 = .ok (.ldc 24, 2) := dk_18 24 (dk_at dksX4_ramp_0 1 rfl rfl)
theorem dX4_ramp_3 : decode cX4_ramp 3 = .ok (.iand, 1) := dk_126 (dk_at dksX4_ramp_0 3 rfl rfl)
theorem dX4_ramp_4 : decode cX4_ramp 4 = .ok (.sipush 257, 3) := dk_17 1 1 (dk_at dksX4_ramp_0 4 rfl rfl)
theorem dX4_ramp_7 : decode cX4_ramp 7 = .ok (.irem, 1) := dk_112 (dk_at dksX4_ramp_0 7 rfl rfl)
theorem dX4_ramp_8 : decode cX4_ramp 8 = .ok (.istore 4, 2) := dk_54 4 (dk_at dksX4_ramp_0 8 rfl rfl)
theorem dX4_ramp_10 : decode cX4_ramp 10 = .ok (.aload_n 0, 1) := dk_42 (dk_at dksX4_ramp_0 10 rfl rfl)
theorem dX4_ramp_11 : decode cX4_ramp 11 = .ok (.getfield 25, 3) := dk_180 0 25 (dk_at dksX4_ramp_0 11 rfl rfl)
theorem dX4_ramp_14 : decode cX4_ramp 14 = .ok (.iload 4, 2) := dk_21 4 (dk_at dksX4_ramp_0 14 rfl rfl)
theorem dX4_ramp_16 : decode cX4_ramp 16 = .ok (.iadd, 1) := dk_96 (dk_at dksX4_ramp_0 16 rfl rfl)
theorem dX4_ramp_17 : decode cX4_ramp 17 = .ok (.sipush 4096, 3) := dk_17 16 0 (dk_at dksX4_ramp_0 17 rfl rfl)
theorem dX4_ramp_20 : decode cX4_ramp 20 = .ok (.if_icmp .le 13, 3) := dk_164 0 13 (dk_at dksX4_ramp_0 20 rfl rfl)
theorem dX4_ramp_23 : decode cX4_ramp 23 = .ok (.sipush 4096, 3) := dk_17 16 0 (dk_at dksX4_ramp_1 0 rfl rfl)
theorem dX4_ramp_26 : decode cX4_ramp 26 = .ok (.aload_n 0, 1) := dk_42 (dk_at dksX4_ramp_1 3 rfl rfl)
theorem dX4_ramp_27 : decode cX4_ramp 27 = .ok (.getfield 25, 3) := dk_180 0 25 (dk_at dksX4_ramp_1 4 rfl rfl)
theorem dX4_ramp_30 : decode cX4_ramp 30 = .ok (.isub, 1) := dk_100 (dk_at dksX4_ramp_1 7 rfl rfl)
theorem dX4_ramp_31 : decode cX4_ramp 31 = .ok (.istore 4, 2) := dk_54 4 (dk_at dksX4_ramp_1 8 rfl rfl)
theorem dX4_ramp_33 : decode cX4_ramp 33 = .ok (.iload_n 2, 1) := dk_28 (dk_at dksX4_ramp_1 10 rfl rfl)
theorem dX4_ramp_34 : decode cX4_ramp 34 = .ok (.istore 5, 2) := dk_54 5 (dk_at dksX4_ramp_1 11 rfl rfl)
theorem dX4_ramp_36 : decode cX4_ramp 36 = .ok (.iconst 0, 1) := dk_3 (dk_at dksX4_ramp_1 13 rfl rfl)
theorem dX4_ramp_37 : decode cX4_ramp 37 = .ok (.istore 6, 2) := dk_54 6 (dk_at dksX4_ramp_1 14 rfl rfl)
theorem dX4_ramp_39 : decode cX4_ramp 39 = .ok (.iload 6, 2) := dk_21 6 (dk_at dksX4_ramp_1 16 rfl rfl)
theorem dX4_ramp_41 : decode cX4_ramp 41 = .ok (.iload 4, 2) := dk_21 4 (dk_at dksX4_ramp_1 18 rfl rfl)
theorem dX4_ramp_43 : decode cX4_ramp 43 = .ok (.if_icmp .ge 36, 3) := dk_162 0 36 (dk_at dksX4_ramp_1 20 rfl rfl)
theorem dX4_ramp_46 : decode cX4_ramp 46 = .ok (.aload_n 0, 1) := dk_42 (dk_at dksX4_ramp_1 23 rfl rfl)
theorem dX4_ramp_47 : decode cX4_ramp 47 = .ok (.getfield 13, 3) := dk_180 0 13 (dk_at dksX4_ramp_2 0 rfl rfl)
theorem dX4_ramp_50 : decode cX4_ramp 50 = .ok (.aload_n 0, 1) := dk_42 (dk_at dksX4_ramp_2 3 rfl rfl)
theorem dX4_ramp_51 : decode cX4_ramp 51 = .ok (.getfield 25, 3) := dk_180 0 25 (dk_at dksX4_ramp_2 4 rfl rfl)
theorem dX4_ramp_54 : decode cX4_ramp 54 = .ok (.iload 5, 2) := dk_21 5 (dk_at dksX4_ramp_2 7 rfl rfl)
theorem dX4_ramp_56 : decode cX4_ramp 56 = .ok (.iastore, 1) := dk_79 (dk_at dksX4_ramp_2 9 rfl rfl)
theorem dX4_ramp_57 : decode cX4_ramp 57 = .ok (.aload_n 0, 1) := dk_42 (dk_at dksX4_ramp_2 10 rfl rfl)
theorem dX4_ramp_58 : decode cX4_ramp 58 = .ok (.aload_n 0, 1) := dk_42 (dk_at dksX4_ramp_2 11 rfl rfl)
theorem dX4_ramp_59 : decode cX4_ramp 59 = .ok (.getfield 25, 3) := dk_180 0 25 (dk_at dksX4_ramp_2 12 rfl rfl)
theorem dX4_ramp_62 : decode cX4_ramp 62 = .ok (.iconst 1, 1) := dk_4 (dk_at dksX4_ramp_2 15 rfl rfl)
theorem dX4_ramp_63 : decode cX4_ramp 63 = .ok (.iadd, 1) := dk_96 (dk_at dksX4_ramp_2 16 rfl rfl)
theorem dX4_ramp_64 : decode cX4_ramp 64 = .ok (.putfield 25, 3) := dk_181 0 25 (dk_at dksX4_ramp_2 17 rfl rfl)
theorem dX4_ramp_67 : decode cX4_ramp 67 = .ok (.iload 5, 2) := dk_21 5 (dk_at dksX4_ramp_2 20 rfl rfl)
theorem dX4_ramp_69 : decode cX4_ramp 69 = .ok (.iload_n 3, 1) := dk_29 (dk_at dksX4_ramp_2 22 rfl rfl)
theorem dX4_ramp_70 : decode cX4_ramp 70 = .ok (.iadd, 1) := dk_96 (dk_at dksX4_ramp_2 23 rfl rfl)
theorem dX4_ramp_71 : decode cX4_ramp 71 = .ok (.istore 5, 2) := dk_54 5 (dk_at dksX4_ramp_3 0 rfl rfl)
theorem dX4_ramp_73 : decode cX4_ramp 73 = .ok (.iinc 6 1, 3) := dk_132 6 1 (dk_at dksX4_ramp_3 2 rfl rfl)
theorem dX4_ramp_76 : decode cX4_ramp 76 = .ok (.goto (-37), 3) := dk_167 255 219 (dk_at dksX4_ramp_3 5 rfl rfl)
theorem dX4_ramp_79 : decode cX4_ramp 79 = .ok (.iload 4, 2) := dk_21 4 (dk_at dksX4_ramp_3 8 rfl rfl)
theorem dX4_ramp_81 : decode cX4_ramp 81 = .ok (.ireturn, 1) := dk_172 (dk_at dksX4_ramp_3 10 rfl rfl)
abbrev cX4_row : ByteArray := prog_4_method_9_code
def yX4_row : MethodName := ⟨RX4, "row", "(I)I"⟩
def dkwX4_row_1 : List UInt8 := [46, 172]
abbrev dktX4_row_1 : List UInt8 := dkwX4_row_1 ++ []
def dkwX4_row_0 : List UInt8 := [42, 180, 0, 25, 154, 0, 7, 3, 167, 0, 17, 42, 180, 0, 13, 27, 18, 24, 126, 42, 180, 0, 25, 112]
abbrev dktX4_row_0 : List UInt8 := dkwX4_row_0 ++ dktX4_row_1
theorem dksX4_row_0 : cX4_row.data.toList.drop 0 = dktX4_row_0 := by decide +kernel
theorem dksX4_row_1 : cX4_row.data.toList.drop 24 = dktX4_row_1 := dk_seg dksX4_row_0 24 rfl rfl
theorem dX4_row_0 : decode cX4_row 0 = .ok (.aload_n 0, 1) := dk_42 (dk_at dksX4_row_0 0 rfl rfl)
theorem dX4_row_1 : decode cX4_row 1 = .ok (.getfield 25, 3) := dk_180 0 25 (dk_at dksX4_row_0 1 rfl rfl)
theorem dX4_row_4 : decode cX4_row 4 = .ok (.ifCond .ne 7, 3) := dk_154 0 7 (dk_at dksX4_row_0 4 rfl rfl)
theorem dX4_row_7 : decode cX4_row 7 = .ok (.iconst 0, 1) := dk_3 (dk_at dksX4_row_0 7 rfl rfl)
theorem dX4_row_8 : decode cX4_row 8 = .ok (.goto 17, 3) := dk_167 0 17 (dk_at dksX4_row_0 8 rfl rfl)
theorem dX4_row_11 : decode cX4_row 11 = .ok (.aload_n 0, 1) := dk_42 (dk_at dksX4_row_0 11 rfl rfl)
theorem dX4_row_12 : decode cX4_row 12 = .ok (.getfield 13, 3) := dk_180 0 13 (dk_at dksX4_row_0 12 rfl rfl)
theorem dX4_row_15 : decode cX4_row 15 = .ok (.iload_n 1, 1) := dk_27 (dk_at dksX4_row_0 15 rfl rfl)
theorem dX4_row_16 : decode cX4_row 16 = .ok (.ldc 24, 2) := dk_18 24 (dk_at dksX4_row_0 16 rfl rfl)
theorem dX4_row_18 : decode cX4_row 18 = .ok (.iand, 1) := dk_126 (dk_at dksX4_row_0 18 rfl rfl)
theorem dX4_row_19 : decode cX4_row 19 = .ok (.aload_n 0, 1) := dk_42 (dk_at dksX4_row_0 19 rfl rfl)
theorem dX4_row_20 : decode cX4_row 20 = .ok (.getfield 25, 3) := dk_180 0 25 (dk_at dksX4_row_0 20 rfl rfl)
theorem dX4_row_23 : decode cX4_row 23 = .ok (.irem, 1) := dk_112 (dk_at dksX4_row_0 23 rfl rfl)
theorem dX4_row_24 : decode cX4_row 24 = .ok (.iaload, 1) := dk_46 (dk_at dksX4_row_1 0 rfl rfl)
theorem dX4_row_25 : decode cX4_row 25 = .ok (.ireturn, 1) := dk_172 (dk_at dksX4_row_1 1 rfl rfl)
abbrev cX4_quick : ByteArray := prog_4_method_11_code
def yX4_quick : MethodName := ⟨RX4, "quick", "(II)I"⟩
def dkwX4_quick_0 : List UInt8 := [42, 27, 28, 182, 0, 28, 172]
abbrev dktX4_quick_0 : List UInt8 := dkwX4_quick_0 ++ []
theorem dksX4_quick_0 : cX4_quick.data.toList.drop 0 = dktX4_quick_0 := by decide +kernel
theorem dX4_quick_0 : decode cX4_quick 0 = .ok (.aload_n 0, 1) := dk_42 (dk_at dksX4_quick_0 0 rfl rfl)
theorem dX4_quick_1 : decode cX4_quick 1 = .ok (.iload_n 1, 1) := dk_27 (dk_at dksX4_quick_0 1 rfl rfl)
theorem dX4_quick_2 : decode cX4_quick 2 = .ok (.iload_n 2, 1) := dk_28 (dk_at dksX4_quick_0 2 rfl rfl)
theorem dX4_quick_3 : decode cX4_quick 3 = .ok (.invokevirtual 28, 3) := dk_182 0 28 (dk_at dksX4_quick_0 3 rfl rfl)
theorem dX4_quick_6 : decode cX4_quick 6 = .ok (.ireturn, 1) := dk_172 (dk_at dksX4_quick_0 6 rfl rfl)
abbrev cX4_order : ByteArray := prog_4_method_10_code
def yX4_order : MethodName := ⟨RX4, "order", "(II)I"⟩
def dkwX4_order_4 : List UInt8 := [54, 7, 167, 255, 214, 42, 180, 0, 13, 21, 7, 21, 6, 79, 132, 5, 1, 167, 255, 177, 21, 4, 172]
abbrev dktX4_order_4 : List UInt8 := dkwX4_order_4 ++ []
def dkwX4_order_3 : List UInt8 := [164, 0, 28, 42, 180, 0, 13, 21, 7, 42, 180, 0, 13, 21, 7, 4, 100, 46, 79, 21, 7, 4, 100]
abbrev dktX4_order_3 : List UInt8 := dkwX4_order_3 ++ dktX4_order_4
def dkwX4_order_2 : List UInt8 := [54, 6, 21, 5, 54, 7, 21, 7, 29, 164, 0, 42, 42, 180, 0, 13, 21, 7, 4, 100, 46, 21, 6]
abbrev dktX4_order_2 : List UInt8 := dkwX4_order_2 ++ dktX4_order_3
def dkwX4_order_1 : List UInt8 := [112, 54, 4, 29, 4, 96, 54, 5, 21, 5, 29, 21, 4, 96, 162, 0, 76, 42, 180, 0, 13, 21, 5, 46]
abbrev dktX4_order_1 : List UInt8 := dkwX4_order_1 ++ dktX4_order_2
def dkwX4_order_0 : List UInt8 := [27, 18, 24, 126, 42, 180, 0, 25, 4, 96, 112, 62, 28, 18, 24, 126, 42, 180, 0, 25, 29, 100, 4, 96]
abbrev dktX4_order_0 : List UInt8 := dkwX4_order_0 ++ dktX4_order_1
theorem dksX4_order_0 : cX4_order.data.toList.drop 0 = dktX4_order_0 := by decide +kernel
theorem dksX4_order_1 : cX4_order.data.toList.drop 24 = dktX4_order_1 := dk_seg dksX4_order_0 24 rfl rfl
theorem dksX4_order_2 : cX4_order.data.toList.drop 48 = dktX4_order_2 := dk_seg dksX4_order_1 24 rfl rfl
theorem dksX4_order_3 : cX4_order.data.toList.drop 71 = dktX4_order_3 := dk_seg dksX4_order_2 23 rfl rfl
theorem dksX4_order_4 : cX4_order.data.toList.drop 94 = dktX4_order_4 := dk_seg dksX4_order_3 23 rfl rfl
theorem dX4_order_0 : decode cX4_order 0 = .ok (.iload_n 1, 1) := dk_27 (dk_at dksX4_order_0 0 rfl rfl)
theorem dX4_order_1 : decode cX4_order 1 = .ok (.ldc 24, 2) := dk_18 24 (dk_at dksX4_order_0 1 rfl rfl)
theorem dX4_order_3 : decode cX4_order 3 = .ok (.iand, 1) := dk_126 (dk_at dksX4_order_0 3 rfl rfl)
theorem dX4_order_4 : decode cX4_order 4 = .ok (.aload_n 0, 1) := dk_42 (dk_at dksX4_order_0 4 rfl rfl)
theorem dX4_order_5 : decode cX4_order 5 = .ok (.getfield 25, 3) := dk_180 0 25 (dk_at dksX4_order_0 5 rfl rfl)
theorem dX4_order_8 : decode cX4_order 8 = .ok (.iconst 1, 1) := dk_4 (dk_at dksX4_order_0 8 rfl rfl)
theorem dX4_order_9 : decode cX4_order 9 = .ok (.iadd, 1) := dk_96 (dk_at dksX4_order_0 9 rfl rfl)
theorem dX4_order_10 : decode cX4_order 10 = .ok (.irem, 1) := dk_112 (dk_at dksX4_order_0 10 rfl rfl)
theorem dX4_order_11 : decode cX4_order 11 = .ok (.istore_n 3, 1) := dk_62 (dk_at dksX4_order_0 11 rfl rfl)
theorem dX4_order_12 : decode cX4_order 12 = .ok (.iload_n 2, 1) := dk_28 (dk_at dksX4_order_0 12 rfl rfl)
theorem dX4_order_13 : decode cX4_order 13 = .ok (.ldc 24, 2) := dk_18 24 (dk_at dksX4_order_0 13 rfl rfl)
theorem dX4_order_15 : decode cX4_order 15 = .ok (.iand, 1) := dk_126 (dk_at dksX4_order_0 15 rfl rfl)
theorem dX4_order_16 : decode cX4_order 16 = .ok (.aload_n 0, 1) := dk_42 (dk_at dksX4_order_0 16 rfl rfl)
theorem dX4_order_17 : decode cX4_order 17 = .ok (.getfield 25, 3) := dk_180 0 25 (dk_at dksX4_order_0 17 rfl rfl)
theorem dX4_order_20 : decode cX4_order 20 = .ok (.iload_n 3, 1) := dk_29 (dk_at dksX4_order_0 20 rfl rfl)
theorem dX4_order_21 : decode cX4_order 21 = .ok (.isub, 1) := dk_100 (dk_at dksX4_order_0 21 rfl rfl)
theorem dX4_order_22 : decode cX4_order 22 = .ok (.iconst 1, 1) := dk_4 (dk_at dksX4_order_0 22 rfl rfl)
theorem dX4_order_23 : decode cX4_order 23 = .ok (.iadd, 1) := dk_96 (dk_at dksX4_order_0 23 rfl rfl)
theorem dX4_order_24 : decode cX4_order 24 = .ok (.irem, 1) := dk_112 (dk_at dksX4_order_1 0 rfl rfl)
theorem dX4_order_25 : decode cX4_order 25 = .ok (.istore 4, 2) := dk_54 4 (dk_at dksX4_order_1 1 rfl rfl)
theorem dX4_order_27 : decode cX4_order 27 = .ok (.iload_n 3, 1) := dk_29 (dk_at dksX4_order_1 3 rfl rfl)
theorem dX4_order_28 : decode cX4_order 28 = .ok (.iconst 1, 1) := dk_4 (dk_at dksX4_order_1 4 rfl rfl)
theorem dX4_order_29 : decode cX4_order 29 = .ok (.iadd, 1) := dk_96 (dk_at dksX4_order_1 5 rfl rfl)
theorem dX4_order_30 : decode cX4_order 30 = .ok (.istore 5, 2) := dk_54 5 (dk_at dksX4_order_1 6 rfl rfl)
theorem dX4_order_32 : decode cX4_order 32 = .ok (.iload 5, 2) := dk_21 5 (dk_at dksX4_order_1 8 rfl rfl)
theorem dX4_order_34 : decode cX4_order 34 = .ok (.iload_n 3, 1) := dk_29 (dk_at dksX4_order_1 10 rfl rfl)
theorem dX4_order_35 : decode cX4_order 35 = .ok (.iload 4, 2) := dk_21 4 (dk_at dksX4_order_1 11 rfl rfl)
theorem dX4_order_37 : decode cX4_order 37 = .ok (.iadd, 1) := dk_96 (dk_at dksX4_order_1 13 rfl rfl)
theorem dX4_order_38 : decode cX4_order 38 = .ok (.if_icmp .ge 76, 3) := dk_162 0 76 (dk_at dksX4_order_1 14 rfl rfl)
theorem dX4_order_41 : decode cX4_order 41 = .ok (.aload_n 0, 1) := dk_42 (dk_at dksX4_order_1 17 rfl rfl)
theorem dX4_order_42 : decode cX4_order 42 = .ok (.getfield 13, 3) := dk_180 0 13 (dk_at dksX4_order_1 18 rfl rfl)
theorem dX4_order_45 : decode cX4_order 45 = .ok (.iload 5, 2) := dk_21 5 (dk_at dksX4_order_1 21 rfl rfl)
theorem dX4_order_47 : decode cX4_order 47 = .ok (.iaload, 1) := dk_46 (dk_at dksX4_order_1 23 rfl rfl)
theorem dX4_order_48 : decode cX4_order 48 = .ok (.istore 6, 2) := dk_54 6 (dk_at dksX4_order_2 0 rfl rfl)
theorem dX4_order_50 : decode cX4_order 50 = .ok (.iload 5, 2) := dk_21 5 (dk_at dksX4_order_2 2 rfl rfl)
theorem dX4_order_52 : decode cX4_order 52 = .ok (.istore 7, 2) := dk_54 7 (dk_at dksX4_order_2 4 rfl rfl)
theorem dX4_order_54 : decode cX4_order 54 = .ok (.iload 7, 2) := dk_21 7 (dk_at dksX4_order_2 6 rfl rfl)
theorem dX4_order_56 : decode cX4_order 56 = .ok (.iload_n 3, 1) := dk_29 (dk_at dksX4_order_2 8 rfl rfl)
theorem dX4_order_57 : decode cX4_order 57 = .ok (.if_icmp .le 42, 3) := dk_164 0 42 (dk_at dksX4_order_2 9 rfl rfl)
theorem dX4_order_60 : decode cX4_order 60 = .ok (.aload_n 0, 1) := dk_42 (dk_at dksX4_order_2 12 rfl rfl)
theorem dX4_order_61 : decode cX4_order 61 = .ok (.getfield 13, 3) := dk_180 0 13 (dk_at dksX4_order_2 13 rfl rfl)
theorem dX4_order_64 : decode cX4_order 64 = .ok (.iload 7, 2) := dk_21 7 (dk_at dksX4_order_2 16 rfl rfl)
theorem dX4_order_66 : decode cX4_order 66 = .ok (.iconst 1, 1) := dk_4 (dk_at dksX4_order_2 18 rfl rfl)
theorem dX4_order_67 : decode cX4_order 67 = .ok (.isub, 1) := dk_100 (dk_at dksX4_order_2 19 rfl rfl)
theorem dX4_order_68 : decode cX4_order 68 = .ok (.iaload, 1) := dk_46 (dk_at dksX4_order_2 20 rfl rfl)
theorem dX4_order_69 : decode cX4_order 69 = .ok (.iload 6, 2) := dk_21 6 (dk_at dksX4_order_2 21 rfl rfl)
theorem dX4_order_71 : decode cX4_order 71 = .ok (.if_icmp .le 28, 3) := dk_164 0 28 (dk_at dksX4_order_3 0 rfl rfl)
theorem dX4_order_74 : decode cX4_order 74 = .ok (.aload_n 0, 1) := dk_42 (dk_at dksX4_order_3 3 rfl rfl)
theorem dX4_order_75 : decode cX4_order 75 = .ok (.getfield 13, 3) := dk_180 0 13 (dk_at dksX4_order_3 4 rfl rfl)
theorem dX4_order_78 : decode cX4_order 78 = .ok (.iload 7, 2) := dk_21 7 (dk_at dksX4_order_3 7 rfl rfl)
theorem dX4_order_80 : decode cX4_order 80 = .ok (.aload_n 0, 1) := dk_42 (dk_at dksX4_order_3 9 rfl rfl)
theorem dX4_order_81 : decode cX4_order 81 = .ok (.getfield 13, 3) := dk_180 0 13 (dk_at dksX4_order_3 10 rfl rfl)
theorem dX4_order_84 : decode cX4_order 84 = .ok (.iload 7, 2) := dk_21 7 (dk_at dksX4_order_3 13 rfl rfl)
theorem dX4_order_86 : decode cX4_order 86 = .ok (.iconst 1, 1) := dk_4 (dk_at dksX4_order_3 15 rfl rfl)
theorem dX4_order_87 : decode cX4_order 87 = .ok (.isub, 1) := dk_100 (dk_at dksX4_order_3 16 rfl rfl)
theorem dX4_order_88 : decode cX4_order 88 = .ok (.iaload, 1) := dk_46 (dk_at dksX4_order_3 17 rfl rfl)
theorem dX4_order_89 : decode cX4_order 89 = .ok (.iastore, 1) := dk_79 (dk_at dksX4_order_3 18 rfl rfl)
theorem dX4_order_90 : decode cX4_order 90 = .ok (.iload 7, 2) := dk_21 7 (dk_at dksX4_order_3 19 rfl rfl)
theorem dX4_order_92 : decode cX4_order 92 = .ok (.iconst 1, 1) := dk_4 (dk_at dksX4_order_3 21 rfl rfl)
theorem dX4_order_93 : decode cX4_order 93 = .ok (.isub, 1) := dk_100 (dk_at dksX4_order_3 22 rfl rfl)
theorem dX4_order_94 : decode cX4_order 94 = .ok (.istore 7, 2) := dk_54 7 (dk_at dksX4_order_4 0 rfl rfl)
theorem dX4_order_96 : decode cX4_order 96 = .ok (.goto (-42), 3) := dk_167 255 214 (dk_at dksX4_order_4 2 rfl rfl)
theorem dX4_order_99 : decode cX4_order 99 = .ok (.aload_n 0, 1) := dk_42 (dk_at dksX4_order_4 5 rfl rfl)
theorem dX4_order_100 : decode cX4_order 100 = .ok (.getfield 13, 3) := dk_180 0 13 (dk_at dksX4_order_4 6 rfl rfl)
theorem dX4_order_103 : decode cX4_order 103 = .ok (.iload 7, 2) := dk_21 7 (dk_at dksX4_order_4 9 rfl rfl)
theorem dX4_order_105 : decode cX4_order 105 = .ok (.iload 6, 2) := dk_21 6 (dk_at dksX4_order_4 11 rfl rfl)
theorem dX4_order_107 : decode cX4_order 107 = .ok (.iastore, 1) := dk_79 (dk_at dksX4_order_4 13 rfl rfl)
theorem dX4_order_108 : decode cX4_order 108 = .ok (.iinc 5 1, 3) := dk_132 5 1 (dk_at dksX4_order_4 14 rfl rfl)
theorem dX4_order_111 : decode cX4_order 111 = .ok (.goto (-79), 3) := dk_167 255 177 (dk_at dksX4_order_4 17 rfl rfl)
theorem dX4_order_114 : decode cX4_order 114 = .ok (.iload 4, 2) := dk_21 4 (dk_at dksX4_order_4 20 rfl rfl)
theorem dX4_order_116 : decode cX4_order 116 = .ok (.ireturn, 1) := dk_172 (dk_at dksX4_order_4 22 rfl rfl)
abbrev cX4_merge : ByteArray := prog_4_method_12_code
def yX4_merge : MethodName := ⟨RX4, "merge", "(II)I"⟩
def dkwX4_merge_0 : List UInt8 := [42, 27, 28, 182, 0, 28, 172]
abbrev dktX4_merge_0 : List UInt8 := dkwX4_merge_0 ++ []
theorem dksX4_merge_0 : cX4_merge.data.toList.drop 0 = dktX4_merge_0 := by decide +kernel
theorem dX4_merge_0 : decode cX4_merge 0 = .ok (.aload_n 0, 1) := dk_42 (dk_at dksX4_merge_0 0 rfl rfl)
theorem dX4_merge_1 : decode cX4_merge 1 = .ok (.iload_n 1, 1) := dk_27 (dk_at dksX4_merge_0 1 rfl rfl)
theorem dX4_merge_2 : decode cX4_merge 2 = .ok (.iload_n 2, 1) := dk_28 (dk_at dksX4_merge_0 2 rfl rfl)
theorem dX4_merge_3 : decode cX4_merge 3 = .ok (.invokevirtual 28, 3) := dk_182 0 28 (dk_at dksX4_merge_0 3 rfl rfl)
theorem dX4_merge_6 : decode cX4_merge 6 = .ok (.ireturn, 1) := dk_172 (dk_at dksX4_merge_0 6 rfl rfl)
abbrev cX4_radix : ByteArray := prog_4_method_13_code
def yX4_radix : MethodName := ⟨RX4, "radix", "(II)I"⟩
def dkwX4_radix_0 : List UInt8 := [42, 27, 28, 182, 0, 28, 172]
abbrev dktX4_radix_0 : List UInt8 := dkwX4_radix_0 ++ []
theorem dksX4_radix_0 : cX4_radix.data.toList.drop 0 = dktX4_radix_0 := by decide +kernel
theorem dX4_radix_0 : decode cX4_radix 0 = .ok (.aload_n 0, 1) := dk_42 (dk_at dksX4_radix_0 0 rfl rfl)
theorem dX4_radix_1 : decode cX4_radix 1 = .ok (.iload_n 1, 1) := dk_27 (dk_at dksX4_radix_0 1 rfl rfl)
theorem dX4_radix_2 : decode cX4_radix 2 = .ok (.iload_n 2, 1) := dk_28 (dk_at dksX4_radix_0 2 rfl rfl)
theorem dX4_radix_3 : decode cX4_radix 3 = .ok (.invokevirtual 28, 3) := dk_182 0 28 (dk_at dksX4_radix_0 3 rfl rfl)
theorem dX4_radix_6 : decode cX4_radix 6 = .ok (.ireturn, 1) := dk_172 (dk_at dksX4_radix_0 6 rfl rfl)
abbrev cX4_empty : ByteArray := prog_4_method_14_code
def yX4_empty : MethodName := ⟨RX4, "empty", "()V"⟩
def dkwX4_empty_0 : List UInt8 := [42, 3, 181, 0, 25, 177]
abbrev dktX4_empty_0 : List UInt8 := dkwX4_empty_0 ++ []
theorem dksX4_empty_0 : cX4_empty.data.toList.drop 0 = dktX4_empty_0 := by decide +kernel
theorem dX4_empty_0 : decode cX4_empty 0 = .ok (.aload_n 0, 1) := dk_42 (dk_at dksX4_empty_0 0 rfl rfl)
theorem dX4_empty_1 : decode cX4_empty 1 = .ok (.iconst 0, 1) := dk_3 (dk_at dksX4_empty_0 1 rfl rfl)
theorem dX4_empty_2 : decode cX4_empty 2 = .ok (.putfield 25, 3) := dk_181 0 25 (dk_at dksX4_empty_0 2 rfl rfl)
theorem dX4_empty_5 : decode cX4_empty 5 = .ok (.return_, 1) := dk_177 (dk_at dksX4_empty_0 5 rfl rfl)
theorem q8 : (Jvm.Cond.initialized "HeapLineModel") ∈ lw_all := lw_g (lw_at lw_m1 5 rfl) rfl
theorem q281 : (Jvm.Cond.instantiable "HeapLineModel" (4 : Nat)) ∈ lw_all := lw_g (lw_at lw_m2 38 rfl) rfl
theorem q283 : (Jvm.Cond.instanceMethod ({ cls := "HeapLineModel", name := "<init>", desc := "()V" } : Jvm.MethodName)) ∈ lw_all := lw_g (lw_at lw_m2 40 rfl) rfl
theorem q284 : (Jvm.Cond.code ({ cls := "HeapLineModel", name := "<init>", desc := "()V" } : Jvm.MethodName) prog_4_method_1_code (1 : Nat) (Option.none : Option Jvm.ClassFile.FieldType)) ∈ lw_all := lw_g (lw_at lw_m2 41 rfl) rfl
theorem q285 : (Jvm.Cond.methodLink "HeapLineModel" (1 : Nat) ({ cls := "java/lang/Object", name := "<init>", desc := "()V" } : Jvm.MethodName)) ∈ lw_all := lw_g (lw_at lw_m2 42 rfl) rfl
theorem q286 : (Jvm.Cond.fieldLink "HeapLineModel" (7 : Nat) "HeapLineModel" "keys" "[I") ∈ lw_all := lw_g (lw_at lw_m2 43 rfl) rfl
theorem q287 : (Jvm.Cond.fieldLink "HeapLineModel" (16 : Nat) "HeapLineModel" "count" "I") ∈ lw_all := lw_g (lw_at lw_m2 44 rfl) rfl
theorem q288 : (Jvm.Cond.fieldLink "HeapLineModel" (13 : Nat) "HeapLineModel" "rows" "[I") ∈ lw_all := lw_g (lw_at lw_m2 45 rfl) rfl
theorem q289 : (Jvm.Cond.fieldLink "HeapLineModel" (25 : Nat) "HeapLineModel" "size" "I") ∈ lw_all := lw_g (lw_at lw_m2 46 rfl) rfl
theorem q290 : (Jvm.Cond.laysFinal "HeapLineModel" "HeapLineModel" "keys" "[I") ∈ lw_all := lw_g (lw_at lw_m2 47 rfl) rfl
theorem q291 : (Jvm.Cond.soleField "HeapLineModel" "keys") ∈ lw_all := lw_g (lw_at lw_m2 48 rfl) rfl
theorem q292 : (Jvm.Cond.lays "HeapLineModel" "HeapLineModel" "count" "I") ∈ lw_all := lw_g (lw_at lw_m2 49 rfl) rfl
theorem q293 : (Jvm.Cond.soleField "HeapLineModel" "count") ∈ lw_all := lw_g (lw_at lw_m2 50 rfl) rfl
theorem q294 : (Jvm.Cond.laysFinal "HeapLineModel" "HeapLineModel" "rows" "[I") ∈ lw_all := lw_g (lw_at lw_m2 51 rfl) rfl
theorem q295 : (Jvm.Cond.soleField "HeapLineModel" "rows") ∈ lw_all := lw_g (lw_at lw_m2 52 rfl) rfl
theorem q296 : (Jvm.Cond.lays "HeapLineModel" "HeapLineModel" "size" "I") ∈ lw_all := lw_g (lw_at lw_m2 53 rfl) rfl
theorem q297 : (Jvm.Cond.soleField "HeapLineModel" "size") ∈ lw_all := lw_g (lw_at lw_m2 54 rfl) rfl
theorem q298 : (Jvm.Cond.superclass "HeapLineModel" "java/lang/Object") ∈ lw_all := lw_g (lw_at lw_m2 55 rfl) rfl
theorem q300 : (Jvm.Cond.instanceMethod ({ cls := "HeapLineModel", name := "add", desc := "(I)Z" } : Jvm.MethodName)) ∈ lw_all := lw_g (lw_at lw_m2 57 rfl) rfl
theorem q301 : (Jvm.Cond.selects "HeapLineModel" ({ cls := "HeapLineModel", name := "add", desc := "(I)Z" } : Jvm.MethodName) ({ cls := "HeapLineModel", name := "add", desc := "(I)Z" } : Jvm.MethodName)) ∈ lw_all := lw_g (lw_at lw_m2 58 rfl) rfl
theorem q302 : (Jvm.Cond.code ({ cls := "HeapLineModel", name := "add", desc := "(I)Z" } : Jvm.MethodName) prog_4_method_3_code (2 : Nat) (Option.some Jvm.ClassFile.FieldType.boolean)) ∈ lw_all := lw_g (lw_at lw_m2 59 rfl) rfl
theorem q304 : (Jvm.Cond.instanceMethod ({ cls := "HeapLineModel", name := "take", desc := "()I" } : Jvm.MethodName)) ∈ lw_all := lw_g (lw_at lw_m2 61 rfl) rfl
theorem q305 : (Jvm.Cond.selects "HeapLineModel" ({ cls := "HeapLineModel", name := "take", desc := "()I" } : Jvm.MethodName) ({ cls := "HeapLineModel", name := "take", desc := "()I" } : Jvm.MethodName)) ∈ lw_all := lw_g (lw_at lw_m2 62 rfl) rfl
theorem q306 : (Jvm.Cond.code ({ cls := "HeapLineModel", name := "take", desc := "()I" } : Jvm.MethodName) prog_4_method_4_code (3 : Nat) (Option.some Jvm.ClassFile.FieldType.int)) ∈ lw_all := lw_g (lw_at lw_m2 63 rfl) rfl
theorem q307 : (Jvm.Cond.methodLink "HeapLineModel" (20 : Nat) ({ cls := "HeapLineModel", name := "best", desc := "()I" } : Jvm.MethodName)) ∈ lw_all := lw_g (lw_at lw_m2 64 rfl) rfl
theorem q308 : (Jvm.Cond.privateMethod ({ cls := "HeapLineModel", name := "best", desc := "()I" } : Jvm.MethodName)) ∈ lw_tbl := lw_at lw_m2 65 rfl
theorem q309 : (Jvm.Cond.instanceMethod ({ cls := "HeapLineModel", name := "best", desc := "()I" } : Jvm.MethodName)) ∈ lw_all := lw_g (lw_at lw_m2 66 rfl) rfl
theorem q310 : (Jvm.Cond.code ({ cls := "HeapLineModel", name := "best", desc := "()I" } : Jvm.MethodName) prog_4_method_2_code (3 : Nat) (Option.some Jvm.ClassFile.FieldType.int)) ∈ lw_all := lw_g (lw_at lw_m2 67 rfl) rfl
theorem q312 : (Jvm.Cond.instanceMethod ({ cls := "HeapLineModel", name := "least", desc := "()I" } : Jvm.MethodName)) ∈ lw_all := lw_g (lw_at lw_m2 69 rfl) rfl
theorem q313 : (Jvm.Cond.selects "HeapLineModel" ({ cls := "HeapLineModel", name := "least", desc := "()I" } : Jvm.MethodName) ({ cls := "HeapLineModel", name := "least", desc := "()I" } : Jvm.MethodName)) ∈ lw_all := lw_g (lw_at lw_m2 70 rfl) rfl
theorem q314 : (Jvm.Cond.code ({ cls := "HeapLineModel", name := "least", desc := "()I" } : Jvm.MethodName) prog_4_method_5_code (1 : Nat) (Option.some Jvm.ClassFile.FieldType.int)) ∈ lw_all := lw_g (lw_at lw_m2 71 rfl) rfl
theorem q316 : (Jvm.Cond.instanceMethod ({ cls := "HeapLineModel", name := "waiting", desc := "()I" } : Jvm.MethodName)) ∈ lw_all := lw_g (lw_at lw_m2 73 rfl) rfl
theorem q317 : (Jvm.Cond.selects "HeapLineModel" ({ cls := "HeapLineModel", name := "waiting", desc := "()I" } : Jvm.MethodName) ({ cls := "HeapLineModel", name := "waiting", desc := "()I" } : Jvm.MethodName)) ∈ lw_all := lw_g (lw_at lw_m2 74 rfl) rfl
theorem q318 : (Jvm.Cond.code ({ cls := "HeapLineModel", name := "waiting", desc := "()I" } : Jvm.MethodName) prog_4_method_6_code (1 : Nat) (Option.some Jvm.ClassFile.FieldType.int)) ∈ lw_all := lw_g (lw_at lw_m2 75 rfl) rfl
theorem q320 : (Jvm.Cond.instanceMethod ({ cls := "HeapLineModel", name := "drain", desc := "()V" } : Jvm.MethodName)) ∈ lw_all := lw_g (lw_at lw_m2 77 rfl) rfl
theorem q321 : (Jvm.Cond.selects "HeapLineModel" ({ cls := "HeapLineModel", name := "drain", desc := "()V" } : Jvm.MethodName) ({ cls := "HeapLineModel", name := "drain", desc := "()V" } : Jvm.MethodName)) ∈ lw_all := lw_g (lw_at lw_m2 78 rfl) rfl
theorem q322 : (Jvm.Cond.code ({ cls := "HeapLineModel", name := "drain", desc := "()V" } : Jvm.MethodName) prog_4_method_7_code (1 : Nat) (Option.none : Option Jvm.ClassFile.FieldType)) ∈ lw_all := lw_g (lw_at lw_m2 79 rfl) rfl
theorem q324 : (Jvm.Cond.instanceMethod ({ cls := "HeapLineModel", name := "ramp", desc := "(III)I" } : Jvm.MethodName)) ∈ lw_all := lw_g (lw_at lw_m2 81 rfl) rfl
theorem q325 : (Jvm.Cond.selects "HeapLineModel" ({ cls := "HeapLineModel", name := "ramp", desc := "(III)I" } : Jvm.MethodName) ({ cls := "HeapLineModel", name := "ramp", desc := "(III)I" } : Jvm.MethodName)) ∈ lw_all := lw_g (lw_at lw_m2 82 rfl) rfl
theorem q326 : (Jvm.Cond.code ({ cls := "HeapLineModel", name := "ramp", desc := "(III)I" } : Jvm.MethodName) prog_4_method_8_code (7 : Nat) (Option.some Jvm.ClassFile.FieldType.int)) ∈ lw_all := lw_g (lw_at lw_m2 83 rfl) rfl
theorem q327 : (Jvm.Cond.constant "HeapLineModel" (24 : Nat) (2147483647 : Int32)) ∈ lw_all := lw_g (lw_at lw_m2 84 rfl) rfl
theorem q329 : (Jvm.Cond.instanceMethod ({ cls := "HeapLineModel", name := "row", desc := "(I)I" } : Jvm.MethodName)) ∈ lw_all := lw_g (lw_at lw_m2 86 rfl) rfl
theorem q330 : (Jvm.Cond.selects "HeapLineModel" ({ cls := "HeapLineModel", name := "row", desc := "(I)I" } : Jvm.MethodName) ({ cls := "HeapLineModel", name := "row", desc := "(I)I" } : Jvm.MethodName)) ∈ lw_all := lw_g (lw_at lw_m2 87 rfl) rfl
theorem q331 : (Jvm.Cond.code ({ cls := "HeapLineModel", name := "row", desc := "(I)I" } : Jvm.MethodName) prog_4_method_9_code (2 : Nat) (Option.some Jvm.ClassFile.FieldType.int)) ∈ lw_all := lw_g (lw_at lw_m2 88 rfl) rfl
theorem q333 : (Jvm.Cond.instanceMethod ({ cls := "HeapLineModel", name := "quick", desc := "(II)I" } : Jvm.MethodName)) ∈ lw_all := lw_g (lw_at lw_m2 90 rfl) rfl
theorem q334 : (Jvm.Cond.selects "HeapLineModel" ({ cls := "HeapLineModel", name := "quick", desc := "(II)I" } : Jvm.MethodName) ({ cls := "HeapLineModel", name := "quick", desc := "(II)I" } : Jvm.MethodName)) ∈ lw_all := lw_g (lw_at lw_m2 91 rfl) rfl
theorem q335 : (Jvm.Cond.code ({ cls := "HeapLineModel", name := "quick", desc := "(II)I" } : Jvm.MethodName) prog_4_method_11_code (3 : Nat) (Option.some Jvm.ClassFile.FieldType.int)) ∈ lw_all := lw_g (lw_at lw_m2 92 rfl) rfl
theorem q336 : (Jvm.Cond.methodLink "HeapLineModel" (28 : Nat) ({ cls := "HeapLineModel", name := "order", desc := "(II)I" } : Jvm.MethodName)) ∈ lw_all := lw_g (lw_at lw_m2 93 rfl) rfl
theorem q337 : (Jvm.Cond.privateMethod ({ cls := "HeapLineModel", name := "order", desc := "(II)I" } : Jvm.MethodName)) ∈ lw_tbl := lw_at lw_m2 94 rfl
theorem q338 : (Jvm.Cond.instanceMethod ({ cls := "HeapLineModel", name := "order", desc := "(II)I" } : Jvm.MethodName)) ∈ lw_all := lw_g (lw_at lw_m2 95 rfl) rfl
theorem q339 : (Jvm.Cond.code ({ cls := "HeapLineModel", name := "order", desc := "(II)I" } : Jvm.MethodName) prog_4_method_10_code (8 : Nat) (Option.some Jvm.ClassFile.FieldType.int)) ∈ lw_all := lw_g (lw_at lw_m2 96 rfl) rfl
theorem q341 : (Jvm.Cond.instanceMethod ({ cls := "HeapLineModel", name := "merge", desc := "(II)I" } : Jvm.MethodName)) ∈ lw_all := lw_g (lw_at lw_m2 98 rfl) rfl
theorem q342 : (Jvm.Cond.selects "HeapLineModel" ({ cls := "HeapLineModel", name := "merge", desc := "(II)I" } : Jvm.MethodName) ({ cls := "HeapLineModel", name := "merge", desc := "(II)I" } : Jvm.MethodName)) ∈ lw_all := lw_g (lw_at lw_m2 99 rfl) rfl
theorem q343 : (Jvm.Cond.code ({ cls := "HeapLineModel", name := "merge", desc := "(II)I" } : Jvm.MethodName) prog_4_method_12_code (3 : Nat) (Option.some Jvm.ClassFile.FieldType.int)) ∈ lw_all := lw_g (lw_at lw_m2 100 rfl) rfl
theorem q345 : (Jvm.Cond.instanceMethod ({ cls := "HeapLineModel", name := "radix", desc := "(II)I" } : Jvm.MethodName)) ∈ lw_all := lw_g (lw_at lw_m2 102 rfl) rfl
theorem q346 : (Jvm.Cond.selects "HeapLineModel" ({ cls := "HeapLineModel", name := "radix", desc := "(II)I" } : Jvm.MethodName) ({ cls := "HeapLineModel", name := "radix", desc := "(II)I" } : Jvm.MethodName)) ∈ lw_all := lw_g (lw_at lw_m2 103 rfl) rfl
theorem q347 : (Jvm.Cond.code ({ cls := "HeapLineModel", name := "radix", desc := "(II)I" } : Jvm.MethodName) prog_4_method_13_code (3 : Nat) (Option.some Jvm.ClassFile.FieldType.int)) ∈ lw_all := lw_g (lw_at lw_m2 104 rfl) rfl
theorem q349 : (Jvm.Cond.instanceMethod ({ cls := "HeapLineModel", name := "empty", desc := "()V" } : Jvm.MethodName)) ∈ lw_all := lw_g (lw_at lw_m2 106 rfl) rfl
theorem q350 : (Jvm.Cond.selects "HeapLineModel" ({ cls := "HeapLineModel", name := "empty", desc := "()V" } : Jvm.MethodName) ({ cls := "HeapLineModel", name := "empty", desc := "()V" } : Jvm.MethodName)) ∈ lw_all := lw_g (lw_at lw_m2 107 rfl) rfl
theorem q351 : (Jvm.Cond.code ({ cls := "HeapLineModel", name := "empty", desc := "()V" } : Jvm.MethodName) prog_4_method_14_code (1 : Nat) (Option.none : Option Jvm.ClassFile.FieldType)) ∈ lw_all := lw_g (lw_at lw_m2 108 rfl) rfl
theorem q358 : (Jvm.Cond.castable "HeapLineModel" "java/lang/Object") ∈ lw_tbl := lw_at lw_m2 115 rfl
theorem in_X4 : ∀ w ∈ wsX40, w ∈ lw_all := lw_in wsX40 [290, 292, 294, 296] (by decide +kernel) (by decide +kernel)
end
section
/-! the law's own entry -/
set_option maxRecDepth 100000
abbrev cL_law : ByteArray := code
def dkwL_law_13 : List UInt8 := [3, 172, 43, 182, 0, 58, 44, 182, 0, 61, 167, 0, 3, 132, 3, 6, 167, 254, 186, 4, 172]
abbrev dktL_law_13 : List UInt8 := dkwL_law_13 ++ []
def dkwL_law_12 : List UInt8 := [29, 5, 96, 46, 182, 0, 54, 44, 42, 29, 4, 96, 46, 42, 29, 5, 96, 46, 182, 0, 57, 159, 0, 16]
abbrev dktL_law_12 : List UInt8 := dkwL_law_12 ++ dktL_law_13
def dkwL_law_11 : List UInt8 := [29, 4, 96, 46, 42, 29, 5, 96, 46, 182, 0, 53, 159, 0, 49, 3, 172, 43, 42, 29, 4, 96, 46, 42]
abbrev dktL_law_11 : List UInt8 := dkwL_law_11 ++ dktL_law_12
def dkwL_law_10 : List UInt8 := [182, 0, 49, 159, 0, 82, 3, 172, 43, 42, 29, 4, 96, 46, 42, 29, 5, 96, 46, 182, 0, 50, 44, 42]
abbrev dktL_law_10 : List UInt8 := dkwL_law_10 ++ dktL_law_11
def dkwL_law_9 : List UInt8 := [4, 96, 46, 42, 29, 5, 96, 46, 182, 0, 45, 44, 42, 29, 4, 96, 46, 42, 29, 5, 96, 46]
abbrev dktL_law_9 : List UInt8 := dkwL_law_9 ++ dktL_law_10
def dkwL_law_8 : List UInt8 := [29, 4, 96, 46, 182, 0, 40, 44, 42, 29, 4, 96, 46, 182, 0, 44, 159, 0, 115, 3, 172, 43, 42, 29]
abbrev dktL_law_8 : List UInt8 := dkwL_law_8 ++ dktL_law_9
def dkwL_law_7 : List UInt8 := [29, 4, 96, 46, 42, 29, 5, 96, 46, 42, 29, 6, 96, 46, 182, 0, 39, 159, 0, 138, 3, 172, 43, 42]
abbrev dktL_law_7 : List UInt8 := dkwL_law_7 ++ dktL_law_8
def dkwL_law_6 : List UInt8 := [167, 0, 179, 43, 42, 29, 4, 96, 46, 42, 29, 5, 96, 46, 42, 29, 6, 96, 46, 182, 0, 35, 44, 42]
abbrev dktL_law_6 : List UInt8 := dkwL_law_6 ++ dktL_law_7
def dkwL_law_5 : List UInt8 := [172, 43, 182, 0, 27, 44, 182, 0, 30, 159, 0, 192, 3, 172, 43, 182, 0, 31, 44, 182, 0, 34]
abbrev dktL_law_5 : List UInt8 := dkwL_law_5 ++ dktL_law_6
def dkwL_law_4 : List UInt8 := [182, 0, 18, 44, 182, 0, 22, 159, 0, 218, 3, 172, 43, 182, 0, 23, 44, 182, 0, 26, 159, 0, 205, 3]
abbrev dktL_law_4 : List UInt8 := dkwL_law_4 ++ dktL_law_5
def dkwL_law_3 : List UInt8 := [43, 42, 29, 4, 96, 46, 182, 0, 13, 44, 42, 29, 4, 96, 46, 182, 0, 17, 159, 0, 231, 3, 172, 43]
abbrev dktL_law_3 : List UInt8 := dkwL_law_3 ++ dktL_law_4
def dkwL_law_2 : List UInt8 := [170, 0, 0, 0, 0, 1, 52, 0, 0, 0, 0, 0, 0, 0, 10, 0, 0, 0, 59, 0, 0, 0, 82, 0, 0, 0, 95, 0, 0, 0, 108, 0, 0, 0, 121, 0, 0, 0, 132, 0, 0, 0, 175, 0, 0, 0, 198, 0, 0, 0, 231, 0, 0, 1, 8, 0, 0, 1, 41]
abbrev dktL_law_2 : List UInt8 := dkwL_law_2 ++ dktL_law_3
def dkwL_law_1 : List UInt8 := [163, 1, 67, 42, 29, 46, 16, 15, 126]
abbrev dktL_law_1 : List UInt8 := dkwL_law_1 ++ dktL_law_2
def dkwL_law_0 : List UInt8 := [187, 0, 7, 89, 183, 0, 9, 76, 187, 0, 10, 89, 183, 0, 12, 77, 3, 62, 29, 42, 190, 16, 6, 100]
abbrev dktL_law_0 : List UInt8 := dkwL_law_0 ++ dktL_law_1
theorem dksL_law_0 : cL_law.data.toList.drop 0 = dktL_law_0 := by decide +kernel
theorem dksL_law_1 : cL_law.data.toList.drop 24 = dktL_law_1 := dk_seg dksL_law_0 24 rfl rfl
theorem dksL_law_2 : cL_law.data.toList.drop 33 = dktL_law_2 := dk_seg dksL_law_1 9 rfl rfl
theorem dksL_law_3 : cL_law.data.toList.drop 92 = dktL_law_3 := dk_seg dksL_law_2 59 rfl rfl
theorem dksL_law_4 : cL_law.data.toList.drop 116 = dktL_law_4 := dk_seg dksL_law_3 24 rfl rfl
theorem dksL_law_5 : cL_law.data.toList.drop 140 = dktL_law_5 := dk_seg dksL_law_4 24 rfl rfl
theorem dksL_law_6 : cL_law.data.toList.drop 162 = dktL_law_6 := dk_seg dksL_law_5 22 rfl rfl
theorem dksL_law_7 : cL_law.data.toList.drop 186 = dktL_law_7 := dk_seg dksL_law_6 24 rfl rfl
theorem dksL_law_8 : cL_law.data.toList.drop 210 = dktL_law_8 := dk_seg dksL_law_7 24 rfl rfl
theorem dksL_law_9 : cL_law.data.toList.drop 234 = dktL_law_9 := dk_seg dksL_law_8 24 rfl rfl
theorem dksL_law_10 : cL_law.data.toList.drop 256 = dktL_law_10 := dk_seg dksL_law_9 22 rfl rfl
theorem dksL_law_11 : cL_law.data.toList.drop 280 = dktL_law_11 := dk_seg dksL_law_10 24 rfl rfl
theorem dksL_law_12 : cL_law.data.toList.drop 304 = dktL_law_12 := dk_seg dksL_law_11 24 rfl rfl
theorem dksL_law_13 : cL_law.data.toList.drop 328 = dktL_law_13 := dk_seg dksL_law_12 24 rfl rfl
theorem dL_law_0 : decode cL_law 0 = .ok (.new 7, 3) := dk_187 0 7 (dk_at dksL_law_0 0 rfl rfl)
theorem dL_law_3 : decode cL_law 3 = .ok (.dup, 1) := dk_89 (dk_at dksL_law_0 3 rfl rfl)
theorem dL_law_4 : decode cL_law 4 = .ok (.invokespecial 9, 3) := dk_183 0 9 (dk_at dksL_law_0 4 rfl rfl)
theorem dL_law_7 : decode cL_law 7 = .ok (.astore_n 1, 1) := dk_76 (dk_at dksL_law_0 7 rfl rfl)
theorem dL_law_8 : decode cL_law 8 = .ok (.new 10, 3) := dk_187 0 10 (dk_at dksL_law_0 8 rfl rfl)
theorem dL_law_11 : decode cL_law 11 = .ok (.dup, 1) := dk_89 (dk_at dksL_law_0 11 rfl rfl)
theorem dL_law_12 : decode cL_law 12 = .ok (.invokespecial 12, 3) := dk_183 0 12 (dk_at dksL_law_0 12 rfl rfl)
theorem dL_law_15 : decode cL_law 15 = .ok (.astore_n 2, 1) := dk_77 (dk_at dksL_law_0 15 rfl rfl)
theorem dL_law_16 : decode cL_law 16 = .ok (.iconst 0, 1) := dk_3 (dk_at dksL_law_0 16 rfl rfl)
theorem dL_law_17 : decode cL_law 17 = .ok (.istore_n 3, 1) := dk_62 (dk_at dksL_law_0 17 rfl rfl)
theorem dL_law_18 : decode cL_law 18 = .ok (.iload_n 3, 1) := dk_29 (dk_at dksL_law_0 18 rfl rfl)
theorem dL_law_19 : decode cL_law 19 = .ok (.aload_n 0, 1) := dk_42 (dk_at dksL_law_0 19 rfl rfl)
theorem dL_law_20 : decode cL_law 20 = .ok (.arraylength, 1) := dk_190 (dk_at dksL_law_0 20 rfl rfl)
theorem dL_law_21 : decode cL_law 21 = .ok (.bipush 6, 2) := dk_16 6 (dk_at dksL_law_0 21 rfl rfl)
theorem dL_law_23 : decode cL_law 23 = .ok (.isub, 1) := dk_100 (dk_at dksL_law_0 23 rfl rfl)
theorem dL_law_24 : decode cL_law 24 = .ok (.if_icmp .gt 323, 3) := dk_163 1 67 (dk_at dksL_law_1 0 rfl rfl)
theorem dL_law_27 : decode cL_law 27 = .ok (.aload_n 0, 1) := dk_42 (dk_at dksL_law_1 3 rfl rfl)
theorem dL_law_28 : decode cL_law 28 = .ok (.iload_n 3, 1) := dk_29 (dk_at dksL_law_1 4 rfl rfl)
theorem dL_law_29 : decode cL_law 29 = .ok (.iaload, 1) := dk_46 (dk_at dksL_law_1 5 rfl rfl)
theorem dL_law_30 : decode cL_law 30 = .ok (.bipush 15, 2) := dk_16 15 (dk_at dksL_law_1 6 rfl rfl)
theorem dL_law_32 : decode cL_law 32 = .ok (.iand, 1) := dk_126 (dk_at dksL_law_1 8 rfl rfl)
theorem dL_law_33 : decode cL_law 33 = .ok (.tableswitch 308 0 10 #[59, 82, 95, 108, 121, 132, 175, 198, 231, 264, 297], 59) := by decide +kernel
theorem dL_law_92 : decode cL_law 92 = .ok (.aload_n 1, 1) := dk_43 (dk_at dksL_law_3 0 rfl rfl)
theorem dL_law_93 : decode cL_law 93 = .ok (.aload_n 0, 1) := dk_42 (dk_at dksL_law_3 1 rfl rfl)
theorem dL_law_94 : decode cL_law 94 = .ok (.iload_n 3, 1) := dk_29 (dk_at dksL_law_3 2 rfl rfl)
theorem dL_law_95 : decode cL_law 95 = .ok (.iconst 1, 1) := dk_4 (dk_at dksL_law_3 3 rfl rfl)
theorem dL_law_96 : decode cL_law 96 = .ok (.iadd, 1) := dk_96 (dk_at dksL_law_3 4 rfl rfl)
theorem dL_law_97 : decode cL_law 97 = .ok (.iaload, 1) := dk_46 (dk_at dksL_law_3 5 rfl rfl)
theorem dL_law_98 : decode cL_law 98 = .ok (.invokevirtual 13, 3) := dk_182 0 13 (dk_at dksL_law_3 6 rfl rfl)
theorem dL_law_101 : decode cL_law 101 = .ok (.aload_n 2, 1) := dk_44 (dk_at dksL_law_3 9 rfl rfl)
theorem dL_law_102 : decode cL_law 102 = .ok (.aload_n 0, 1) := dk_42 (dk_at dksL_law_3 10 rfl rfl)
theorem dL_law_103 : decode cL_law 103 = .ok (.iload_n 3, 1) := dk_29 (dk_at dksL_law_3 11 rfl rfl)
theorem dL_law_104 : decode cL_law 104 = .ok (.iconst 1, 1) := dk_4 (dk_at dksL_law_3 12 rfl rfl)
theorem dL_law_105 : decode cL_law 105 = .ok (.iadd, 1) := dk_96 (dk_at dksL_law_3 13 rfl rfl)
theorem dL_law_106 : decode cL_law 106 = .ok (.iaload, 1) := dk_46 (dk_at dksL_law_3 14 rfl rfl)
theorem dL_law_107 : decode cL_law 107 = .ok (.invokevirtual 17, 3) := dk_182 0 17 (dk_at dksL_law_3 15 rfl rfl)
theorem dL_law_110 : decode cL_law 110 = .ok (.if_icmp .eq 231, 3) := dk_159 0 231 (dk_at dksL_law_3 18 rfl rfl)
theorem dL_law_113 : decode cL_law 113 = .ok (.iconst 0, 1) := dk_3 (dk_at dksL_law_3 21 rfl rfl)
theorem dL_law_114 : decode cL_law 114 = .ok (.ireturn, 1) := dk_172 (dk_at dksL_law_3 22 rfl rfl)
theorem dL_law_115 : decode cL_law 115 = .ok (.aload_n 1, 1) := dk_43 (dk_at dksL_law_3 23 rfl rfl)
theorem dL_law_116 : decode cL_law 116 = .ok (.invokevirtual 18, 3) := dk_182 0 18 (dk_at dksL_law_4 0 rfl rfl)
theorem dL_law_119 : decode cL_law 119 = .ok (.aload_n 2, 1) := dk_44 (dk_at dksL_law_4 3 rfl rfl)
theorem dL_law_120 : decode cL_law 120 = .ok (.invokevirtual 22, 3) := dk_182 0 22 (dk_at dksL_law_4 4 rfl rfl)
theorem dL_law_123 : decode cL_law 123 = .ok (.if_icmp .eq 218, 3) := dk_159 0 218 (dk_at dksL_law_4 7 rfl rfl)
theorem dL_law_126 : decode cL_law 126 = .ok (.iconst 0, 1) := dk_3 (dk_at dksL_law_4 10 rfl rfl)
theorem dL_law_127 : decode cL_law 127 = .ok (.ireturn, 1) := dk_172 (dk_at dksL_law_4 11 rfl rfl)
theorem dL_law_128 : decode cL_law 128 = .ok (.aload_n 1, 1) := dk_43 (dk_at dksL_law_4 12 rfl rfl)
theorem dL_law_129 : decode cL_law 129 = .ok (.invokevirtual 23, 3) := dk_182 0 23 (dk_at dksL_law_4 13 rfl rfl)
theorem dL_law_132 : decode cL_law 132 = .ok (.aload_n 2, 1) := dk_44 (dk_at dksL_law_4 16 rfl rfl)
theorem dL_law_133 : decode cL_law 133 = .ok (.invokevirtual 26, 3) := dk_182 0 26 (dk_at dksL_law_4 17 rfl rfl)
theorem dL_law_136 : decode cL_law 136 = .ok (.if_icmp .eq 205, 3) := dk_159 0 205 (dk_at dksL_law_4 20 rfl rfl)
theorem dL_law_139 : decode cL_law 139 = .ok (.iconst 0, 1) := dk_3 (dk_at dksL_law_4 23 rfl rfl)
theorem dL_law_140 : decode cL_law 140 = .ok (.ireturn, 1) := dk_172 (dk_at dksL_law_5 0 rfl rfl)
theorem dL_law_141 : decode cL_law 141 = .ok (.aload_n 1, 1) := dk_43 (dk_at dksL_law_5 1 rfl rfl)
theorem dL_law_142 : decode cL_law 142 = .ok (.invokevirtual 27, 3) := dk_182 0 27 (dk_at dksL_law_5 2 rfl rfl)
theorem dL_law_145 : decode cL_law 145 = .ok (.aload_n 2, 1) := dk_44 (dk_at dksL_law_5 5 rfl rfl)
theorem dL_law_146 : decode cL_law 146 = .ok (.invokevirtual 30, 3) := dk_182 0 30 (dk_at dksL_law_5 6 rfl rfl)
theorem dL_law_149 : decode cL_law 149 = .ok (.if_icmp .eq 192, 3) := dk_159 0 192 (dk_at dksL_law_5 9 rfl rfl)
theorem dL_law_152 : decode cL_law 152 = .ok (.iconst 0, 1) := dk_3 (dk_at dksL_law_5 12 rfl rfl)
theorem dL_law_153 : decode cL_law 153 = .ok (.ireturn, 1) := dk_172 (dk_at dksL_law_5 13 rfl rfl)
theorem dL_law_154 : decode cL_law 154 = .ok (.aload_n 1, 1) := dk_43 (dk_at dksL_law_5 14 rfl rfl)
theorem dL_law_155 : decode cL_law 155 = .ok (.invokevirtual 31, 3) := dk_182 0 31 (dk_at dksL_law_5 15 rfl rfl)
theorem dL_law_158 : decode cL_law 158 = .ok (.aload_n 2, 1) := dk_44 (dk_at dksL_law_5 18 rfl rfl)
theorem dL_law_159 : decode cL_law 159 = .ok (.invokevirtual 34, 3) := dk_182 0 34 (dk_at dksL_law_5 19 rfl rfl)
theorem dL_law_162 : decode cL_law 162 = .ok (.goto 179, 3) := dk_167 0 179 (dk_at dksL_law_6 0 rfl rfl)
theorem dL_law_165 : decode cL_law 165 = .ok (.aload_n 1, 1) := dk_43 (dk_at dksL_law_6 3 rfl rfl)
theorem dL_law_166 : decode cL_law 166 = .ok (.aload_n 0, 1) := dk_42 (dk_at dksL_law_6 4 rfl rfl)
theorem dL_law_167 : decode cL_law 167 = .ok (.iload_n 3, 1) := dk_29 (dk_at dksL_law_6 5 rfl rfl)
theorem dL_law_168 : decode cL_law 168 = .ok (.iconst 1, 1) := dk_4 (dk_at dksL_law_6 6 rfl rfl)
theorem dL_law_169 : decode cL_law 169 = .ok (.iadd, 1) := dk_96 (dk_at dksL_law_6 7 rfl rfl)
theorem dL_law_170 : decode cL_law 170 = .ok (.iaload, 1) := dk_46 (dk_at dksL_law_6 8 rfl rfl)
theorem dL_law_171 : decode cL_law 171 = .ok (.aload_n 0, 1) := dk_42 (dk_at dksL_law_6 9 rfl rfl)
theorem dL_law_172 : decode cL_law 172 = .ok (.iload_n 3, 1) := dk_29 (dk_at dksL_law_6 10 rfl rfl)
theorem dL_law_173 : decode cL_law 173 = .ok (.iconst 2, 1) := dk_5 (dk_at dksL_law_6 11 rfl rfl)
theorem dL_law_174 : decode cL_law 174 = .ok (.iadd, 1) := dk_96 (dk_at dksL_law_6 12 rfl rfl)
theorem dL_law_175 : decode cL_law 175 = .ok (.iaload, 1) := dk_46 (dk_at dksL_law_6 13 rfl rfl)
theorem dL_law_176 : decode cL_law 176 = .ok (.aload_n 0, 1) := dk_42 (dk_at dksL_law_6 14 rfl rfl)
theorem dL_law_177 : decode cL_law 177 = .ok (.iload_n 3, 1) := dk_29 (dk_at dksL_law_6 15 rfl rfl)
theorem dL_law_178 : decode cL_law 178 = .ok (.iconst 3, 1) := dk_6 (dk_at dksL_law_6 16 rfl rfl)
theorem dL_law_179 : decode cL_law 179 = .ok (.iadd, 1) := dk_96 (dk_at dksL_law_6 17 rfl rfl)
theorem dL_law_180 : decode cL_law 180 = .ok (.iaload, 1) := dk_46 (dk_at dksL_law_6 18 rfl rfl)
theorem dL_law_181 : decode cL_law 181 = .ok (.invokevirtual 35, 3) := dk_182 0 35 (dk_at dksL_law_6 19 rfl rfl)
theorem dL_law_184 : decode cL_law 184 = .ok (.aload_n 2, 1) := dk_44 (dk_at dksL_law_6 22 rfl rfl)
theorem dL_law_185 : decode cL_law 185 = .ok (.aload_n 0, 1) := dk_42 (dk_at dksL_law_6 23 rfl rfl)
theorem dL_law_186 : decode cL_law 186 = .ok (.iload_n 3, 1) := dk_29 (dk_at dksL_law_7 0 rfl rfl)
theorem dL_law_187 : decode cL_law 187 = .ok (.iconst 1, 1) := dk_4 (dk_at dksL_law_7 1 rfl rfl)
theorem dL_law_188 : decode cL_law 188 = .ok (.iadd, 1) := dk_96 (dk_at dksL_law_7 2 rfl rfl)
theorem dL_law_189 : decode cL_law 189 = .ok (.iaload, 1) := dk_46 (dk_at dksL_law_7 3 rfl rfl)
theorem dL_law_190 : decode cL_law 190 = .ok (.aload_n 0, 1) := dk_42 (dk_at dksL_law_7 4 rfl rfl)
theorem dL_law_191 : decode cL_law 191 = .ok (.iload_n 3, 1) := dk_29 (dk_at dksL_law_7 5 rfl rfl)
theorem dL_law_192 : decode cL_law 192 = .ok (.iconst 2, 1) := dk_5 (dk_at dksL_law_7 6 rfl rfl)
theorem dL_law_193 : decode cL_law 193 = .ok (.iadd, 1) := dk_96 (dk_at dksL_law_7 7 rfl rfl)
theorem dL_law_194 : decode cL_law 194 = .ok (.iaload, 1) := dk_46 (dk_at dksL_law_7 8 rfl rfl)
theorem dL_law_195 : decode cL_law 195 = .ok (.aload_n 0, 1) := dk_42 (dk_at dksL_law_7 9 rfl rfl)
theorem dL_law_196 : decode cL_law 196 = .ok (.iload_n 3, 1) := dk_29 (dk_at dksL_law_7 10 rfl rfl)
theorem dL_law_197 : decode cL_law 197 = .ok (.iconst 3, 1) := dk_6 (dk_at dksL_law_7 11 rfl rfl)
theorem dL_law_198 : decode cL_law 198 = .ok (.iadd, 1) := dk_96 (dk_at dksL_law_7 12 rfl rfl)
theorem dL_law_199 : decode cL_law 199 = .ok (.iaload, 1) := dk_46 (dk_at dksL_law_7 13 rfl rfl)
theorem dL_law_200 : decode cL_law 200 = .ok (.invokevirtual 39, 3) := dk_182 0 39 (dk_at dksL_law_7 14 rfl rfl)
theorem dL_law_203 : decode cL_law 203 = .ok (.if_icmp .eq 138, 3) := dk_159 0 138 (dk_at dksL_law_7 17 rfl rfl)
theorem dL_law_206 : decode cL_law 206 = .ok (.iconst 0, 1) := dk_3 (dk_at dksL_law_7 20 rfl rfl)
theorem dL_law_207 : decode cL_law 207 = .ok (.ireturn, 1) := dk_172 (dk_at dksL_law_7 21 rfl rfl)
theorem dL_law_208 : decode cL_law 208 = .ok (.aload_n 1, 1) := dk_43 (dk_at dksL_law_7 22 rfl rfl)
theorem dL_law_209 : decode cL_law 209 = .ok (.aload_n 0, 1) := dk_42 (dk_at dksL_law_7 23 rfl rfl)
theorem dL_law_210 : decode cL_law 210 = .ok (.iload_n 3, 1) := dk_29 (dk_at dksL_law_8 0 rfl rfl)
theorem dL_law_211 : decode cL_law 211 = .ok (.iconst 1, 1) := dk_4 (dk_at dksL_law_8 1 rfl rfl)
theorem dL_law_212 : decode cL_law 212 = .ok (.iadd, 1) := dk_96 (dk_at dksL_law_8 2 rfl rfl)
theorem dL_law_213 : decode cL_law 213 = .ok (.iaload, 1) := dk_46 (dk_at dksL_law_8 3 rfl rfl)
theorem dL_law_214 : decode cL_law 214 = .ok (.invokevirtual 40, 3) := dk_182 0 40 (dk_at dksL_law_8 4 rfl rfl)
theorem dL_law_217 : decode cL_law 217 = .ok (.aload_n 2, 1) := dk_44 (dk_at dksL_law_8 7 rfl rfl)
theorem dL_law_218 : decode cL_law 218 = .ok (.aload_n 0, 1) := dk_42 (dk_at dksL_law_8 8 rfl rfl)
theorem dL_law_219 : decode cL_law 219 = .ok (.iload_n 3, 1) := dk_29 (dk_at dksL_law_8 9 rfl rfl)
theorem dL_law_220 : decode cL_law 220 = .ok (.iconst 1, 1) := dk_4 (dk_at dksL_law_8 10 rfl rfl)
theorem dL_law_221 : decode cL_law 221 = .ok (.iadd, 1) := dk_96 (dk_at dksL_law_8 11 rfl rfl)
theorem dL_law_222 : decode cL_law 222 = .ok (.iaload, 1) := dk_46 (dk_at dksL_law_8 12 rfl rfl)
theorem dL_law_223 : decode cL_law 223 = .ok (.invokevirtual 44, 3) := dk_182 0 44 (dk_at dksL_law_8 13 rfl rfl)
theorem dL_law_226 : decode cL_law 226 = .ok (.if_icmp .eq 115, 3) := dk_159 0 115 (dk_at dksL_law_8 16 rfl rfl)
theorem dL_law_229 : decode cL_law 229 = .ok (.iconst 0, 1) := dk_3 (dk_at dksL_law_8 19 rfl rfl)
theorem dL_law_230 : decode cL_law 230 = .ok (.ireturn, 1) := dk_172 (dk_at dksL_law_8 20 rfl rfl)
theorem dL_law_231 : decode cL_law 231 = .ok (.aload_n 1, 1) := dk_43 (dk_at dksL_law_8 21 rfl rfl)
theorem dL_law_232 : decode cL_law 232 = .ok (.aload_n 0, 1) := dk_42 (dk_at dksL_law_8 22 rfl rfl)
theorem dL_law_233 : decode cL_law 233 = .ok (.iload_n 3, 1) := dk_29 (dk_at dksL_law_8 23 rfl rfl)
theorem dL_law_234 : decode cL_law 234 = .ok (.iconst 1, 1) := dk_4 (dk_at dksL_law_9 0 rfl rfl)
theorem dL_law_235 : decode cL_law 235 = .ok (.iadd, 1) := dk_96 (dk_at dksL_law_9 1 rfl rfl)
theorem dL_law_236 : decode cL_law 236 = .ok (.iaload, 1) := dk_46 (dk_at dksL_law_9 2 rfl rfl)
theorem dL_law_237 : decode cL_law 237 = .ok (.aload_n 0, 1) := dk_42 (dk_at dksL_law_9 3 rfl rfl)
theorem dL_law_238 : decode cL_law 238 = .ok (.iload_n 3, 1) := dk_29 (dk_at dksL_law_9 4 rfl rfl)
theorem dL_law_239 : decode cL_law 239 = .ok (.iconst 2, 1) := dk_5 (dk_at dksL_law_9 5 rfl rfl)
theorem dL_law_240 : decode cL_law 240 = .ok (.iadd, 1) := dk_96 (dk_at dksL_law_9 6 rfl rfl)
theorem dL_law_241 : decode cL_law 241 = .ok (.iaload, 1) := dk_46 (dk_at dksL_law_9 7 rfl rfl)
theorem dL_law_242 : decode cL_law 242 = .ok (.invokevirtual 45, 3) := dk_182 0 45 (dk_at dksL_law_9 8 rfl rfl)
theorem dL_law_245 : decode cL_law 245 = .ok (.aload_n 2, 1) := dk_44 (dk_at dksL_law_9 11 rfl rfl)
theorem dL_law_246 : decode cL_law 246 = .ok (.aload_n 0, 1) := dk_42 (dk_at dksL_law_9 12 rfl rfl)
theorem dL_law_247 : decode cL_law 247 = .ok (.iload_n 3, 1) := dk_29 (dk_at dksL_law_9 13 rfl rfl)
theorem dL_law_248 : decode cL_law 248 = .ok (.iconst 1, 1) := dk_4 (dk_at dksL_law_9 14 rfl rfl)
theorem dL_law_249 : decode cL_law 249 = .ok (.iadd, 1) := dk_96 (dk_at dksL_law_9 15 rfl rfl)
theorem dL_law_250 : decode cL_law 250 = .ok (.iaload, 1) := dk_46 (dk_at dksL_law_9 16 rfl rfl)
theorem dL_law_251 : decode cL_law 251 = .ok (.aload_n 0, 1) := dk_42 (dk_at dksL_law_9 17 rfl rfl)
theorem dL_law_252 : decode cL_law 252 = .ok (.iload_n 3, 1) := dk_29 (dk_at dksL_law_9 18 rfl rfl)
theorem dL_law_253 : decode cL_law 253 = .ok (.iconst 2, 1) := dk_5 (dk_at dksL_law_9 19 rfl rfl)
theorem dL_law_254 : decode cL_law 254 = .ok (.iadd, 1) := dk_96 (dk_at dksL_law_9 20 rfl rfl)
theorem dL_law_255 : decode cL_law 255 = .ok (.iaload, 1) := dk_46 (dk_at dksL_law_9 21 rfl rfl)
theorem dL_law_256 : decode cL_law 256 = .ok (.invokevirtual 49, 3) := dk_182 0 49 (dk_at dksL_law_10 0 rfl rfl)
theorem dL_law_259 : decode cL_law 259 = .ok (.if_icmp .eq 82, 3) := dk_159 0 82 (dk_at dksL_law_10 3 rfl rfl)
theorem dL_law_262 : decode cL_law 262 = .ok (.iconst 0, 1) := dk_3 (dk_at dksL_law_10 6 rfl rfl)
theorem dL_law_263 : decode cL_law 263 = .ok (.ireturn, 1) := dk_172 (dk_at dksL_law_10 7 rfl rfl)
theorem dL_law_264 : decode cL_law 264 = .ok (.aload_n 1, 1) := dk_43 (dk_at dksL_law_10 8 rfl rfl)
theorem dL_law_265 : decode cL_law 265 = .ok (.aload_n 0, 1) := dk_42 (dk_at dksL_law_10 9 rfl rfl)
theorem dL_law_266 : decode cL_law 266 = .ok (.iload_n 3, 1) := dk_29 (dk_at dksL_law_10 10 rfl rfl)
theorem dL_law_267 : decode cL_law 267 = .ok (.iconst 1, 1) := dk_4 (dk_at dksL_law_10 11 rfl rfl)
theorem dL_law_268 : decode cL_law 268 = .ok (.iadd, 1) := dk_96 (dk_at dksL_law_10 12 rfl rfl)
theorem dL_law_269 : decode cL_law 269 = .ok (.iaload, 1) := dk_46 (dk_at dksL_law_10 13 rfl rfl)
theorem dL_law_270 : decode cL_law 270 = .ok (.aload_n 0, 1) := dk_42 (dk_at dksL_law_10 14 rfl rfl)
theorem dL_law_271 : decode cL_law 271 = .ok (.iload_n 3, 1) := dk_29 (dk_at dksL_law_10 15 rfl rfl)
theorem dL_law_272 : decode cL_law 272 = .ok (.iconst 2, 1) := dk_5 (dk_at dksL_law_10 16 rfl rfl)
theorem dL_law_273 : decode cL_law 273 = .ok (.iadd, 1) := dk_96 (dk_at dksL_law_10 17 rfl rfl)
theorem dL_law_274 : decode cL_law 274 = .ok (.iaload, 1) := dk_46 (dk_at dksL_law_10 18 rfl rfl)
theorem dL_law_275 : decode cL_law 275 = .ok (.invokevirtual 50, 3) := dk_182 0 50 (dk_at dksL_law_10 19 rfl rfl)
theorem dL_law_278 : decode cL_law 278 = .ok (.aload_n 2, 1) := dk_44 (dk_at dksL_law_10 22 rfl rfl)
theorem dL_law_279 : decode cL_law 279 = .ok (.aload_n 0, 1) := dk_42 (dk_at dksL_law_10 23 rfl rfl)
theorem dL_law_280 : decode cL_law 280 = .ok (.iload_n 3, 1) := dk_29 (dk_at dksL_law_11 0 rfl rfl)
theorem dL_law_281 : decode cL_law 281 = .ok (.iconst 1, 1) := dk_4 (dk_at dksL_law_11 1 rfl rfl)
theorem dL_law_282 : decode cL_law 282 = .ok (.iadd, 1) := dk_96 (dk_at dksL_law_11 2 rfl rfl)
theorem dL_law_283 : decode cL_law 283 = .ok (.iaload, 1) := dk_46 (dk_at dksL_law_11 3 rfl rfl)
theorem dL_law_284 : decode cL_law 284 = .ok (.aload_n 0, 1) := dk_42 (dk_at dksL_law_11 4 rfl rfl)
theorem dL_law_285 : decode cL_law 285 = .ok (.iload_n 3, 1) := dk_29 (dk_at dksL_law_11 5 rfl rfl)
theorem dL_law_286 : decode cL_law 286 = .ok (.iconst 2, 1) := dk_5 (dk_at dksL_law_11 6 rfl rfl)
theorem dL_law_287 : decode cL_law 287 = .ok (.iadd, 1) := dk_96 (dk_at dksL_law_11 7 rfl rfl)
theorem dL_law_288 : decode cL_law 288 = .ok (.iaload, 1) := dk_46 (dk_at dksL_law_11 8 rfl rfl)
theorem dL_law_289 : decode cL_law 289 = .ok (.invokevirtual 53, 3) := dk_182 0 53 (dk_at dksL_law_11 9 rfl rfl)
theorem dL_law_292 : decode cL_law 292 = .ok (.if_icmp .eq 49, 3) := dk_159 0 49 (dk_at dksL_law_11 12 rfl rfl)
theorem dL_law_295 : decode cL_law 295 = .ok (.iconst 0, 1) := dk_3 (dk_at dksL_law_11 15 rfl rfl)
theorem dL_law_296 : decode cL_law 296 = .ok (.ireturn, 1) := dk_172 (dk_at dksL_law_11 16 rfl rfl)
theorem dL_law_297 : decode cL_law 297 = .ok (.aload_n 1, 1) := dk_43 (dk_at dksL_law_11 17 rfl rfl)
theorem dL_law_298 : decode cL_law 298 = .ok (.aload_n 0, 1) := dk_42 (dk_at dksL_law_11 18 rfl rfl)
theorem dL_law_299 : decode cL_law 299 = .ok (.iload_n 3, 1) := dk_29 (dk_at dksL_law_11 19 rfl rfl)
theorem dL_law_300 : decode cL_law 300 = .ok (.iconst 1, 1) := dk_4 (dk_at dksL_law_11 20 rfl rfl)
theorem dL_law_301 : decode cL_law 301 = .ok (.iadd, 1) := dk_96 (dk_at dksL_law_11 21 rfl rfl)
theorem dL_law_302 : decode cL_law 302 = .ok (.iaload, 1) := dk_46 (dk_at dksL_law_11 22 rfl rfl)
theorem dL_law_303 : decode cL_law 303 = .ok (.aload_n 0, 1) := dk_42 (dk_at dksL_law_11 23 rfl rfl)
theorem dL_law_304 : decode cL_law 304 = .ok (.iload_n 3, 1) := dk_29 (dk_at dksL_law_12 0 rfl rfl)
theorem dL_law_305 : decode cL_law 305 = .ok (.iconst 2, 1) := dk_5 (dk_at dksL_law_12 1 rfl rfl)
theorem dL_law_306 : decode cL_law 306 = .ok (.iadd, 1) := dk_96 (dk_at dksL_law_12 2 rfl rfl)
theorem dL_law_307 : decode cL_law 307 = .ok (.iaload, 1) := dk_46 (dk_at dksL_law_12 3 rfl rfl)
theorem dL_law_308 : decode cL_law 308 = .ok (.invokevirtual 54, 3) := dk_182 0 54 (dk_at dksL_law_12 4 rfl rfl)
theorem dL_law_311 : decode cL_law 311 = .ok (.aload_n 2, 1) := dk_44 (dk_at dksL_law_12 7 rfl rfl)
theorem dL_law_312 : decode cL_law 312 = .ok (.aload_n 0, 1) := dk_42 (dk_at dksL_law_12 8 rfl rfl)
theorem dL_law_313 : decode cL_law 313 = .ok (.iload_n 3, 1) := dk_29 (dk_at dksL_law_12 9 rfl rfl)
theorem dL_law_314 : decode cL_law 314 = .ok (.iconst 1, 1) := dk_4 (dk_at dksL_law_12 10 rfl rfl)
theorem dL_law_315 : decode cL_law 315 = .ok (.iadd, 1) := dk_96 (dk_at dksL_law_12 11 rfl rfl)
theorem dL_law_316 : decode cL_law 316 = .ok (.iaload, 1) := dk_46 (dk_at dksL_law_12 12 rfl rfl)
theorem dL_law_317 : decode cL_law 317 = .ok (.aload_n 0, 1) := dk_42 (dk_at dksL_law_12 13 rfl rfl)
theorem dL_law_318 : decode cL_law 318 = .ok (.iload_n 3, 1) := dk_29 (dk_at dksL_law_12 14 rfl rfl)
theorem dL_law_319 : decode cL_law 319 = .ok (.iconst 2, 1) := dk_5 (dk_at dksL_law_12 15 rfl rfl)
theorem dL_law_320 : decode cL_law 320 = .ok (.iadd, 1) := dk_96 (dk_at dksL_law_12 16 rfl rfl)
theorem dL_law_321 : decode cL_law 321 = .ok (.iaload, 1) := dk_46 (dk_at dksL_law_12 17 rfl rfl)
theorem dL_law_322 : decode cL_law 322 = .ok (.invokevirtual 57, 3) := dk_182 0 57 (dk_at dksL_law_12 18 rfl rfl)
theorem dL_law_325 : decode cL_law 325 = .ok (.if_icmp .eq 16, 3) := dk_159 0 16 (dk_at dksL_law_12 21 rfl rfl)
theorem dL_law_328 : decode cL_law 328 = .ok (.iconst 0, 1) := dk_3 (dk_at dksL_law_13 0 rfl rfl)
theorem dL_law_329 : decode cL_law 329 = .ok (.ireturn, 1) := dk_172 (dk_at dksL_law_13 1 rfl rfl)
theorem dL_law_330 : decode cL_law 330 = .ok (.aload_n 1, 1) := dk_43 (dk_at dksL_law_13 2 rfl rfl)
theorem dL_law_331 : decode cL_law 331 = .ok (.invokevirtual 58, 3) := dk_182 0 58 (dk_at dksL_law_13 3 rfl rfl)
theorem dL_law_334 : decode cL_law 334 = .ok (.aload_n 2, 1) := dk_44 (dk_at dksL_law_13 6 rfl rfl)
theorem dL_law_335 : decode cL_law 335 = .ok (.invokevirtual 61, 3) := dk_182 0 61 (dk_at dksL_law_13 7 rfl rfl)
theorem dL_law_338 : decode cL_law 338 = .ok (.goto 3, 3) := dk_167 0 3 (dk_at dksL_law_13 10 rfl rfl)
theorem dL_law_341 : decode cL_law 341 = .ok (.iinc 3 6, 3) := dk_132 3 6 (dk_at dksL_law_13 13 rfl rfl)
theorem dL_law_344 : decode cL_law 344 = .ok (.goto (-326), 3) := dk_167 254 186 (dk_at dksL_law_13 16 rfl rfl)
theorem dL_law_347 : decode cL_law 347 = .ok (.iconst 1, 1) := dk_4 (dk_at dksL_law_13 19 rfl rfl)
theorem dL_law_348 : decode cL_law 348 = .ok (.ireturn, 1) := dk_172 (dk_at dksL_law_13 20 rfl rfl)
end
section
/-! PURE 1: counts of an array's contents, rearrangements of a range, sorted ranges -/
/-- how many places below n hold a value with P -/
def hz_ct (P : Int32 → Bool) (f : Nat → Int32) : Nat → Nat
  | 0 => 0
  | n + 1 => hz_ct P f n + (if P (f n) then 1 else 0)
theorem hz_ct_succ (P : Int32 → Bool) (f : Nat → Int32) (n : Nat) : hz_ct P f (n + 1) = hz_ct P f n + (if P (f n) then 1 else 0) := rfl
theorem hz_ct_cong {P : Int32 → Bool} {f g : Nat → Int32} : ∀ {n : Nat}, (∀ k, k < n → f k = g k) → hz_ct P f n = hz_ct P g n
  | 0, _ => rfl
  | n + 1, h => by
    rw [hz_ct_succ, hz_ct_succ, hz_ct_cong (n := n) (fun k hk => h k (by omega)), h n (by omega)]
theorem hz_ct_step (P : Int32 → Bool) (f : Nat → Int32) (n : Nat) : hz_ct P f n ≤ hz_ct P f (n + 1) ∧ hz_ct P f (n + 1) ≤ hz_ct P f n + 1 := by
  rw [hz_ct_succ]
  split <;> omega
theorem hz_ct_mono {P : Int32 → Bool} {f : Nat → Int32} {a b : Nat} (h : a ≤ b) : hz_ct P f a ≤ hz_ct P f b ∧ hz_ct P f b ≤ hz_ct P f a + (b - a) := by
  obtain ⟨n, rfl⟩ : ∃ n, b = a + n := ⟨b - a, by omega⟩
  clear h
  induction n with
  | zero => simp
  | succ n ih =>
    have h1 := hz_ct_step P f (a + n)
    have e : a + (n + 1) = a + n + 1 := by omega
    rw [e]
    omega
theorem hz_ct_hit {P : Int32 → Bool} {f : Nat → Int32} {n : Nat} (h : P (f n) = true) : hz_ct P f (n + 1) = hz_ct P f n + 1 := by
  rw [hz_ct_succ, if_pos h]
theorem hz_ct_miss {P : Int32 → Bool} {f : Nat → Int32} {n : Nat} (h : P (f n) = false) : hz_ct P f (n + 1) = hz_ct P f n := by
  rw [hz_ct_succ, h]; rfl
theorem hz_ct_flat {P : Int32 → Bool} {f : Nat → Int32} {a b : Nat} (hab : a ≤ b) (h : ∀ k, a ≤ k → k < b → P (f k) = false) : hz_ct P f b = hz_ct P f a := by
  obtain ⟨n, rfl⟩ : ∃ n, b = a + n := ⟨b - a, by omega⟩
  clear hab
  induction n with
  | zero => rfl
  | succ n ih =>
    have e : a + (n + 1) = a + n + 1 := by omega
    rw [e, hz_ct_miss (h (a + n) (by omega) (by omega))]
    exact ih (fun k h1 h2 => h k h1 (by omega))
theorem hz_ct_full {P : Int32 → Bool} {f : Nat → Int32} {a b : Nat} (hab : a ≤ b) (h : ∀ k, a ≤ k → k < b → P (f k) = true) : hz_ct P f b = hz_ct P f a + (b - a) := by
  obtain ⟨n, rfl⟩ : ∃ n, b = a + n := ⟨b - a, by omega⟩
  clear hab
  induction n with
  | zero => simp
  | succ n ih =>
    have e : a + (n + 1) = a + n + 1 := by omega
    rw [e, hz_ct_hit (h (a + n) (by omega) (by omega))]
    have := ih (fun k h1 h2 => h k h1 (by omega))
    omega
theorem hz_ct_flat_inv {P : Int32 → Bool} {f : Nat → Int32} {a b : Nat} (h : hz_ct P f b = hz_ct P f a) {k : Nat} (h1 : a ≤ k) (h2 : k < b) : P (f k) = false := by
  cases hp : P (f k) with
  | false => rfl
  | true =>
    have e1 := hz_ct_hit hp
    have e2 := (hz_ct_mono (P := P) (f := f) h1).1
    have e3 := (hz_ct_mono (P := P) (f := f) (show k + 1 ≤ b by omega)).1
    omega
theorem hz_ct_two {P : Int32 → Bool} {f : Nat → Int32} {a b i j : Nat} (h1 : a ≤ i) (h2 : i < j) (h3 : j < b) (hi : P (f i) = true) (hj : P (f j) = true) : hz_ct P f a + 2 ≤ hz_ct P f b := by
  have e1 := (hz_ct_mono (P := P) (f := f) h1).1
  have e2 := hz_ct_hit hi
  have e3 := (hz_ct_mono (P := P) (f := f) (show i + 1 ≤ j by omega)).1
  have e4 := hz_ct_hit hj
  have e5 := (hz_ct_mono (P := P) (f := f) (show j + 1 ≤ b by omega)).1
  omega
theorem hz_ct_pos {P : Int32 → Bool} {f : Nat → Int32} {a b i : Nat} (h1 : a ≤ i) (h3 : i < b) (hi : P (f i) = true) : hz_ct P f a + 1 ≤ hz_ct P f b := by
  have e1 := (hz_ct_mono (P := P) (f := f) h1).1
  have e2 := hz_ct_hit hi
  have e5 := (hz_ct_mono (P := P) (f := f) (show i + 1 ≤ b by omega)).1
  omega
theorem hz_ct_pos_inv {P : Int32 → Bool} {f : Nat → Int32} {a b : Nat} (hab : a ≤ b) (h : hz_ct P f a < hz_ct P f b) : ∃ k, a ≤ k ∧ k < b ∧ P (f k) = true := by
  apply Classical.byContradiction
  intro hn
  have := hz_ct_flat (P := P) (f := f) hab (fun k h1 h2 => by
    cases hp : P (f k) with
    | false => rfl
    | true => exact absurd ⟨k, h1, h2, hp⟩ hn)
  omega
theorem hz_ct_updo {P : Int32 → Bool} {f : Nat → Int32} {i n : Nat} {x : Int32} (h : n ≤ i) : hz_ct P (upd f i x) n = hz_ct P f n :=
  hz_ct_cong fun k hk => pk_un (by omega)
theorem hz_ct_upd {P : Int32 → Bool} {f : Nat → Int32} {i n : Nat} (x : Int32) (h : i < n) : hz_ct P (upd f i x) n + (if P (f i) then 1 else 0) = hz_ct P f n + (if P x then 1 else 0) := by
  obtain ⟨m, rfl⟩ : ∃ m, n = i + 1 + m := ⟨n - (i + 1), by omega⟩
  clear h
  induction m with
  | zero =>
    show hz_ct P (upd f i x) (i + 1) + _ = hz_ct P f (i + 1) + _
    rw [hz_ct_succ, hz_ct_succ, hz_ct_updo (Nat.le_refl i), pk_us]
    omega
  | succ m ih =>
    have e : i + 1 + (m + 1) = i + 1 + m + 1 := by omega
    rw [e, hz_ct_succ, hz_ct_succ, pk_un (f := f) (k := i) (j := i + 1 + m) (x := x) (by omega)]
    omega
/-- g is a rearrangement of f within [a, b), and f elsewhere -/
def hz_sm (f g : Nat → Int32) (a b : Nat) : Prop := (∀ k, (k < a ∨ b ≤ k) → g k = f k) ∧ ∀ P : Int32 → Bool, hz_ct P g b = hz_ct P f b
theorem hz_sm_rf (f : Nat → Int32) (a b : Nat) : hz_sm f f a b := ⟨fun _ _ => rfl, fun _ => rfl⟩
theorem hz_sm_tr {f g h : Nat → Int32} {a b : Nat} (h1 : hz_sm f g a b) (h2 : hz_sm g h a b) : hz_sm f h a b :=
  ⟨fun k hk => (h2.1 k hk).trans (h1.1 k hk), fun P => (h2.2 P).trans (h1.2 P)⟩
theorem hz_sm_wide {f g : Nat → Int32} {a b a' b' : Nat} (h : hz_sm f g a b) (h1 : a' ≤ a) (h2 : b ≤ b') : hz_sm f g a' b' := by
  refine ⟨fun k hk => h.1 k (by omega), fun P => ?_⟩
  obtain ⟨n, rfl⟩ : ∃ n, b' = b + n := ⟨b' - b, by omega⟩
  clear h2
  induction n with
  | zero => exact h.2 P
  | succ n ih =>
    have e : b + (n + 1) = b + n + 1 := by omega
    rw [e, hz_ct_succ, hz_ct_succ, ih, h.1 (b + n) (by omega)]
/-- two places exchanged -/
def hz_sw (f : Nat → Int32) (i j : Nat) : Nat → Int32 := upd (upd f i (f j)) j (f i)
theorem hz_upd_eq (f : Nat → Int32) (i : Nat) (x : Int32) (k : Nat) : upd f i x k = if k = i then x else f k := rfl
theorem hz_upd_self (f : Nat → Int32) (i : Nat) : upd f i (f i) = f := by
  funext k
  rw [hz_upd_eq]
  split
  · rename_i h; rw [h]
  · rfl
theorem hz_sw_at (f : Nat → Int32) (i j k : Nat) : hz_sw f i j k = if k = j then f i else if k = i then f j else f k := by
  unfold hz_sw
  rw [hz_upd_eq, hz_upd_eq]
theorem hz_sw_sm {f : Nat → Int32} {i j a b : Nat} (h1 : a ≤ i) (h2 : i < b) (h3 : a ≤ j) (h4 : j < b) : hz_sm f (hz_sw f i j) a b := by
  refine ⟨fun k hk => ?_, fun P => ?_⟩
  · rw [hz_sw_at, if_neg (by omega), if_neg (by omega)]
  · have e1 := hz_ct_upd (P := P) (f := f) (f j) h2
    have e2 := hz_ct_upd (P := P) (f := upd f i (f j)) (f i) h4
    have e3 : upd f i (f j) j = f j := by
      rw [hz_upd_eq]
      split
      · rfl
      · rfl
    rw [e3] at e2
    show hz_ct P (upd (upd f i (f j)) j (f i)) b = _
    omega
/-- a hole at j, filled with t: the value at i moves to j, and the hole is at i -/
theorem hz_hole_eq {g : Nat → Int32} {i j : Nat} {t : Int32} (hij : i ≠ j) : upd (upd g j (g i)) i t = hz_sw (upd g j t) i j := by
  funext k
  rw [hz_sw_at]
  simp only [hz_upd_eq]
  by_cases h1 : k = i
  · subst h1
    simp [hij]
  · by_cases h2 : k = j
    · subst h2
      simp [h1, hij]
    · simp [h1, h2]
theorem hz_hole {f g : Nat → Int32} {i j a b : Nat} {t : Int32} (hij : i ≠ j) (h1 : a ≤ i) (h2 : i < b) (h3 : a ≤ j) (h4 : j < b) (h : hz_sm f (upd g j t) a b) : hz_sm f (upd (upd g j (g i)) i t) a b := by
  rw [hz_hole_eq hij]
  exact hz_sm_tr h (hz_sw_sm h1 h2 h3 h4)
/-- what all values of the range have, they have in a rearrangement too -/
theorem hz_sm_all {f g : Nat → Int32} {a b : Nat} (h : hz_sm f g a b) (R : Int32 → Prop) (hf : ∀ k, a ≤ k → k < b → R (f k)) : ∀ k, a ≤ k → k < b → R (g k) := by
  intro k h1 h2
  have e1 : hz_ct (fun x => @decide (¬ R x) (Classical.propDecidable _)) f b = hz_ct (fun x => @decide (¬ R x) (Classical.propDecidable _)) f a :=
    hz_ct_flat (by omega) (fun k h1 h2 => by simpa using hf k h1 h2)
  have e2 := h.2 (fun x => @decide (¬ R x) (Classical.propDecidable _))
  have e3 : hz_ct (fun x => @decide (¬ R x) (Classical.propDecidable _)) g a = hz_ct (fun x => @decide (¬ R x) (Classical.propDecidable _)) f a := hz_ct_cong fun k hk => h.1 k (Or.inl hk)
  have e4 := hz_ct_flat_inv (P := fun x => @decide (¬ R x) (Classical.propDecidable _)) (f := g) (a := a) (b := b) (by rw [e2, e1, e3]) h1 h2
  simpa using e4
/-- sorted on [a, b) -/
def hz_so (f : Nat → Int32) (a b : Nat) : Prop := ∀ i j, a ≤ i → i ≤ j → j < b → (f i).toInt ≤ (f j).toInt
theorem hz_so_cong {f g : Nat → Int32} {a b : Nat} (h : hz_so f a b) (e : ∀ k, a ≤ k → k < b → g k = f k) : hz_so g a b := by
  intro i j h1 h2 h3
  rw [e i h1 (by omega), e j (by omega) h3]
  exact h i j h1 h2 h3
theorem hz_so_small {f : Nat → Int32} {a b : Nat} (h : b ≤ a + 1) : hz_so f a b := by
  intro i j h1 h2 h3
  rw [show i = j by omega]
  exact Int.le_refl _
/-- two sorted ranges with the same counts are the same -/
theorem hz_so_one_aux {g h : Nat → Int32} {a b i : Nat} (hc : ∀ P : Int32 → Bool, hz_ct P g b = hz_ct P h b) (hlo : ∀ k, k < i → g k = h k) (hai : a ≤ i) (hib : i < b) (sh : hz_so h a b) : ¬ (g i).toInt < (h i).toInt := by
  intro hlt
  have e1 := hc (fun x => decide (x.toInt ≤ (g i).toInt))
  have e2 : hz_ct (fun x => decide (x.toInt ≤ (g i).toInt)) g i = hz_ct (fun x => decide (x.toInt ≤ (g i).toInt)) h i := hz_ct_cong hlo
  have e3 : hz_ct (fun x => decide (x.toInt ≤ (g i).toInt)) h b = hz_ct (fun x => decide (x.toInt ≤ (g i).toInt)) h i :=
    hz_ct_flat (by omega) (fun k h1 h2 => by
      have := sh i k hai h1 h2
      simp only [decide_eq_false_iff_not]
      omega)
  have e4 := hz_ct_pos (P := fun x => decide (x.toInt ≤ (g i).toInt)) (f := g) (a := i) (b := b) (Nat.le_refl i) hib (by simp)
  omega
theorem hz_so_one {g h : Nat → Int32} {a b : Nat} (hc : ∀ P : Int32 → Bool, hz_ct P g b = hz_ct P h b) (hlo : ∀ k, k < a → g k = h k) (sg : hz_so g a b) (sh : hz_so h a b) : ∀ k, k < b → g k = h k := by
  intro k
  induction k using Nat.strongRecOn with
  | ind k ih =>
    intro hk
    by_cases hka : k < a
    · exact hlo k hka
    · have h1 := hz_so_one_aux hc (fun j hj => ih j hj (by omega)) (by omega) hk sh
      have h2 := hz_so_one_aux (fun P => (hc P).symm) (fun j hj => (ih j hj (by omega)).symm) (by omega) hk sg
      exact Int32.toInt_inj.mp (by omega)
end
section
/-! PURE 2: selection sort, insertion sort -/
theorem hz_lt (a b : Int32) : a < b ↔ a.toInt < b.toInt := Int32.lt_iff_toInt_lt
theorem hz_le (a b : Int32) : a ≤ b ↔ a.toInt ≤ b.toInt := Int32.le_iff_toInt_le
theorem hz_sw_self (f : Nat → Int32) (i : Nat) : hz_sw f i i = f := by
  funext k
  rw [hz_sw_at]
  split
  · rename_i h; rw [h]
  · rfl
theorem hz_sw_l {f : Nat → Int32} {i j : Nat} : hz_sw f i j i = f j := by
  rw [hz_sw_at]
  split
  · rename_i h; rw [h]
  · rw [if_pos rfl]
theorem hz_sw_r {f : Nat → Int32} {i j : Nat} : hz_sw f i j j = f i := by rw [hz_sw_at, if_pos rfl]
theorem hz_sw_o {f : Nat → Int32} {i j k : Nat} (h1 : k ≠ i) (h2 : k ≠ j) : hz_sw f i j k = f k := by rw [hz_sw_at, if_neg h2, if_neg h1]
/-- selection sort's outer loop: the places below i are settled -/
def hz_sel (f : Nat → Int32) (a b i : Nat) : Prop := ∀ p q, a ≤ p → p < i → p < q → q < b → (f p).toInt ≤ (f q).toInt
theorem hz_sel_0 (f : Nat → Int32) (a b : Nat) : hz_sel f a b a := fun p q h1 h2 => by omega
theorem hz_sel_done {f : Nat → Int32} {a b i : Nat} (h : hz_sel f a b i) (hi : b ≤ i + 1) : hz_so f a b := by
  intro p q h1 h2 h3
  rcases Nat.lt_or_ge p q with hpq | hpq
  · exact h p q h1 (by omega) hpq h3
  · rw [show p = q by omega]
    exact Int.le_refl _
/-- m is the place of the least in [i, j) -/
def hz_min (f : Nat → Int32) (i j m : Nat) : Prop := i ≤ m ∧ m < j ∧ ∀ q, i ≤ q → q < j → (f m).toInt ≤ (f q).toInt
theorem hz_min_0 (f : Nat → Int32) (i : Nat) : hz_min f i (i + 1) i := ⟨Nat.le_refl _, by omega, fun q h1 h2 => by rw [show q = i by omega]; exact Int.le_refl _⟩
theorem hz_min_y {f : Nat → Int32} {i j m : Nat} (h : hz_min f i j m) (hl : f j < f m) : hz_min f i (j + 1) j := by
  obtain ⟨h1, h2, h3⟩ := h
  rw [hz_lt] at hl
  refine ⟨by omega, by omega, fun q q1 q2 => ?_⟩
  rcases Nat.lt_or_ge q j with hq | hq
  · have := h3 q q1 hq
    omega
  · rw [show q = j by omega]
    exact Int.le_refl _
theorem hz_min_n {f : Nat → Int32} {i j m : Nat} (h : hz_min f i j m) (hl : ¬ f j < f m) : hz_min f i (j + 1) m := by
  obtain ⟨h1, h2, h3⟩ := h
  rw [hz_lt] at hl
  refine ⟨by omega, by omega, fun q q1 q2 => ?_⟩
  rcases Nat.lt_or_ge q j with hq | hq
  · exact h3 q q1 hq
  · rw [show q = j by omega]
    omega
theorem hz_sel_step {f : Nat → Int32} {a b i m : Nat} (h : hz_sel f a b i) (hm : hz_min f i b m) : hz_sel (hz_sw f i m) a b (i + 1) := by
  obtain ⟨h1, h2, h3⟩ := hm
  intro p q p1 p2 pq q2
  rcases Nat.lt_or_ge p i with hp | hp
  · rw [hz_sw_o (by omega) (by omega)]
    by_cases e1 : q = m
    · rw [e1, hz_sw_r]
      exact h p i p1 hp hp (by omega)
    · by_cases e2 : q = i
      · rw [e2, hz_sw_l]
        exact h p m p1 hp (by omega) h2
      · rw [hz_sw_o e2 e1]
        exact h p q p1 hp pq q2
  · rw [show p = i by omega, hz_sw_l]
    by_cases e1 : q = m
    · rw [e1, hz_sw_r]
      exact h3 i (Nat.le_refl _) (by omega)
    · rw [hz_sw_o (by omega) e1]
      exact h3 q (by omega) q2
/-- insertion: sorted on [a, i] with place j left out; what lies behind j isn't below it -/
def hz_ins (h : Nat → Int32) (a i j : Nat) : Prop := (∀ p q, a ≤ p → p < q → q ≤ i → p ≠ j → q ≠ j → (h p).toInt ≤ (h q).toInt) ∧ ∀ k, j < k → k ≤ i → (h j).toInt ≤ (h k).toInt
theorem hz_ins_0 {f : Nat → Int32} {a i : Nat} (h : hz_so f a i) : hz_ins f a i i :=
  ⟨fun p q h1 h2 h3 h4 h5 => h p q h1 (by omega) (by omega), fun k h1 h2 => by omega⟩
theorem hz_ins_step {g : Nat → Int32} {a i j : Nat} {t : Int32} (h : hz_ins (upd g (j + 1) t) a i (j + 1)) (hj : a ≤ j) (hl : t.toInt ≤ (g j).toInt) : hz_ins (upd (upd g (j + 1) (g j)) j t) a i j := by
  rw [hz_hole_eq (show j ≠ j + 1 by omega)]
  obtain ⟨h1, h2⟩ := h
  have ej : upd g (j + 1) t (j + 1) = t := pk_us
  have el : upd g (j + 1) t j = g j := pk_un (by omega)
  generalize upd g (j + 1) t = h at h1 h2 ej el ⊢
  refine ⟨fun p q p1 p2 p3 p4 p5 => ?_, fun k k1 k2 => ?_⟩
  · by_cases e1 : q = j + 1
    · rw [e1, hz_sw_r, hz_sw_o p4 (by omega)]
      exact h1 p j p1 (by omega) (by omega) (by omega) (by omega)
    · by_cases e2 : p = j + 1
      · rw [e2, hz_sw_r, hz_sw_o p5 e1]
        exact h1 j q (by omega) (by omega) p3 (by omega) e1
      · rw [hz_sw_o p4 e2, hz_sw_o p5 e1]
        exact h1 p q p1 p2 p3 e2 e1
  · rw [hz_sw_l, ej]
    by_cases e1 : k = j + 1
    · rw [e1, hz_sw_r, el]
      exact hl
    · rw [hz_sw_o (by omega) e1]
      have := h2 k (by omega) k2
      rw [ej] at this
      exact this
theorem hz_ins_done {h : Nat → Int32} {a i j : Nat} (hh : hz_ins h a i j) (hj : j = a ∨ (h (j - 1)).toInt ≤ (h j).toInt) : hz_so h a (i + 1) := by
  obtain ⟨h1, h2⟩ := hh
  intro p q p1 p2 p3
  by_cases e0 : p = q
  · rw [e0]; exact Int.le_refl _
  · by_cases e1 : p = j
    · rw [e1]
      exact h2 q (by omega) (by omega)
    · by_cases e2 : q = j
      · rw [e2]
        rcases hj with hj | hj
        · omega
        · by_cases e3 : p = j - 1
          · rw [e3]; exact hj
          · have := h1 p (j - 1) p1 (by omega) (by omega) e1 (by omega)
            omega
      · exact h1 p q p1 (by omega) (by omega) e1 e2
end
section
/-! PURE 3: binary heaps -/
def hz_hp (f : Nat → Int32) (n : Nat) : Prop := ∀ k, 0 < k → k < n → (f ((k - 1) / 2)).toInt ≤ (f k).toInt
theorem hz_hp_min {f : Nat → Int32} {n : Nat} (h : hz_hp f n) : ∀ k, k < n → (f 0).toInt ≤ (f k).toInt := by
  intro k
  induction k using Nat.strongRecOn with
  | ind k ih =>
    intro hk
    by_cases e : k = 0
    · rw [e]; exact Int.le_refl _
    · have h1 := ih ((k - 1) / 2) (by omega) (by omega)
      have h2 := h k (by omega) hk
      omega
theorem hz_hp_cong {f g : Nat → Int32} {n : Nat} (h : hz_hp f n) (e : ∀ k, k < n → g k = f k) : hz_hp g n := by
  intro k h1 h2
  rw [e k h2, e _ (by omega)]
  exact h k h1 h2
/-- a heap but for the place i against its parent -/
def hz_up (h : Nat → Int32) (n i : Nat) : Prop := (∀ k, 0 < k → k < n → k ≠ i → (h ((k - 1) / 2)).toInt ≤ (h k).toInt) ∧ ∀ k, 0 < k → k < n → (k - 1) / 2 = i → 0 < i → (h ((i - 1) / 2)).toInt ≤ (h k).toInt
theorem hz_up_0 {f : Nat → Int32} {n : Nat} (x : Int32) (h : hz_hp f n) : hz_up (upd f n x) (n + 1) n := by
  refine ⟨fun k h1 h2 h3 => ?_, fun k h1 h2 h3 h4 => by omega⟩
  rw [pk_un (by omega), pk_un h3]
  exact h k h1 (by omega)
theorem hz_up_step {h : Nat → Int32} {n i p : Nat} (hh : hz_up h n i) (h0 : 0 < i) (hi : i < n) (hp : (i - 1) / 2 = p) (hl : (h i).toInt ≤ (h p).toInt) : hz_up (hz_sw h p i) n p := by
  obtain ⟨h1, h2⟩ := hh
  have hpi : p < i := by omega
  refine ⟨fun k k1 k2 k3 => ?_, fun k k1 k2 k3 k4 => ?_⟩
  · by_cases e1 : k = i
    · rw [e1, hp, hz_sw_r, hz_sw_l]
      exact hl
    · rw [hz_sw_o k3 e1]
      by_cases e2 : (k - 1) / 2 = i
      · rw [e2, hz_sw_r, ← hp]
        exact h2 k k1 k2 e2 h0
      · by_cases e3 : (k - 1) / 2 = p
        · rw [e3, hz_sw_l]
          have := h1 k k1 k2 e1
          rw [e3] at this
          omega
        · rw [hz_sw_o e3 e2]
          exact h1 k k1 k2 e1
  · have a1 := h1 p k4 (by omega) (by omega)
    rw [hz_sw_o (by omega) (by omega)]
    by_cases e1 : k = i
    · rw [e1, hz_sw_r]
      exact a1
    · rw [hz_sw_o (by omega) e1]
      have := h1 k k1 k2 e1
      rw [k3] at this
      omega
theorem hz_up_done {h : Nat → Int32} {n i : Nat} (hh : hz_up h n i) (hl : i = 0 ∨ (h ((i - 1) / 2)).toInt ≤ (h i).toInt) : hz_hp h n := by
  intro k k1 k2
  by_cases e : k = i
  · rcases hl with hl | hl
    · omega
    · rw [e]; exact hl
  · exact hh.1 k k1 k2 e
/-- a heap but for the place i against its children -/
def hz_dn (h : Nat → Int32) (n i : Nat) : Prop := (∀ k, 0 < k → k < n → (k - 1) / 2 ≠ i → (h ((k - 1) / 2)).toInt ≤ (h k).toInt) ∧ ∀ k, 0 < k → k < n → (k - 1) / 2 = i → 0 < i → (h ((i - 1) / 2)).toInt ≤ (h k).toInt
theorem hz_dn_0 {f : Nat → Int32} {n : Nat} (x : Int32) (h : hz_hp f n) : hz_dn (upd f 0 x) n 0 := by
  refine ⟨fun k h1 h2 h3 => ?_, fun k h1 h2 h3 h4 => by omega⟩
  rw [pk_un h3, pk_un (by omega)]
  exact h k h1 h2
theorem hz_dn_step {h : Nat → Int32} {n i c : Nat} (hh : hz_dn h n i) (hc : c = 2 * i + 1 ∨ c = 2 * i + 2) (hn : c < n) (hs : ∀ k, 0 < k → k < n → (k - 1) / 2 = i → (h c).toInt ≤ (h k).toInt) (hl : (h c).toInt ≤ (h i).toInt) : hz_dn (hz_sw h c i) n c := by
  obtain ⟨h1, h2⟩ := hh
  have hci : (c - 1) / 2 = i := by omega
  refine ⟨fun k k1 k2 k3 => ?_, fun k k1 k2 k3 k4 => ?_⟩
  · by_cases e1 : (k - 1) / 2 = i
    · rw [e1, hz_sw_r]
      by_cases e2 : k = c
      · rw [e2, hz_sw_l]
        exact hl
      · rw [hz_sw_o e2 (by omega)]
        exact hs k k1 k2 e1
    · rw [hz_sw_o k3 e1]
      by_cases e2 : k = i
      · rw [e2, hz_sw_r]
        exact h2 c (by omega) hn hci (by omega)
      · rw [hz_sw_o (by omega) e2]
        exact h1 k k1 k2 e1
  · rw [hci, hz_sw_r, hz_sw_o (by omega) (by omega)]
    have := h1 k k1 k2 (by omega)
    rw [k3] at this
    exact this
theorem hz_dn_done {h : Nat → Int32} {n i : Nat} (hh : hz_dn h n i) (hl : ∀ k, 0 < k → k < n → (k - 1) / 2 = i → (h i).toInt ≤ (h k).toInt) : hz_hp h n := by
  intro k k1 k2
  by_cases e : (k - 1) / 2 = i
  · rw [e]; exact hl k k1 k2 e
  · exact hh.1 k k1 k2 e
/-- the least of two ranges with the same counts is the same -/
theorem hz_min_same {f g : Nat → Int32} {n i j : Nat} (hc : ∀ P : Int32 → Bool, hz_ct P f n = hz_ct P g n) (hi : i < n) (hj : j < n) (fi : ∀ k, k < n → (f i).toInt ≤ (f k).toInt) (gj : ∀ k, k < n → (g j).toInt ≤ (g k).toInt) : f i = g j := by
  have aux : ∀ {f g : Nat → Int32} {i j : Nat}, (∀ P : Int32 → Bool, hz_ct P f n = hz_ct P g n) → i < n → j < n → (∀ k, k < n → (f i).toInt ≤ (f k).toInt) → (f i).toInt ≤ (g j).toInt := by
    intro f g i j hc hi hj fi
    have e1 : hz_ct (fun x => decide (x.toInt < (f i).toInt)) f n = hz_ct (fun x => decide (x.toInt < (f i).toInt)) f 0 := hz_ct_flat (Nat.zero_le _) (fun k _ h2 => by
      have := fi k h2
      simp only [decide_eq_false_iff_not]
      omega)
    have e2 := hc (fun x => decide (x.toInt < (f i).toInt))
    have e3 := hz_ct_flat_inv (P := fun x => decide (x.toInt < (f i).toInt)) (f := g) (a := 0) (b := n) (by rw [← e2, e1]; rfl) (Nat.zero_le j) hj
    simp only [decide_eq_false_iff_not] at e3
    omega
  have a1 := aux hc hi hj fi
  have a2 := aux (fun P => (hc P).symm) hj hi gj
  exact Int32.toInt_inj.mp (by omega)
/-- the last value takes the place of the one at b, and the range is shorter by one -/
theorem hz_ct_take {f : Nat → Int32} {n b : Nat} (hb : b < n + 1) (P : Int32 → Bool) : hz_ct P (upd f b (f n)) n + (if P (f b) then 1 else 0) = hz_ct P f (n + 1) := by
  by_cases e : b = n
  · rw [e, hz_ct_updo (Nat.le_refl n)]
    rfl
  · have := hz_ct_upd (P := P) (f := f) (f n) (show b < n by omega)
    rw [hz_ct_succ]
    omega
end
section
/-! PURE 4: quicksort: the median, the partition, the block swap, the end -/
def hz_m3 (f : Nat → Int32) (a b c : Nat) : Nat := if f a < f b then (if f b < f c then b else if f a < f c then c else a) else (if f c < f b then b else if f c < f a then c else a)
theorem hz_m3_spec (f : Nat → Int32) {a b c : Nat} (h1 : a < b) (h2 : b < c) :
    (hz_m3 f a b c = a ∨ hz_m3 f a b c = b ∨ hz_m3 f a b c = c) ∧
    (∃ i, (i = a ∨ i = b ∨ i = c) ∧ i ≠ hz_m3 f a b c ∧ (f i).toInt ≤ (f (hz_m3 f a b c)).toInt) ∧
    (∃ i, (i = a ∨ i = b ∨ i = c) ∧ i ≠ hz_m3 f a b c ∧ (f (hz_m3 f a b c)).toInt ≤ (f i).toInt) := by
  unfold hz_m3
  simp only [hz_lt]
  split
  · split
    · exact ⟨Or.inr (Or.inl rfl), ⟨a, Or.inl rfl, by omega, by omega⟩, ⟨c, Or.inr (Or.inr rfl), by omega, by omega⟩⟩
    · split
      · exact ⟨Or.inr (Or.inr rfl), ⟨a, Or.inl rfl, by omega, by omega⟩, ⟨b, Or.inr (Or.inl rfl), by omega, by omega⟩⟩
      · exact ⟨Or.inl rfl, ⟨c, Or.inr (Or.inr rfl), by omega, by omega⟩, ⟨b, Or.inr (Or.inl rfl), by omega, by omega⟩⟩
  · split
    · exact ⟨Or.inr (Or.inl rfl), ⟨c, Or.inr (Or.inr rfl), by omega, by omega⟩, ⟨a, Or.inl rfl, by omega, by omega⟩⟩
    · split
      · exact ⟨Or.inr (Or.inr rfl), ⟨b, Or.inr (Or.inl rfl), by omega, by omega⟩, ⟨a, Or.inl rfl, by omega, by omega⟩⟩
      · exact ⟨Or.inl rfl, ⟨b, Or.inr (Or.inl rfl), by omega, by omega⟩, ⟨c, Or.inr (Or.inr rfl), by omega, by omega⟩⟩
/-- a pivot: it is no less than another value, and no more than another -/
def hz_piv (f : Nat → Int32) (lo hi m : Nat) : Prop := lo ≤ m ∧ m < hi ∧ (∃ i, lo ≤ i ∧ i < hi ∧ i ≠ m ∧ (f i).toInt ≤ (f m).toInt) ∧ (∃ i, lo ≤ i ∧ i < hi ∧ i ≠ m ∧ (f m).toInt ≤ (f i).toInt)
theorem hz_piv_m3 {f : Nat → Int32} {lo hi a b c : Nat} (h0 : lo ≤ a) (h1 : a < b) (h2 : b < c) (h3 : c < hi) : hz_piv f lo hi (hz_m3 f a b c) := by
  obtain ⟨e, ⟨i, i1, i2, i3⟩, ⟨j, j1, j2, j3⟩⟩ := hz_m3_spec f h1 h2
  exact ⟨by omega, by omega, ⟨i, by omega, by omega, i2, i3⟩, ⟨j, by omega, by omega, j2, j3⟩⟩
theorem hz_m3_in (f : Nat → Int32) (a b c : Nat) : hz_m3 f a b c = a ∨ hz_m3 f a b c = b ∨ hz_m3 f a b c = c := by
  unfold hz_m3
  split
  · split
    · exact Or.inr (Or.inl rfl)
    · split
      · exact Or.inr (Or.inr rfl)
      · exact Or.inl rfl
  · split
    · exact Or.inr (Or.inl rfl)
    · split
      · exact Or.inr (Or.inr rfl)
      · exact Or.inl rfl
theorem hz_piv_ge {f : Nat → Int32} {lo hi m : Nat} (h : hz_piv f lo hi m) : hz_ct (fun x => decide ((f m).toInt ≤ x.toInt)) f lo + 2 ≤ hz_ct (fun x => decide ((f m).toInt ≤ x.toInt)) f hi := by
  obtain ⟨h1, h2, -, ⟨i, i1, i2, i3, i4⟩⟩ := h
  rcases Nat.lt_or_ge i m with q | q
  · exact hz_ct_two i1 q h2 (by simpa using i4) (by simp)
  · exact hz_ct_two h1 (show m < i by omega) i2 (by simp) (by simpa using i4)
theorem hz_piv_le {f : Nat → Int32} {lo hi m : Nat} (h : hz_piv f lo hi m) : hz_ct (fun x => decide (x.toInt ≤ (f m).toInt)) f lo + 2 ≤ hz_ct (fun x => decide (x.toInt ≤ (f m).toInt)) f hi := by
  obtain ⟨h1, h2, ⟨i, i1, i2, i3, i4⟩, -⟩ := h
  rcases Nat.lt_or_ge i m with q | q
  · exact hz_ct_two i1 q h2 (by simpa using i4) (by simp)
  · exact hz_ct_two h1 (show m < i by omega) i2 (by simp) (by simpa using i4)
/-- the partition: equal, less, unknown, more, equal; c and d are one more than the code's -/
def hz_part (f : Nat → Int32) (lo hi : Nat) (v : Int32) (a b c d : Nat) : Prop :=
  (lo ≤ a ∧ a ≤ b ∧ b ≤ c ∧ c ≤ d ∧ d ≤ hi) ∧ (∀ k, lo ≤ k → k < a → f k = v) ∧ (∀ k, a ≤ k → k < b → (f k).toInt < v.toInt) ∧ (∀ k, c ≤ k → k < d → v.toInt < (f k).toInt) ∧ (∀ k, d ≤ k → k < hi → f k = v)
theorem hz_part_0 {f : Nat → Int32} {lo hi : Nat} {v : Int32} (h : lo ≤ hi) : hz_part f lo hi v lo lo hi hi :=
  ⟨⟨Nat.le_refl _, Nat.le_refl _, h, Nat.le_refl _, Nat.le_refl _⟩, fun k h1 h2 => by omega, fun k h1 h2 => by omega, fun k h1 h2 => by omega, fun k h1 h2 => by omega⟩
theorem hz_part_eqL {f : Nat → Int32} {lo hi : Nat} {v : Int32} {a b c d : Nat} (h : hz_part f lo hi v a b c d) (hb : b < c) (e : f b = v) : hz_part (hz_sw f a b) lo hi v (a + 1) (b + 1) c d := by
  obtain ⟨⟨h1, h2, h3, h4, h5⟩, q1, q2, q3, q4⟩ := h
  refine ⟨⟨by omega, by omega, by omega, h4, h5⟩, fun k k1 k2 => ?_, fun k k1 k2 => ?_, fun k k1 k2 => ?_, fun k k1 k2 => ?_⟩
  · by_cases e1 : k = a
    · rw [e1, hz_sw_l]; exact e
    · rw [hz_sw_o e1 (by omega)]
      exact q1 k k1 (by omega)
  · by_cases e1 : k = b
    · rw [e1, hz_sw_r]
      exact q2 a (Nat.le_refl _) (by omega)
    · rw [hz_sw_o (by omega) e1]
      exact q2 k (by omega) (by omega)
  · rw [hz_sw_o (by omega) (by omega)]
    exact q3 k k1 k2
  · rw [hz_sw_o (by omega) (by omega)]
    exact q4 k k1 k2
theorem hz_part_ltL {f : Nat → Int32} {lo hi : Nat} {v : Int32} {a b c d : Nat} (h : hz_part f lo hi v a b c d) (hb : b < c) (e : (f b).toInt < v.toInt) : hz_part f lo hi v a (b + 1) c d := by
  obtain ⟨⟨h1, h2, h3, h4, h5⟩, q1, q2, q3, q4⟩ := h
  refine ⟨⟨h1, by omega, by omega, h4, h5⟩, q1, fun k k1 k2 => ?_, q3, q4⟩
  by_cases e1 : k = b
  · rw [e1]; exact e
  · exact q2 k k1 (by omega)
theorem hz_part_eqR {f : Nat → Int32} {lo hi : Nat} {v : Int32} {a b c d : Nat} (h : hz_part f lo hi v a b (c + 1) (d + 1)) (hb : b ≤ c) (e : f c = v) : hz_part (hz_sw f c d) lo hi v a b c d := by
  obtain ⟨⟨h1, h2, h3, h4, h5⟩, q1, q2, q3, q4⟩ := h
  refine ⟨⟨h1, h2, hb, by omega, by omega⟩, fun k k1 k2 => ?_, fun k k1 k2 => ?_, fun k k1 k2 => ?_, fun k k1 k2 => ?_⟩
  · rw [hz_sw_o (by omega) (by omega)]
    exact q1 k k1 k2
  · rw [hz_sw_o (by omega) (by omega)]
    exact q2 k k1 k2
  · by_cases e1 : k = c
    · rw [e1, hz_sw_l]
      exact q3 d (by omega) (by omega)
    · rw [hz_sw_o e1 (by omega)]
      exact q3 k (by omega) (by omega)
  · by_cases e1 : k = d
    · rw [e1, hz_sw_r]; exact e
    · rw [hz_sw_o (by omega) e1]
      exact q4 k (by omega) k2
theorem hz_part_gtR {f : Nat → Int32} {lo hi : Nat} {v : Int32} {a b c d : Nat} (h : hz_part f lo hi v a b (c + 1) d) (hb : b ≤ c) (e : v.toInt < (f c).toInt) : hz_part f lo hi v a b c d := by
  obtain ⟨⟨h1, h2, h3, h4, h5⟩, q1, q2, q3, q4⟩ := h
  refine ⟨⟨h1, h2, hb, by omega, h5⟩, q1, q2, fun k k1 k2 => ?_, q4⟩
  by_cases e1 : k = c
  · rw [e1]; exact e
  · exact q3 k (by omega) k2
theorem hz_part_sw {f : Nat → Int32} {lo hi : Nat} {v : Int32} {a b c d : Nat} (h : hz_part f lo hi v a b (c + 1) d) (hb : b ≤ c) (e1 : v.toInt < (f b).toInt) (e2 : (f c).toInt < v.toInt) : hz_part (hz_sw f b c) lo hi v a (b + 1) c d := by
  obtain ⟨⟨h1, h2, h3, h4, h5⟩, q1, q2, q3, q4⟩ := h
  have hbc : b ≠ c := fun e => by rw [e] at e1; omega
  refine ⟨⟨h1, by omega, by omega, by omega, h5⟩, fun k k1 k2 => ?_, fun k k1 k2 => ?_, fun k k1 k2 => ?_, fun k k1 k2 => ?_⟩
  · rw [hz_sw_o (by omega) (by omega)]
    exact q1 k k1 k2
  · by_cases e3 : k = b
    · rw [e3, hz_sw_l]; exact e2
    · rw [hz_sw_o e3 (by omega)]
      exact q2 k k1 (by omega)
  · by_cases e3 : k = c
    · rw [e3, hz_sw_r]; exact e1
    · rw [hz_sw_o (by omega) e3]
      exact q3 k (by omega) k2
  · rw [hz_sw_o (by omega) (by omega)]
    exact q4 k k1 k2
/-- the block swap: [a, a + n) against [b, b + n) -/
def hz_vs (f : Nat → Int32) (a b n : Nat) : Nat → Int32 := fun k => if a ≤ k ∧ k < a + n then f (k + (b - a)) else if b ≤ k ∧ k < b + n then f (k - (b - a)) else f k
theorem hz_vs_l {f : Nat → Int32} {a b n k : Nat} (h1 : a ≤ k) (h2 : k < a + n) : hz_vs f a b n k = f (k + (b - a)) := if_pos ⟨h1, h2⟩
theorem hz_vs_r {f : Nat → Int32} {a b n k : Nat} (h0 : a + n ≤ b) (h1 : b ≤ k) (h2 : k < b + n) : hz_vs f a b n k = f (k - (b - a)) := by
  show (if _ then _ else _) = _
  rw [if_neg (by omega), if_pos ⟨h1, h2⟩]
theorem hz_vs_o {f : Nat → Int32} {a b n k : Nat} (h1 : k < a ∨ a + n ≤ k) (h2 : k < b ∨ b + n ≤ k) : hz_vs f a b n k = f k := by
  show (if _ then _ else _) = _
  rw [if_neg (by omega), if_neg (by omega)]
theorem hz_vs_0 (f : Nat → Int32) (a b : Nat) : hz_vs f a b 0 = f := funext fun k => hz_vs_o (by omega) (by omega)
theorem hz_vs_succ {f : Nat → Int32} {a b n : Nat} (h : a + n + 1 ≤ b) : hz_sw (hz_vs f a b n) (a + n) (b + n) = hz_vs f a b (n + 1) := by
  funext k
  by_cases e1 : k = a + n
  · subst e1
    rw [hz_sw_l, hz_vs_o (by omega) (by omega), hz_vs_l (by omega) (by omega)]
    exact congrArg f (by omega)
  · by_cases e2 : k = b + n
    · subst e2
      rw [hz_sw_r, hz_vs_o (by omega) (by omega), hz_vs_r (by omega) (by omega) (by omega)]
      exact congrArg f (by omega)
    · rw [hz_sw_o e1 e2]
      by_cases c1 : a ≤ k ∧ k < a + n
      · rw [hz_vs_l c1.1 c1.2, hz_vs_l c1.1 (by omega)]
      · by_cases c2 : b ≤ k ∧ k < b + n
        · rw [hz_vs_r (by omega) c2.1 c2.2, hz_vs_r (by omega) c2.1 (by omega)]
        · rw [hz_vs_o (by omega) (by omega), hz_vs_o (by omega) (by omega)]
theorem hz_vs_sm {f : Nat → Int32} {a b n lo hi : Nat} (h : a + n ≤ b) (h1 : lo ≤ a) (h2 : b + n ≤ hi) : hz_sm f (hz_vs f a b n) lo hi := by
  induction n with
  | zero => rw [hz_vs_0]; exact hz_sm_rf _ _ _
  | succ n ih =>
    rw [← hz_vs_succ (by omega)]
    exact hz_sm_tr (ih (by omega) (by omega)) (hz_sw_sm (by omega) (by omega) (by omega) (by omega))
/-- behind both block swaps: less, equal, more -/
def hz_three (g : Nat → Int32) (lo hi : Nat) (v : Int32) (x y : Nat) : Prop := (lo ≤ x ∧ x ≤ y ∧ y ≤ hi) ∧ (∀ k, lo ≤ k → k < x → (g k).toInt < v.toInt) ∧ (∀ k, x ≤ k → k < y → g k = v) ∧ (∀ k, y ≤ k → k < hi → v.toInt < (g k).toInt)
theorem hz_part_fin {f : Nat → Int32} {lo hi : Nat} {v : Int32} {a b d s t : Nat} (h : hz_part f lo hi v a b b d) (hs : s = min (a - lo) (b - a)) (ht : t = min (d - b) (hi - d)) :
    hz_three (hz_vs (hz_vs f lo (b - s) s) b (hi - t) t) lo hi v (lo + (b - a)) (hi - (d - b)) := by
  obtain ⟨⟨h1, h2, h3, h4, h5⟩, q1, q2, q3, q4⟩ := h
  have m1 : s ≤ a - lo := by omega
  have m2 : s ≤ b - a := by omega
  have m3 : s = a - lo ∨ s = b - a := by omega
  have n1 : t ≤ d - b := by omega
  have n2 : t ≤ hi - d := by omega
  have n3 : t = d - b ∨ t = hi - d := by omega
  clear hs ht
  refine ⟨⟨by omega, by omega, by omega⟩, fun k k1 k2 => ?_, fun k k1 k2 => ?_, fun k k1 k2 => ?_⟩
  · rw [hz_vs_o (by omega) (by omega)]
    by_cases c1 : k < lo + s
    · rw [hz_vs_l k1 c1]
      exact q2 _ (by omega) (by omega)
    · rw [hz_vs_o (by omega) (by omega)]
      exact q2 _ (by omega) (by omega)
  · by_cases c0 : k < b
    · rw [hz_vs_o (by omega) (by omega)]
      by_cases c1 : b - s ≤ k
      · rw [hz_vs_r (by omega) c1 (by omega)]
        exact q1 _ (by omega) (by omega)
      · rw [hz_vs_o (by omega) (by omega)]
        exact q1 _ (by omega) (by omega)
    · by_cases c1 : k < b + t
      · rw [hz_vs_l (by omega) c1, hz_vs_o (by omega) (by omega)]
        exact q4 _ (by omega) (by omega)
      · rw [hz_vs_o (by omega) (by omega), hz_vs_o (by omega) (by omega)]
        exact q4 _ (by omega) (by omega)
  · by_cases c1 : hi - t ≤ k
    · rw [hz_vs_r (by omega) c1 (by omega), hz_vs_o (by omega) (by omega)]
      exact q3 _ (by omega) (by omega)
    · rw [hz_vs_o (by omega) (by omega), hz_vs_o (by omega) (by omega)]
      exact q3 _ (by omega) (by omega)
/-- the recursive calls' ranges are shorter by two at least -/
theorem hz_three_len {f g : Nat → Int32} {lo hi m x y : Nat} (hp : hz_piv f lo hi m) (hsm : hz_sm f g lo hi) (h : hz_three g lo hi (f m) x y) : x + 2 ≤ hi ∧ lo + 2 ≤ y := by
  obtain ⟨⟨h1, h2, h3⟩, q1, q2, q3⟩ := h
  constructor
  · have e1 := hz_piv_ge hp
    have e2 := hsm.2 (fun z => decide ((f m).toInt ≤ z.toInt))
    have e3 : hz_ct (fun z => decide ((f m).toInt ≤ z.toInt)) g lo = hz_ct (fun z => decide ((f m).toInt ≤ z.toInt)) f lo := hz_ct_cong fun k hk => hsm.1 k (Or.inl hk)
    have e4 : hz_ct (fun z => decide ((f m).toInt ≤ z.toInt)) g x = hz_ct (fun z => decide ((f m).toInt ≤ z.toInt)) g lo := hz_ct_flat h1 (fun k k1 k2 => by
      have := q1 k k1 k2
      simp only [decide_eq_false_iff_not]
      omega)
    have e5 := (hz_ct_mono (P := fun z => decide ((f m).toInt ≤ z.toInt)) (f := g) (show x ≤ hi by omega)).2
    omega
  · have e1 := hz_piv_le hp
    have e2 := hsm.2 (fun z => decide (z.toInt ≤ (f m).toInt))
    have e3 : hz_ct (fun z => decide (z.toInt ≤ (f m).toInt)) g lo = hz_ct (fun z => decide (z.toInt ≤ (f m).toInt)) f lo := hz_ct_cong fun k hk => hsm.1 k (Or.inl hk)
    have e4 : hz_ct (fun z => decide (z.toInt ≤ (f m).toInt)) g hi = hz_ct (fun z => decide (z.toInt ≤ (f m).toInt)) g y := hz_ct_flat h3 (fun k k1 k2 => by
      have := q3 k k1 k2
      simp only [decide_eq_false_iff_not]
      omega)
    have e5 := (hz_ct_mono (P := fun z => decide (z.toInt ≤ (f m).toInt)) (f := g) (show lo ≤ y by omega)).2
    omega
/-- behind both recursive calls -/
theorem hz_three_done {g g1 g2 : Nat → Int32} {lo hi x y : Nat} {v : Int32} (h : hz_three g lo hi v x y) (s1 : hz_sm g g1 lo x) (o1 : hz_so g1 lo x) (s2 : hz_sm g1 g2 y hi) (o2 : hz_so g2 y hi) : hz_sm g g2 lo hi ∧ hz_so g2 lo hi := by
  obtain ⟨⟨h1, h2, h3⟩, q1, q2, q3⟩ := h
  refine ⟨hz_sm_tr (hz_sm_wide s1 (Nat.le_refl _) (by omega)) (hz_sm_wide s2 (by omega) (Nat.le_refl _)), ?_⟩
  have p1 : ∀ k, lo ≤ k → k < x → (g2 k).toInt < v.toInt := fun k k1 k2 => by
    rw [s2.1 k (by omega)]
    exact hz_sm_all s1 (fun z => z.toInt < v.toInt) q1 k k1 k2
  have p2 : ∀ k, x ≤ k → k < y → g2 k = v := fun k k1 k2 => by
    rw [s2.1 k (by omega), s1.1 k (by omega)]
    exact q2 k k1 k2
  have p3 : ∀ k, y ≤ k → k < hi → v.toInt < (g2 k).toInt := hz_sm_all s2 (fun z => v.toInt < z.toInt) (fun k k1 k2 => by
    rw [s1.1 k (by omega)]
    exact q3 k k1 k2)
  have p0 : hz_so g2 lo x := hz_so_cong o1 (fun k k1 k2 => s2.1 k (by omega))
  intro i j i1 ij j1
  rcases Nat.lt_or_ge j x with c1 | c1
  · exact p0 i j i1 ij c1
  · rcases Nat.lt_or_ge j y with c2 | c2
    · rw [p2 j c1 c2]
      rcases Nat.lt_or_ge i x with c3 | c3
      · have := p1 i i1 c3; omega
      · rw [p2 i c3 (by omega)]; exact Int.le_refl _
    · rcases Nat.lt_or_ge i y with c3 | c3
      · have := p3 j c2 j1
        rcases Nat.lt_or_ge i x with c4 | c4
        · have := p1 i i1 c4; omega
        · rw [p2 i c4 c3]; omega
      · exact o2 i j c3 ij j1
end
section
/-! PURE 5: merge sort's merge, and the copy -/
theorem hz_ct_rng {P : Int32 → Bool} {f g : Nat → Int32} {a b : Nat} (hab : a ≤ b) (h : ∀ k, a ≤ k → k < b → f k = g k) : hz_ct P f b + hz_ct P g a = hz_ct P g b + hz_ct P f a := by
  obtain ⟨n, rfl⟩ : ∃ n, b = a + n := ⟨b - a, by omega⟩
  clear hab
  induction n with
  | zero => exact Nat.add_comm _ _
  | succ n ih =>
    have e : a + (n + 1) = a + n + 1 := by omega
    have := ih (fun k h1 h2 => h k h1 (by omega))
    rw [e, hz_ct_succ, hz_ct_succ, h (a + n) (by omega) (by omega)]
    omega
/-- what the merge holds: h the target, f it was, g the source; i places written, p and q the next of either half -/
def hz_mg (f g h : Nat → Int32) (lo mid hi i p q : Nat) : Prop :=
  (i + mid = p + q ∧ lo ≤ p ∧ p ≤ mid ∧ mid ≤ q ∧ q ≤ hi) ∧ (∀ k, (k < lo ∨ hi ≤ k) → h k = f k) ∧
  (∀ P : Int32 → Bool, hz_ct P h i + hz_ct P g lo + hz_ct P g mid = hz_ct P f lo + hz_ct P g p + hz_ct P g q) ∧
  hz_so h lo i ∧ (∀ k r, lo ≤ k → k < i → p ≤ r → r < mid → (h k).toInt ≤ (g r).toInt) ∧ (∀ k r, lo ≤ k → k < i → q ≤ r → r < hi → (h k).toInt ≤ (g r).toInt)
theorem hz_mg_0 {f g h : Nat → Int32} {lo mid hi : Nat} (h1 : lo ≤ mid) (h2 : mid ≤ hi) (he : ∀ k, (k < lo ∨ hi ≤ k) → h k = f k) : hz_mg f g h lo mid hi lo lo mid := by
  refine ⟨⟨rfl, Nat.le_refl _, h1, Nat.le_refl _, h2⟩, he, fun P => ?_, fun i j i1 i2 i3 => by omega, fun k r k1 k2 => by omega, fun k r k1 k2 => by omega⟩
  rw [hz_ct_cong (P := P) (f := h) (g := f) (n := lo) (fun k hk => he k (Or.inl hk))]
theorem hz_so_push {h : Nat → Int32} {lo i : Nat} {x : Int32} (hs : hz_so h lo i) (hx : ∀ k, lo ≤ k → k < i → (h k).toInt ≤ x.toInt) : hz_so (upd h i x) lo (i + 1) := by
  intro a b h1 h2 h3
  by_cases e1 : b = i
  · rw [e1, pk_us]
    by_cases e2 : a = i
    · rw [e2, pk_us]; exact Int.le_refl _
    · rw [pk_un e2]
      exact hx a h1 (by omega)
  · rw [pk_un e1, pk_un (show a ≠ i by omega)]
    exact hs a b h1 h2 (by omega)
theorem hz_mg_p {f g h : Nat → Int32} {lo mid hi i p q : Nat} (hm : hz_mg f g h lo mid hi i p q) (s1 : hz_so g lo mid) (hp : p < mid) (hq : q < hi → (g p).toInt ≤ (g q).toInt) (s2 : hz_so g mid hi) : hz_mg f g (upd h i (g p)) lo mid hi (i + 1) (p + 1) q := by
  obtain ⟨⟨h1, h2, h3, h4, h5⟩, he, hc, hs, ha, hb⟩ := hm
  refine ⟨⟨by omega, by omega, by omega, h4, h5⟩, fun k hk => ?_, fun P => ?_, ?_, fun k r k1 k2 r1 r2 => ?_, fun k r k1 k2 r1 r2 => ?_⟩
  · rw [pk_un (by omega)]
    exact he k hk
  · have := hc P
    rw [hz_ct_succ, hz_ct_updo (Nat.le_refl i), pk_us, hz_ct_succ P g p]
    omega
  · exact hz_so_push hs (fun k k1 k2 => ha k p k1 k2 (Nat.le_refl _) hp)
  · by_cases e : k = i
    · rw [e, pk_us]
      exact s1 p r (by omega) (by omega) r2
    · rw [pk_un e]
      exact ha k r k1 (by omega) (by omega) r2
  · by_cases e : k = i
    · rw [e, pk_us]
      have a1 := hq (by omega)
      have a2 := s2 q r h4 r1 r2
      omega
    · rw [pk_un e]
      exact hb k r k1 (by omega) r1 r2
theorem hz_mg_q {f g h : Nat → Int32} {lo mid hi i p q : Nat} (hm : hz_mg f g h lo mid hi i p q) (s2 : hz_so g mid hi) (hq : q < hi) (hp : p < mid → (g q).toInt ≤ (g p).toInt) (s1 : hz_so g lo mid) : hz_mg f g (upd h i (g q)) lo mid hi (i + 1) p (q + 1) := by
  obtain ⟨⟨h1, h2, h3, h4, h5⟩, he, hc, hs, ha, hb⟩ := hm
  refine ⟨⟨by omega, by omega, by omega, by omega, by omega⟩, fun k hk => ?_, fun P => ?_, ?_, fun k r k1 k2 r1 r2 => ?_, fun k r k1 k2 r1 r2 => ?_⟩
  · rw [pk_un (by omega)]
    exact he k hk
  · have := hc P
    rw [hz_ct_succ, hz_ct_updo (Nat.le_refl i), pk_us, hz_ct_succ P g q]
    omega
  · exact hz_so_push hs (fun k k1 k2 => hb k q k1 k2 (Nat.le_refl _) hq)
  · by_cases e : k = i
    · rw [e, pk_us]
      have a1 := hp (by omega)
      have a2 := s1 p r h2 r1 r2
      omega
    · rw [pk_un e]
      exact ha k r k1 (by omega) r1 r2
  · by_cases e : k = i
    · rw [e, pk_us]
      exact s2 q r (by omega) (by omega) r2
    · rw [pk_un e]
      exact hb k r k1 (by omega) (by omega) r2
/-- the source is a rearrangement of g0, which was the target's own range: so the target is one of f -/
theorem hz_mg_done {f g g0 h : Nat → Int32} {lo mid hi p q : Nat} (hm : hz_mg f g h lo mid hi hi p q) (hs : hz_sm g0 g lo hi) (e : ∀ k, lo ≤ k → k < hi → g0 k = f k) (hl : lo ≤ hi) : hz_sm f h lo hi ∧ hz_so h lo hi := by
  obtain ⟨⟨h1, h2, h3, h4, h5⟩, he, hc, hso, ha, hb⟩ := hm
  refine ⟨⟨he, fun P => ?_⟩, hso⟩
  have e1 := hc P
  rw [show p = mid by omega, show q = hi by omega, hs.2 P] at e1
  have e2 := hz_ct_rng (P := P) (f := g0) (g := f) hl e
  have e3 : hz_ct P g lo = hz_ct P g0 lo := hz_ct_cong fun k hk => hs.1 k (Or.inl hk)
  omega
theorem hz_cp_done {f f1 g g0 h : Nat → Int32} {lo hi : Nat} (hh : ∀ k, lo ≤ k → k < hi → h k = g k) (ho : ∀ k, (k < lo ∨ hi ≤ k) → h k = f k) (hs : hz_sm g0 g lo hi) (e : ∀ k, lo ≤ k → k < hi → g0 k = f k) (hl : lo ≤ hi) (so : hz_so g lo hi) : hz_sm f h lo hi ∧ hz_so h lo hi := by
  refine ⟨⟨ho, fun P => ?_⟩, hz_so_cong so hh⟩
  have e1 := hz_ct_rng (P := P) (f := h) (g := g) hl hh
  have e2 := hz_ct_rng (P := P) (f := g0) (g := f) hl e
  have e3 : hz_ct P g lo = hz_ct P g0 lo := hz_ct_cong fun k hk => hs.1 k (Or.inl hk)
  have e4 : hz_ct P h lo = hz_ct P f lo := hz_ct_cong fun k hk => ho k (Or.inl hk)
  have e5 := hs.2 P
  omega
/-- both halves sorted, the one's last not above the other's first -/
theorem hz_so_cat {g : Nat → Int32} {lo mid hi : Nat} (s1 : hz_so g lo mid) (s2 : hz_so g mid hi) (h0 : lo < mid) (h1 : mid < hi) (h : (g (mid - 1)).toInt ≤ (g mid).toInt) : hz_so g lo hi := by
  intro i j i1 ij j1
  rcases Nat.lt_or_ge j mid with c | c
  · exact s1 i j i1 ij c
  · rcases Nat.lt_or_ge i mid with d | d
    · have a1 := s1 i (mid - 1) i1 (by omega) (by omega)
      have a2 := s2 mid j (Nat.le_refl _) c j1
      omega
    · exact s2 i j d ij j1
end
section
/-! BASE: the judgement J cells slots world pc locals stack: whatever the heap that holds the world. printed by gen_base.py -/
def hj_T2 : u_T := fun _ => ("", "", "", false)
/-- the claim's classes that are made: HeapLine 0, IntHeapPriorityQueue 1, HeapLine$Order 2, HeapLineModel 3 -/
abbrev hj_cl : List vw_C := [(RX0, TX0, 3), (RX1, TX1, 3), (RX2, hj_T2, 0), (RX4, TX4, 4)]
abbrev hj_L : Type := List (Nat × Value)
abbrev hj_JT : Type := Nat → Nat → va_W → Nat → hj_L → List Value → Prop
/-- an int array's cell -/
abbrev hj_ar (dA : ClassId) (h n : Nat) (f : Nat → Int32) : Nat × va_E := (h, .inl (dA, n, .inl f))
def hj_xC : MethodName := ⟨"IntComparator", "compare", "(II)I"⟩
def hj_xS : MethodName := ⟨"OwnPriorityQueue", "size", "()I"⟩
def hj_xE : MethodName := ⟨"IntHeapPriorityQueue", "isEmpty", "()Z"⟩
def hj_yE : MethodName := ⟨"OwnPriorityQueue", "isEmpty", "()Z"⟩
/-- the words that ride beside lw_all -/
def hj_XX (U : State) : Prop :=
  va_Fw RX2 hj_xC yX2_compare U ∧ va_Fw RX1 hj_xS yX1_size U ∧ va_Nw (.methodLink RX0 33 hj_xE) U ∧ va_Nw (.sameMethod "IntHeapPriorityQueue" "OwnPriorityQueue" "isEmpty" "()Z") U ∧ va_Nw (.landsInDefault RX1 hj_xE hj_yE) U ∧ va_Nw (.declares hj_yE) U ∧ va_Nw (.methodLinkNest RX0 11 yX2_init "HeapLine") U ∧ va_Nw (.castable "[I" "java/lang/Cloneable") U
theorem hj_lands {u U : State} {C : String} {x y : MethodName} (hv : u.vm.Alike U.vm) (h : va_Nw (.landsInDefault C x y) u) : va_Nw (.landsInDefault C x y) U := by
  have h1 : (Cond.landsInDefault C x y).before #[] (u.setVm U.vm) = true := (Cond.landsInDefault_setVm hv (State.methodFound?_setVm hv _ _ _)).trans h
  exact h1
theorem hj_XX_warm {s U : State} (hW : s.WarmedH U.vm) (h : hj_XX s) : hj_XX U := by
  obtain ⟨h1, h2, h3, h4, h5, h6, h7, h8⟩ := h
  refine ⟨va_Fw.moved (by decide) hW.alike h1, va_Fw.moved (by decide) hW.alike h2, word_at hW (Or.inl rfl) h3, word_at hW (Or.inl rfl) h4, hj_lands hW.alike h5, va_Nw.warmD hW h6, va_Nw.warmM hW h7, va_Nw.warmC hW h8⟩
theorem hj_XX_same {u U : State} (e : u.vm = U.vm) (h : hj_XX u) : hj_XX U := by
  obtain ⟨h1, h2, h3, h4, h5, h6, h7, h8⟩ := h
  have ha : u.vm.Alike U.vm := by rw [e]; exact Vm.Alike.refl U.vm
  exact ⟨va_Fw.moved (by decide) ha h1, va_Fw.moved (by decide) ha h2, va_Nw.same rfl e h3, va_Nw.same rfl e h4, hj_lands ha h5, va_Nw.same rfl e h6, va_Nw.same rfl e h7, va_Nw.same rfl e h8⟩
def hj_V (p : Program) (l : Launch) (e : Env) (R : Room) (s : State) (m : MethodId) (args : Array Value) (below : List Frame) (meth : Method) (c : Code) (nL : Nat) (D : va_G) (A : Nat → Prop) (Q : State → Prop) : hj_JT := fun cells slots ws pc lv st =>
  ∀ (H : Heap) (locs : List Loc) (ls : Array Slot), va_P D hj_cl ws H → va_D A ws → va_S A s.heap H locs → lv_has ls nL lv → W p l e R s m args below meth c H locs cells slots Q (F0 m pc ls st)
/-- J is the judgement of a method of the class own with the code cc of nL locals, in the room R -/
def hj_Ok (l : Launch) (R : Room) (D : va_G) (dA : ClassId) (own : String) (cc : ByteArray) (nL : Nat) (J : hj_JT) : Prop :=
  ∃ (p : Program) (e : Env) (s : State) (m : MethodId) (args : Array Value) (below : List Frame) (meth : Method) (c : Code) (A : Nat → Prop) (Q : State → Prop),
    J = hj_V p l e R s m args below meth c nL D A Q ∧ CallFix p m c cc nL s args lw_all own ∧ va_K D hj_cl [(dA, .int)] s ∧ (∀ q : Nat, s.heap.size ≤ q → A q) ∧ hj_XX s
/-- the kit's filter of the locals at a store to i -/
def hj_F (i : Nat) (q : Nat × Value) : Bool := !(q.1 == i) && !(q.1 + 1 == i && q.2.category == 2)
/-- a local set, the list in the order of the numbers -/
def hj_set : hj_L → Nat → Value → hj_L
  | [], i, v => [(i, v)]
  | q :: r, i, v => if i ≤ q.1 then (i, v) :: (q :: r).filter (hj_F i) else if hj_F i q then q :: hj_set r i v else hj_set r i v
theorem hj_set_mem : ∀ (lv : hj_L) (i : Nat) (v : Value) (q : Nat × Value), q ∈ hj_set lv i v → q ∈ (i, v) :: lv.filter (hj_F i)
  | [], i, v, q, h => by simpa [hj_set] using h
  | a :: r, i, v, q, h => by
    unfold hj_set at h
    split at h
    · exact h
    · rcases Bool.eq_false_or_eq_true (hj_F i a) with hf | hf
      · rw [if_pos hf] at h
        rcases List.mem_cons.mp h with h | h
        · rw [h]
          exact List.mem_cons_of_mem _ (List.mem_filter.mpr ⟨List.mem_cons_self, hf⟩)
        · rcases List.mem_cons.mp (hj_set_mem r i v q h) with h | h
          · rw [h]; exact List.mem_cons_self
          · exact List.mem_cons_of_mem _ (List.mem_filter.mpr ⟨List.mem_cons_of_mem _ (List.mem_filter.mp h).1, (List.mem_filter.mp h).2⟩)
      · rw [if_neg (by rw [hf]; decide)] at h
        rcases List.mem_cons.mp (hj_set_mem r i v q h) with h | h
        · rw [h]; exact List.mem_cons_self
        · exact List.mem_cons_of_mem _ (List.mem_filter.mpr ⟨List.mem_cons_of_mem _ (List.mem_filter.mp h).1, (List.mem_filter.mp h).2⟩)
theorem hj_has_set {ls : Array Slot} {nL i : Nat} {lv lv' : hj_L} {v : Value} (h : lv_has ls nL ((i, v) :: lv.filter (fun q => !(q.1 == i) && !(q.1 + 1 == i && q.2.category == 2)))) (e : hj_set lv i v = lv') : lv_has ls nL lv' := by
  subst e
  exact ⟨h.1, h.2.1, fun q hq => h.2.2 q (hj_set_mem lv i v q hq)⟩
section HJ
variable {l : Launch} {R : Room} {D : va_G} {dA : ClassId} {own : String} {cc : ByteArray} {nL : Nat} {J : hj_JT} {cells slots pc : Nat} {ws : va_W} {lv : hj_L} {st : List Value}
theorem hj_iconst {n : Int} (v : Int32) (o : hj_Ok l R D dA own cc nL J) (d : decode cc pc = .ok (.iconst n, 1)) (hv : Int32.ofInt n = v) (kk : J cells slots ws (pc + 1) lv (.int v :: st)) : J cells slots ws pc lv (st) := by
  obtain ⟨p, e, s, m, args, below, meth, c, A, Q, rfl, ⟨hx, hb, hml, hown, hts⟩, hK, hA, hX⟩ := o
  intro H locs ls hP hD hS hl
  exact lv_iconst hx hb d hv (kk H locs ls hP hD hS hl)
theorem hj_bipush {n : Int} (v : Int32) (o : hj_Ok l R D dA own cc nL J) (d : decode cc pc = .ok (.bipush n, 2)) (hv : (Int8.ofInt n).toInt32 = v) (kk : J cells slots ws (pc + 2) lv (.int v :: st)) : J cells slots ws pc lv (st) := by
  obtain ⟨p, e, s, m, args, below, meth, c, A, Q, rfl, ⟨hx, hb, hml, hown, hts⟩, hK, hA, hX⟩ := o
  intro H locs ls hP hD hS hl
  exact lv_bipush hx hb d hv (kk H locs ls hP hD hS hl)
theorem hj_sipush {n : Int} (v : Int32) (o : hj_Ok l R D dA own cc nL J) (d : decode cc pc = .ok (.sipush n, 3)) (hv : (Int16.ofInt n).toInt32 = v) (kk : J cells slots ws (pc + 3) lv (.int v :: st)) : J cells slots ws pc lv (st) := by
  obtain ⟨p, e, s, m, args, below, meth, c, A, Q, rfl, ⟨hx, hb, hml, hown, hts⟩, hK, hA, hX⟩ := o
  intro H locs ls hP hD hS hl
  exact lv_sipush hx hb d hv (kk H locs ls hP hD hS hl)
theorem hj_ldc {ix : Nat} {v : Int32} (o : hj_Ok l R D dA own cc nL J) (d : decode cc pc = .ok (.ldc ix, 2)) (q : Jvm.Cond.constant own ix v ∈ lw_all) (kk : J cells slots ws (pc + 2) lv (.int v :: st)) : J cells slots ws pc lv (st) := by
  obtain ⟨p, e, s, m, args, below, meth, c, A, Q, rfl, ⟨hx, hb, hml, hown, hts⟩, hK, hA, hX⟩ := o
  intro H locs ls hP hD hS hl
  exact lv_ldc hx hb hown (hts _ q) d (kk H locs ls hP hD hS hl)
theorem hj_ldc2 {ix : Nat} {v : Int64} (o : hj_Ok l R D dA own cc nL J) (d : decode cc pc = .ok (.ldc2_w ix, 3)) (q : Jvm.Cond.constantLong own ix v ∈ lw_all) (kk : J cells slots ws (pc + 3) lv (.long v :: st)) : J cells slots ws pc lv (st) := by
  obtain ⟨p, e, s, m, args, below, meth, c, A, Q, rfl, ⟨hx, hb, hml, hown, hts⟩, hK, hA, hX⟩ := o
  intro H locs ls hP hD hS hl
  exact lv_ldc2 hx hb hown (hts _ q) d (kk H locs ls hP hD hS hl)
theorem hj_null  (o : hj_Ok l R D dA own cc nL J) (d : decode cc pc = .ok (.aconst_null, 1))  (kk : J cells slots ws (pc + 1) lv (.null :: st)) : J cells slots ws pc lv (st) := by
  obtain ⟨p, e, s, m, args, below, meth, c, A, Q, rfl, ⟨hx, hb, hml, hown, hts⟩, hK, hA, hX⟩ := o
  intro H locs ls hP hD hS hl
  exact lv_null hx hb d (kk H locs ls hP hD hS hl)
theorem hj_iload_n {q : Fin 4} {i : Nat} {x : Int32} (o : hj_Ok l R D dA own cc nL J) (d : decode cc pc = .ok (.iload_n q, 1)) (k : Nat) (hi : (q : Nat) = i) (hk : lv[k]? = some (i, .int x)) (kk : J cells slots ws (pc + 1) lv (.int x :: st)) : J cells slots ws pc lv (st) := by
  obtain ⟨p, e, s, m, args, below, meth, c, A, Q, rfl, ⟨hx, hb, hml, hown, hts⟩, hK, hA, hX⟩ := o
  intro H locs ls hP hD hS hl
  exact lv_iload_n hx hb d hi (lv_at hl k hk) (kk H locs ls hP hD hS hl)
theorem hj_iload {i : Nat} {x : Int32} (o : hj_Ok l R D dA own cc nL J) (d : decode cc pc = .ok (.iload i, 2)) (k : Nat) (hk : lv[k]? = some (i, .int x)) (kk : J cells slots ws (pc + 2) lv (.int x :: st)) : J cells slots ws pc lv (st) := by
  obtain ⟨p, e, s, m, args, below, meth, c, A, Q, rfl, ⟨hx, hb, hml, hown, hts⟩, hK, hA, hX⟩ := o
  intro H locs ls hP hD hS hl
  exact lv_iload hx hb d (lv_at hl k hk) (kk H locs ls hP hD hS hl)
theorem hj_aload_n {q : Fin 4} {i : Nat} {x : Nat} (o : hj_Ok l R D dA own cc nL J) (d : decode cc pc = .ok (.aload_n q, 1)) (k : Nat) (hi : (q : Nat) = i) (hk : lv[k]? = some (i, .ref x)) (kk : J cells slots ws (pc + 1) lv (.ref x :: st)) : J cells slots ws pc lv (st) := by
  obtain ⟨p, e, s, m, args, below, meth, c, A, Q, rfl, ⟨hx, hb, hml, hown, hts⟩, hK, hA, hX⟩ := o
  intro H locs ls hP hD hS hl
  exact lv_aload_n hx hb d hi (lv_at hl k hk) (kk H locs ls hP hD hS hl)
theorem hj_aload {i : Nat} {x : Nat} (o : hj_Ok l R D dA own cc nL J) (d : decode cc pc = .ok (.aload i, 2)) (k : Nat) (hk : lv[k]? = some (i, .ref x)) (kk : J cells slots ws (pc + 2) lv (.ref x :: st)) : J cells slots ws pc lv (st) := by
  obtain ⟨p, e, s, m, args, below, meth, c, A, Q, rfl, ⟨hx, hb, hml, hown, hts⟩, hK, hA, hX⟩ := o
  intro H locs ls hP hD hS hl
  exact lv_aload hx hb d (lv_at hl k hk) (kk H locs ls hP hD hS hl)
theorem hj_aload_nN {q : Fin 4} {i : Nat} (o : hj_Ok l R D dA own cc nL J) (d : decode cc pc = .ok (.aload_n q, 1)) (k : Nat) (hi : (q : Nat) = i) (hk : lv[k]? = some (i, .null)) (kk : J cells slots ws (pc + 1) lv (.null :: st)) : J cells slots ws pc lv (st) := by
  obtain ⟨p, e, s, m, args, below, meth, c, A, Q, rfl, ⟨hx, hb, hml, hown, hts⟩, hK, hA, hX⟩ := o
  intro H locs ls hP hD hS hl
  exact lv_aload_nN hx hb d hi (lv_at hl k hk) (kk H locs ls hP hD hS hl)
theorem hj_istore_n {q : Fin 4} {i : Nat} {x : Int32} (lv' : hj_L) (o : hj_Ok l R D dA own cc nL J) (d : decode cc pc = .ok (.istore_n q, 1)) (hi : (q : Nat) = i) (hn : i < nL) (hl' : hj_set lv i (.int x) = lv') (kk : J cells slots ws (pc + 1) lv' (st)) : J cells slots ws pc lv (.int x :: st) := by
  obtain ⟨p, e, s, m, args, below, meth, c, A, Q, rfl, ⟨hx, hb, hml, hown, hts⟩, hK, hA, hX⟩ := o
  intro H locs ls hP hD hS hl
  exact lv_istore_n hx hb d hi hl hn rfl (fun ls hl => kk H locs ls hP hD hS (hj_has_set hl hl'))
theorem hj_istore {i : Nat} {x : Int32} (lv' : hj_L) (o : hj_Ok l R D dA own cc nL J) (d : decode cc pc = .ok (.istore i, 2)) (hn : i < nL) (hl' : hj_set lv i (.int x) = lv') (kk : J cells slots ws (pc + 2) lv' (st)) : J cells slots ws pc lv (.int x :: st) := by
  obtain ⟨p, e, s, m, args, below, meth, c, A, Q, rfl, ⟨hx, hb, hml, hown, hts⟩, hK, hA, hX⟩ := o
  intro H locs ls hP hD hS hl
  exact lv_istore hx hb d hl hn rfl (fun ls hl => kk H locs ls hP hD hS (hj_has_set hl hl'))
theorem hj_astore_n {q : Fin 4} {i : Nat} {x : Nat} (lv' : hj_L) (o : hj_Ok l R D dA own cc nL J) (d : decode cc pc = .ok (.astore_n q, 1)) (hi : (q : Nat) = i) (hn : i < nL) (hl' : hj_set lv i (.ref x) = lv') (kk : J cells slots ws (pc + 1) lv' (st)) : J cells slots ws pc lv (.ref x :: st) := by
  obtain ⟨p, e, s, m, args, below, meth, c, A, Q, rfl, ⟨hx, hb, hml, hown, hts⟩, hK, hA, hX⟩ := o
  intro H locs ls hP hD hS hl
  exact lv_astore_n hx hb d hi hl hn rfl (fun ls hl => kk H locs ls hP hD hS (hj_has_set hl hl'))
theorem hj_astore {i : Nat} {x : Nat} (lv' : hj_L) (o : hj_Ok l R D dA own cc nL J) (d : decode cc pc = .ok (.astore i, 2)) (hn : i < nL) (hl' : hj_set lv i (.ref x) = lv') (kk : J cells slots ws (pc + 2) lv' (st)) : J cells slots ws pc lv (.ref x :: st) := by
  obtain ⟨p, e, s, m, args, below, meth, c, A, Q, rfl, ⟨hx, hb, hml, hown, hts⟩, hK, hA, hX⟩ := o
  intro H locs ls hP hD hS hl
  exact lv_astore hx hb d hl hn rfl (fun ls hl => kk H locs ls hP hD hS (hj_has_set hl hl'))
theorem hj_iinc {i : Nat} {n : Int} {x : Int32} (v : Int32) (lv' : hj_L) (o : hj_Ok l R D dA own cc nL J) (d : decode cc pc = .ok (.iinc i n, 3)) (k : Nat) (hk : lv[k]? = some (i, .int x)) (hv : x + Int32.ofInt n = v) (hn : i < nL) (hl' : hj_set lv i (.int v) = lv') (kk : J cells slots ws (pc + 3) lv' (st)) : J cells slots ws pc lv (st) := by
  obtain ⟨p, e, s, m, args, below, meth, c, A, Q, rfl, ⟨hx, hb, hml, hown, hts⟩, hK, hA, hX⟩ := o
  intro H locs ls hP hD hS hl
  exact lv_iinc hx hb d hl (k := k) hk hv hn rfl (fun ls hl => kk H locs ls hP hD hS (hj_has_set hl hl'))
theorem hj_iadd {x y : Int32} (o : hj_Ok l R D dA own cc nL J) (d : decode cc pc = .ok (.iadd, 1))  (kk : J cells slots ws (pc + 1) lv (.int (x + y) :: st)) : J cells slots ws pc lv (.int y :: .int x :: st) := by
  obtain ⟨p, e, s, m, args, below, meth, c, A, Q, rfl, ⟨hx, hb, hml, hown, hts⟩, hK, hA, hX⟩ := o
  intro H locs ls hP hD hS hl
  exact lv_iadd hx hb d (kk H locs ls hP hD hS hl)
theorem hj_iadd_e {x y : Int32} (v : Int32) (o : hj_Ok l R D dA own cc nL J) (d : decode cc pc = .ok (.iadd, 1)) (hv : x + y = v) (kk : J cells slots ws (pc + 1) lv (.int v :: st)) : J cells slots ws pc lv (.int y :: .int x :: st) := by
  obtain ⟨p, e, s, m, args, below, meth, c, A, Q, rfl, ⟨hx, hb, hml, hown, hts⟩, hK, hA, hX⟩ := o
  intro H locs ls hP hD hS hl
  subst hv; exact lv_iadd hx hb d (kk H locs ls hP hD hS hl)
theorem hj_isub {x y : Int32} (o : hj_Ok l R D dA own cc nL J) (d : decode cc pc = .ok (.isub, 1))  (kk : J cells slots ws (pc + 1) lv (.int (x - y) :: st)) : J cells slots ws pc lv (.int y :: .int x :: st) := by
  obtain ⟨p, e, s, m, args, below, meth, c, A, Q, rfl, ⟨hx, hb, hml, hown, hts⟩, hK, hA, hX⟩ := o
  intro H locs ls hP hD hS hl
  exact lv_isub hx hb d (kk H locs ls hP hD hS hl)
theorem hj_isub_e {x y : Int32} (v : Int32) (o : hj_Ok l R D dA own cc nL J) (d : decode cc pc = .ok (.isub, 1)) (hv : x - y = v) (kk : J cells slots ws (pc + 1) lv (.int v :: st)) : J cells slots ws pc lv (.int y :: .int x :: st) := by
  obtain ⟨p, e, s, m, args, below, meth, c, A, Q, rfl, ⟨hx, hb, hml, hown, hts⟩, hK, hA, hX⟩ := o
  intro H locs ls hP hD hS hl
  subst hv; exact lv_isub hx hb d (kk H locs ls hP hD hS hl)
theorem hj_imul {x y : Int32} (o : hj_Ok l R D dA own cc nL J) (d : decode cc pc = .ok (.imul, 1))  (kk : J cells slots ws (pc + 1) lv (.int (x * y) :: st)) : J cells slots ws pc lv (.int y :: .int x :: st) := by
  obtain ⟨p, e, s, m, args, below, meth, c, A, Q, rfl, ⟨hx, hb, hml, hown, hts⟩, hK, hA, hX⟩ := o
  intro H locs ls hP hD hS hl
  exact lv_imul hx hb d (kk H locs ls hP hD hS hl)
theorem hj_imul_e {x y : Int32} (v : Int32) (o : hj_Ok l R D dA own cc nL J) (d : decode cc pc = .ok (.imul, 1)) (hv : x * y = v) (kk : J cells slots ws (pc + 1) lv (.int v :: st)) : J cells slots ws pc lv (.int y :: .int x :: st) := by
  obtain ⟨p, e, s, m, args, below, meth, c, A, Q, rfl, ⟨hx, hb, hml, hown, hts⟩, hK, hA, hX⟩ := o
  intro H locs ls hP hD hS hl
  subst hv; exact lv_imul hx hb d (kk H locs ls hP hD hS hl)
theorem hj_iand {x y : Int32} (o : hj_Ok l R D dA own cc nL J) (d : decode cc pc = .ok (.iand, 1))  (kk : J cells slots ws (pc + 1) lv (.int (x &&& y) :: st)) : J cells slots ws pc lv (.int y :: .int x :: st) := by
  obtain ⟨p, e, s, m, args, below, meth, c, A, Q, rfl, ⟨hx, hb, hml, hown, hts⟩, hK, hA, hX⟩ := o
  intro H locs ls hP hD hS hl
  exact lv_iand hx hb d (kk H locs ls hP hD hS hl)
theorem hj_iand_e {x y : Int32} (v : Int32) (o : hj_Ok l R D dA own cc nL J) (d : decode cc pc = .ok (.iand, 1)) (hv : x &&& y = v) (kk : J cells slots ws (pc + 1) lv (.int v :: st)) : J cells slots ws pc lv (.int y :: .int x :: st) := by
  obtain ⟨p, e, s, m, args, below, meth, c, A, Q, rfl, ⟨hx, hb, hml, hown, hts⟩, hK, hA, hX⟩ := o
  intro H locs ls hP hD hS hl
  subst hv; exact lv_iand hx hb d (kk H locs ls hP hD hS hl)
theorem hj_ior {x y : Int32} (o : hj_Ok l R D dA own cc nL J) (d : decode cc pc = .ok (.ior, 1))  (kk : J cells slots ws (pc + 1) lv (.int (x ||| y) :: st)) : J cells slots ws pc lv (.int y :: .int x :: st) := by
  obtain ⟨p, e, s, m, args, below, meth, c, A, Q, rfl, ⟨hx, hb, hml, hown, hts⟩, hK, hA, hX⟩ := o
  intro H locs ls hP hD hS hl
  exact lv_ior hx hb d (kk H locs ls hP hD hS hl)
theorem hj_ior_e {x y : Int32} (v : Int32) (o : hj_Ok l R D dA own cc nL J) (d : decode cc pc = .ok (.ior, 1)) (hv : x ||| y = v) (kk : J cells slots ws (pc + 1) lv (.int v :: st)) : J cells slots ws pc lv (.int y :: .int x :: st) := by
  obtain ⟨p, e, s, m, args, below, meth, c, A, Q, rfl, ⟨hx, hb, hml, hown, hts⟩, hK, hA, hX⟩ := o
  intro H locs ls hP hD hS hl
  subst hv; exact lv_ior hx hb d (kk H locs ls hP hD hS hl)
theorem hj_ixor {x y : Int32} (o : hj_Ok l R D dA own cc nL J) (d : decode cc pc = .ok (.ixor, 1))  (kk : J cells slots ws (pc + 1) lv (.int (x ^^^ y) :: st)) : J cells slots ws pc lv (.int y :: .int x :: st) := by
  obtain ⟨p, e, s, m, args, below, meth, c, A, Q, rfl, ⟨hx, hb, hml, hown, hts⟩, hK, hA, hX⟩ := o
  intro H locs ls hP hD hS hl
  exact lv_ixor hx hb d (kk H locs ls hP hD hS hl)
theorem hj_ixor_e {x y : Int32} (v : Int32) (o : hj_Ok l R D dA own cc nL J) (d : decode cc pc = .ok (.ixor, 1)) (hv : x ^^^ y = v) (kk : J cells slots ws (pc + 1) lv (.int v :: st)) : J cells slots ws pc lv (.int y :: .int x :: st) := by
  obtain ⟨p, e, s, m, args, below, meth, c, A, Q, rfl, ⟨hx, hb, hml, hown, hts⟩, hK, hA, hX⟩ := o
  intro H locs ls hP hD hS hl
  subst hv; exact lv_ixor hx hb d (kk H locs ls hP hD hS hl)
theorem hj_ishl {x y : Int32} (o : hj_Ok l R D dA own cc nL J) (d : decode cc pc = .ok (.ishl, 1))  (kk : J cells slots ws (pc + 1) lv (.int (x <<< (y &&& 31)) :: st)) : J cells slots ws pc lv (.int y :: .int x :: st) := by
  obtain ⟨p, e, s, m, args, below, meth, c, A, Q, rfl, ⟨hx, hb, hml, hown, hts⟩, hK, hA, hX⟩ := o
  intro H locs ls hP hD hS hl
  exact lv_ishl hx hb d (kk H locs ls hP hD hS hl)
theorem hj_ishl_e {x y : Int32} (v : Int32) (o : hj_Ok l R D dA own cc nL J) (d : decode cc pc = .ok (.ishl, 1)) (hv : x <<< (y &&& 31) = v) (kk : J cells slots ws (pc + 1) lv (.int v :: st)) : J cells slots ws pc lv (.int y :: .int x :: st) := by
  obtain ⟨p, e, s, m, args, below, meth, c, A, Q, rfl, ⟨hx, hb, hml, hown, hts⟩, hK, hA, hX⟩ := o
  intro H locs ls hP hD hS hl
  subst hv; exact lv_ishl hx hb d (kk H locs ls hP hD hS hl)
theorem hj_ishr {x y : Int32} (o : hj_Ok l R D dA own cc nL J) (d : decode cc pc = .ok (.ishr, 1))  (kk : J cells slots ws (pc + 1) lv (.int (x >>> (y &&& 31)) :: st)) : J cells slots ws pc lv (.int y :: .int x :: st) := by
  obtain ⟨p, e, s, m, args, below, meth, c, A, Q, rfl, ⟨hx, hb, hml, hown, hts⟩, hK, hA, hX⟩ := o
  intro H locs ls hP hD hS hl
  exact lv_ishr hx hb d (kk H locs ls hP hD hS hl)
theorem hj_ishr_e {x y : Int32} (v : Int32) (o : hj_Ok l R D dA own cc nL J) (d : decode cc pc = .ok (.ishr, 1)) (hv : x >>> (y &&& 31) = v) (kk : J cells slots ws (pc + 1) lv (.int v :: st)) : J cells slots ws pc lv (.int y :: .int x :: st) := by
  obtain ⟨p, e, s, m, args, below, meth, c, A, Q, rfl, ⟨hx, hb, hml, hown, hts⟩, hK, hA, hX⟩ := o
  intro H locs ls hP hD hS hl
  subst hv; exact lv_ishr hx hb d (kk H locs ls hP hD hS hl)
theorem hj_idiv_e {x y : Int32} (v : Int32) (o : hj_Ok l R D dA own cc nL J) (d : decode cc pc = .ok (.idiv, 1)) (hn : ¬ y = 0) (hv : x / y = v) (kk : J cells slots ws (pc + 1) lv (.int v :: st)) : J cells slots ws pc lv (.int y :: .int x :: st) := by
  obtain ⟨p, e, s, m, args, below, meth, c, A, Q, rfl, ⟨hx, hb, hml, hown, hts⟩, hK, hA, hX⟩ := o
  intro H locs ls hP hD hS hl
  subst hv; exact lv_idiv hx hb d hn (kk H locs ls hP hD hS hl)
theorem hj_irem_e {x y : Int32} (v : Int32) (o : hj_Ok l R D dA own cc nL J) (d : decode cc pc = .ok (.irem, 1)) (hn : ¬ y = 0) (hv : x - x / y * y = v) (kk : J cells slots ws (pc + 1) lv (.int v :: st)) : J cells slots ws pc lv (.int y :: .int x :: st) := by
  obtain ⟨p, e, s, m, args, below, meth, c, A, Q, rfl, ⟨hx, hb, hml, hown, hts⟩, hK, hA, hX⟩ := o
  intro H locs ls hP hD hS hl
  subst hv; exact lv_irem hx hb d hn (kk H locs ls hP hD hS hl)
theorem hj_iushr_e {x y : Int32} (v : Int32) (o : hj_Ok l R D dA own cc nL J) (d : decode cc pc = .ok (.iushr, 1)) (hv : (x.toUInt32 >>> (y.toUInt32 &&& Int32.toUInt32 31)).toInt32 = v) (kk : J cells slots ws (pc + 1) lv (.int v :: st)) : J cells slots ws pc lv (.int y :: .int x :: st) := by
  obtain ⟨p, e, s, m, args, below, meth, c, A, Q, rfl, ⟨hx, hb, hml, hown, hts⟩, hK, hA, hX⟩ := o
  intro H locs ls hP hD hS hl
  exact lv_iushr hx hb d hv (kk H locs ls hP hD hS hl)
theorem hj_i2l {x : Int32} (v : Int64) (o : hj_Ok l R D dA own cc nL J) (d : decode cc pc = .ok (.i2l, 1)) (hv : x.toInt64 = v) (kk : J cells slots ws (pc + 1) lv (.long v :: st)) : J cells slots ws pc lv (.int x :: st) := by
  obtain ⟨p, e, s, m, args, below, meth, c, A, Q, rfl, ⟨hx, hb, hml, hown, hts⟩, hK, hA, hX⟩ := o
  intro H locs ls hP hD hS hl
  exact lv_i2l hx hb d hv (kk H locs ls hP hD hS hl)
theorem hj_l2i {x : Int64} (v : Int32) (o : hj_Ok l R D dA own cc nL J) (d : decode cc pc = .ok (.l2i, 1)) (hv : x.toInt32 = v) (kk : J cells slots ws (pc + 1) lv (.int v :: st)) : J cells slots ws pc lv (.long x :: st) := by
  obtain ⟨p, e, s, m, args, below, meth, c, A, Q, rfl, ⟨hx, hb, hml, hown, hts⟩, hK, hA, hX⟩ := o
  intro H locs ls hP hD hS hl
  exact lv_l2i hx hb d hv (kk H locs ls hP hD hS hl)
theorem hj_ladd_e {x y : Int64} (v : Int64) (o : hj_Ok l R D dA own cc nL J) (d : decode cc pc = .ok (.ladd, 1)) (hv : x + y = v) (kk : J cells slots ws (pc + 1) lv (.long v :: st)) : J cells slots ws pc lv (.long y :: .long x :: st) := by
  obtain ⟨p, e, s, m, args, below, meth, c, A, Q, rfl, ⟨hx, hb, hml, hown, hts⟩, hK, hA, hX⟩ := o
  intro H locs ls hP hD hS hl
  subst hv; exact lv_ladd hx hb d (kk H locs ls hP hD hS hl)
theorem hj_iadd_n {a b : Nat} (o : hj_Ok l R D dA own cc nL J) (d : decode cc pc = .ok (.iadd, 1))  (kk : J cells slots ws (pc + 1) lv (.int (nI (a + b)) :: st)) : J cells slots ws pc lv (.int (nI b) :: .int (nI a) :: st) := hj_iadd_e _ o d (nI_add a b) kk
theorem hj_isub_n {a b : Nat} (o : hj_Ok l R D dA own cc nL J) (d : decode cc pc = .ok (.isub, 1)) (h : b ≤ a) (kk : J cells slots ws (pc + 1) lv (.int (nI (a - b)) :: st)) : J cells slots ws pc lv (.int (nI b) :: .int (nI a) :: st) := hj_isub_e _ o d (pk_sub h) kk
theorem hj_imul_n {a b : Nat} (o : hj_Ok l R D dA own cc nL J) (d : decode cc pc = .ok (.imul, 1))  (kk : J cells slots ws (pc + 1) lv (.int (nI (a * b)) :: st)) : J cells slots ws pc lv (.int (nI b) :: .int (nI a) :: st) := hj_imul_e _ o d (pk_mul a b) kk
theorem hj_idiv_n {a b : Nat} (o : hj_Ok l R D dA own cc nL J) (d : decode cc pc = .ok (.idiv, 1)) (ha : a < 2 ^ 31) (h0 : 0 < b) (hb : b < 2 ^ 31) (kk : J cells slots ws (pc + 1) lv (.int (nI (a / b)) :: st)) : J cells slots ws pc lv (.int (nI b) :: .int (nI a) :: st) := hj_idiv_e _ o d (nI_ne0 h0 hb) (pk_div ha h0 hb) kk
theorem hj_irem_n {a b : Nat} (o : hj_Ok l R D dA own cc nL J) (d : decode cc pc = .ok (.irem, 1)) (ha : a < 2 ^ 31) (h0 : 0 < b) (hb : b < 2 ^ 31) (kk : J cells slots ws (pc + 1) lv (.int (nI (a % b)) :: st)) : J cells slots ws pc lv (.int (nI b) :: .int (nI a) :: st) := hj_irem_e _ o d (nI_ne0 h0 hb) (pk_rem ha h0 hb) kk
theorem hj_ishl_1 {a : Nat} (o : hj_Ok l R D dA own cc nL J) (d : decode cc pc = .ok (.ishl, 1)) (ha : a < 2 ^ 30) (kk : J cells slots ws (pc + 1) lv (.int (nI (2 * a)) :: st)) : J cells slots ws pc lv (.int (nI 1) :: .int (nI a) :: st) := hj_ishl_e _ o d (by rw [pk_shlN (n := a) (nI 1 &&& 31) 1 (by decide) (by omega)]; congr 1; omega) kk
theorem hj_ishr_1 {a : Nat} (o : hj_Ok l R D dA own cc nL J) (d : decode cc pc = .ok (.ishr, 1)) (ha : a < 2 ^ 31) (kk : J cells slots ws (pc + 1) lv (.int (nI (a / 2)) :: st)) : J cells slots ws pc lv (.int (nI 1) :: .int (nI a) :: st) := hj_ishr_e _ o d (by rw [pk_shrN (n := a) ha (nI 1 &&& 31) 1 (by decide)]) kk
theorem hj_iushr_1 {a : Nat} (o : hj_Ok l R D dA own cc nL J) (d : decode cc pc = .ok (.iushr, 1)) (ha : a < 2 ^ 32) (kk : J cells slots ws (pc + 1) lv (.int (nI (a / 2)) :: st)) : J cells slots ws pc lv (.int (nI 1) :: .int (nI a) :: st) := hj_iushr_e _ o d (by rw [pk_ushrN (n := a) ha (nI 1) 1 (by decide)]) kk
theorem hj_iinc_n {i a : Nat} (lv' : hj_L) (o : hj_Ok l R D dA own cc nL J) (d : decode cc pc = .ok (.iinc i 1, 3)) (k : Nat) (hk : lv[k]? = some (i, .int (nI a))) (hn : i < nL) (hl' : hj_set lv i (.int (nI (a + 1))) = lv') (kk : J cells slots ws (pc + 3) lv' (st)) : J cells slots ws pc lv (st) := hj_iinc _ _ o d k hk (nI_1 a) hn hl' kk
theorem hj_iinc_m {i a : Nat} (lv' : hj_L) (o : hj_Ok l R D dA own cc nL J) (d : decode cc pc = .ok (.iinc i (-1), 3)) (k : Nat) (hk : lv[k]? = some (i, .int (nI (a + 1)))) (hn : i < nL) (hl' : hj_set lv i (.int (nI a)) = lv') (kk : J cells slots ws (pc + 3) lv' (st)) : J cells slots ws pc lv (st) := hj_iinc _ _ o d k hk (pk_m1 a) hn hl' kk
theorem hj_dup {va : Value} (o : hj_Ok l R D dA own cc nL J) (d : decode cc pc = .ok (.dup, 1)) (hv : va.category = 1) (kk : J cells slots ws (pc + 1) lv (va :: va :: st)) : J cells slots ws pc lv (va :: st) := by
  obtain ⟨p, e, s, m, args, below, meth, c, A, Q, rfl, ⟨hx, hb, hml, hown, hts⟩, hK, hA, hX⟩ := o
  intro H locs ls hP hD hS hl
  exact lv_dup hx hb d hv (kk H locs ls hP hD hS hl)
theorem hj_pop {va : Value} (o : hj_Ok l R D dA own cc nL J) (d : decode cc pc = .ok (.pop, 1)) (hv : va.category = 1) (kk : J cells slots ws (pc + 1) lv (st)) : J cells slots ws pc lv (va :: st) := by
  obtain ⟨p, e, s, m, args, below, meth, c, A, Q, rfl, ⟨hx, hb, hml, hown, hts⟩, hK, hA, hX⟩ := o
  intro H locs ls hP hD hS hl
  exact lv_pop hx hb d hv (kk H locs ls hP hD hS hl)
theorem hj_dup_x1 {va vb : Value} (o : hj_Ok l R D dA own cc nL J) (d : decode cc pc = .ok (.dup_x1, 1)) (hv : va.category = 1) (hw : vb.category = 1) (kk : J cells slots ws (pc + 1) lv (va :: vb :: va :: st)) : J cells slots ws pc lv (va :: vb :: st) := by
  obtain ⟨p, e, s, m, args, below, meth, c, A, Q, rfl, ⟨hx, hb, hml, hown, hts⟩, hK, hA, hX⟩ := o
  intro H locs ls hP hD hS hl
  exact lv_dup_x1 hx hb d hv hw (kk H locs ls hP hD hS hl)
theorem hj_dup_x2 {va vb vd : Value} (o : hj_Ok l R D dA own cc nL J) (d : decode cc pc = .ok (.dup_x2, 1)) (hv : va.category = 1) (hw : vb.category = 1) (hz : vd.category = 1) (kk : J cells slots ws (pc + 1) lv (va :: vb :: vd :: va :: st)) : J cells slots ws pc lv (va :: vb :: vd :: st) := by
  obtain ⟨p, e, s, m, args, below, meth, c, A, Q, rfl, ⟨hx, hb, hml, hown, hts⟩, hK, hA, hX⟩ := o
  intro H locs ls hP hD hS hl
  exact lv_dup_x2 hx hb d hv hw hz (kk H locs ls hP hD hS hl)
theorem hj_dup2 {va vb : Value} (o : hj_Ok l R D dA own cc nL J) (d : decode cc pc = .ok (.dup2, 1)) (hv : va.category = 1) (hw : vb.category = 1) (kk : J cells slots ws (pc + 1) lv (va :: vb :: va :: vb :: st)) : J cells slots ws pc lv (va :: vb :: st) := by
  obtain ⟨p, e, s, m, args, below, meth, c, A, Q, rfl, ⟨hx, hb, hml, hown, hts⟩, hK, hA, hX⟩ := o
  intro H locs ls hP hD hS hl
  exact lv_dup2_11 hx hb d hv hw (kk H locs ls hP hD hS hl)
theorem hj_icmp_eq {x y : Int32} {off : Int} (tgt : Nat) (o : hj_Ok l R D dA own cc nL J) (d : decode cc pc = .ok (.if_icmp .eq off, 3)) (ht : (pc : Int) + off = (tgt : Int)) (kt : x = y → J cells slots ws tgt lv (st)) (kf : ¬ x = y → J cells slots ws (pc + 3) lv (st)) : J cells slots ws pc lv (.int y :: .int x :: st) := by
  obtain ⟨p, e, s, m, args, below, meth, c, A, Q, rfl, ⟨hx, hb, hml, hown, hts⟩, hK, hA, hX⟩ := o
  intro H locs ls hP hD hS hl
  exact lv_icmp_eq hx hb d ht (fun q => kt q H locs ls hP hD hS hl) (fun q => kf q H locs ls hP hD hS hl)
theorem hj_if_eq {x : Int32} {off : Int} (tgt : Nat) (o : hj_Ok l R D dA own cc nL J) (d : decode cc pc = .ok (.ifCond .eq off, 3)) (ht : (pc : Int) + off = (tgt : Int)) (kt : x = 0 → J cells slots ws tgt lv (st)) (kf : ¬ x = 0 → J cells slots ws (pc + 3) lv (st)) : J cells slots ws pc lv (.int x :: st) := by
  obtain ⟨p, e, s, m, args, below, meth, c, A, Q, rfl, ⟨hx, hb, hml, hown, hts⟩, hK, hA, hX⟩ := o
  intro H locs ls hP hD hS hl
  exact lv_if_eq hx hb d ht (fun q => kt q H locs ls hP hD hS hl) (fun q => kf q H locs ls hP hD hS hl)
theorem hj_n_eq {a b : Nat} {off : Int} (tgt : Nat) (o : hj_Ok l R D dA own cc nL J) (d : decode cc pc = .ok (.if_icmp .eq off, 3)) (ht : (pc : Int) + off = (tgt : Int)) (ha : a < 2 ^ 31) (hb : b < 2 ^ 31) (kt : a = b → J cells slots ws tgt lv (st)) (kf : a ≠ b → J cells slots ws (pc + 3) lv (st)) : J cells slots ws pc lv (.int (nI b) :: .int (nI a) :: st) :=
  hj_icmp_eq tgt o d ht (fun q => kt ((nI_eq ha hb).mp q)) (fun q => kf (fun z => q ((nI_eq ha hb).mpr z)))
theorem hj_icmp_ne {x y : Int32} {off : Int} (tgt : Nat) (o : hj_Ok l R D dA own cc nL J) (d : decode cc pc = .ok (.if_icmp .ne off, 3)) (ht : (pc : Int) + off = (tgt : Int)) (kt : ¬ x = y → J cells slots ws tgt lv (st)) (kf : x = y → J cells slots ws (pc + 3) lv (st)) : J cells slots ws pc lv (.int y :: .int x :: st) := by
  obtain ⟨p, e, s, m, args, below, meth, c, A, Q, rfl, ⟨hx, hb, hml, hown, hts⟩, hK, hA, hX⟩ := o
  intro H locs ls hP hD hS hl
  exact lv_icmp_ne hx hb d ht (fun q => kt q H locs ls hP hD hS hl) (fun q => kf q H locs ls hP hD hS hl)
theorem hj_if_ne {x : Int32} {off : Int} (tgt : Nat) (o : hj_Ok l R D dA own cc nL J) (d : decode cc pc = .ok (.ifCond .ne off, 3)) (ht : (pc : Int) + off = (tgt : Int)) (kt : ¬ x = 0 → J cells slots ws tgt lv (st)) (kf : x = 0 → J cells slots ws (pc + 3) lv (st)) : J cells slots ws pc lv (.int x :: st) := by
  obtain ⟨p, e, s, m, args, below, meth, c, A, Q, rfl, ⟨hx, hb, hml, hown, hts⟩, hK, hA, hX⟩ := o
  intro H locs ls hP hD hS hl
  exact lv_if_ne hx hb d ht (fun q => kt q H locs ls hP hD hS hl) (fun q => kf q H locs ls hP hD hS hl)
theorem hj_n_ne {a b : Nat} {off : Int} (tgt : Nat) (o : hj_Ok l R D dA own cc nL J) (d : decode cc pc = .ok (.if_icmp .ne off, 3)) (ht : (pc : Int) + off = (tgt : Int)) (ha : a < 2 ^ 31) (hb : b < 2 ^ 31) (kt : a ≠ b → J cells slots ws tgt lv (st)) (kf : a = b → J cells slots ws (pc + 3) lv (st)) : J cells slots ws pc lv (.int (nI b) :: .int (nI a) :: st) :=
  hj_icmp_ne tgt o d ht (fun q => kt (fun z => q ((nI_eq ha hb).mpr z))) (fun q => kf ((nI_eq ha hb).mp q))
theorem hj_icmp_lt {x y : Int32} {off : Int} (tgt : Nat) (o : hj_Ok l R D dA own cc nL J) (d : decode cc pc = .ok (.if_icmp .lt off, 3)) (ht : (pc : Int) + off = (tgt : Int)) (kt : x < y → J cells slots ws tgt lv (st)) (kf : ¬ x < y → J cells slots ws (pc + 3) lv (st)) : J cells slots ws pc lv (.int y :: .int x :: st) := by
  obtain ⟨p, e, s, m, args, below, meth, c, A, Q, rfl, ⟨hx, hb, hml, hown, hts⟩, hK, hA, hX⟩ := o
  intro H locs ls hP hD hS hl
  exact lv_icmp_lt hx hb d ht (fun q => kt q H locs ls hP hD hS hl) (fun q => kf q H locs ls hP hD hS hl)
theorem hj_if_lt {x : Int32} {off : Int} (tgt : Nat) (o : hj_Ok l R D dA own cc nL J) (d : decode cc pc = .ok (.ifCond .lt off, 3)) (ht : (pc : Int) + off = (tgt : Int)) (kt : x < 0 → J cells slots ws tgt lv (st)) (kf : ¬ x < 0 → J cells slots ws (pc + 3) lv (st)) : J cells slots ws pc lv (.int x :: st) := by
  obtain ⟨p, e, s, m, args, below, meth, c, A, Q, rfl, ⟨hx, hb, hml, hown, hts⟩, hK, hA, hX⟩ := o
  intro H locs ls hP hD hS hl
  exact lv_if_lt hx hb d ht (fun q => kt q H locs ls hP hD hS hl) (fun q => kf q H locs ls hP hD hS hl)
theorem hj_n_lt {a b : Nat} {off : Int} (tgt : Nat) (o : hj_Ok l R D dA own cc nL J) (d : decode cc pc = .ok (.if_icmp .lt off, 3)) (ht : (pc : Int) + off = (tgt : Int)) (ha : a < 2 ^ 31) (hb : b < 2 ^ 31) (kt : a < b → J cells slots ws tgt lv (st)) (kf : b ≤ a → J cells slots ws (pc + 3) lv (st)) : J cells slots ws pc lv (.int (nI b) :: .int (nI a) :: st) :=
  hj_icmp_lt tgt o d ht (fun q => kt ((nI_ltI ha hb).mp q)) (fun q => kf (Nat.not_lt.mp (fun z => q ((nI_ltI ha hb).mpr z))))
theorem hj_icmp_ge {x y : Int32} {off : Int} (tgt : Nat) (o : hj_Ok l R D dA own cc nL J) (d : decode cc pc = .ok (.if_icmp .ge off, 3)) (ht : (pc : Int) + off = (tgt : Int)) (kt : y ≤ x → J cells slots ws tgt lv (st)) (kf : ¬ y ≤ x → J cells slots ws (pc + 3) lv (st)) : J cells slots ws pc lv (.int y :: .int x :: st) := by
  obtain ⟨p, e, s, m, args, below, meth, c, A, Q, rfl, ⟨hx, hb, hml, hown, hts⟩, hK, hA, hX⟩ := o
  intro H locs ls hP hD hS hl
  exact lv_icmp_ge hx hb d ht (fun q => kt q H locs ls hP hD hS hl) (fun q => kf q H locs ls hP hD hS hl)
theorem hj_if_ge {x : Int32} {off : Int} (tgt : Nat) (o : hj_Ok l R D dA own cc nL J) (d : decode cc pc = .ok (.ifCond .ge off, 3)) (ht : (pc : Int) + off = (tgt : Int)) (kt : 0 ≤ x → J cells slots ws tgt lv (st)) (kf : ¬ 0 ≤ x → J cells slots ws (pc + 3) lv (st)) : J cells slots ws pc lv (.int x :: st) := by
  obtain ⟨p, e, s, m, args, below, meth, c, A, Q, rfl, ⟨hx, hb, hml, hown, hts⟩, hK, hA, hX⟩ := o
  intro H locs ls hP hD hS hl
  exact lv_if_ge hx hb d ht (fun q => kt q H locs ls hP hD hS hl) (fun q => kf q H locs ls hP hD hS hl)
theorem hj_n_ge {a b : Nat} {off : Int} (tgt : Nat) (o : hj_Ok l R D dA own cc nL J) (d : decode cc pc = .ok (.if_icmp .ge off, 3)) (ht : (pc : Int) + off = (tgt : Int)) (ha : a < 2 ^ 31) (hb : b < 2 ^ 31) (kt : b ≤ a → J cells slots ws tgt lv (st)) (kf : a < b → J cells slots ws (pc + 3) lv (st)) : J cells slots ws pc lv (.int (nI b) :: .int (nI a) :: st) :=
  hj_icmp_ge tgt o d ht (fun q => kt ((nI_leI hb ha).mp q)) (fun q => kf (Nat.not_le.mp (fun z => q ((nI_leI hb ha).mpr z))))
theorem hj_icmp_gt {x y : Int32} {off : Int} (tgt : Nat) (o : hj_Ok l R D dA own cc nL J) (d : decode cc pc = .ok (.if_icmp .gt off, 3)) (ht : (pc : Int) + off = (tgt : Int)) (kt : y < x → J cells slots ws tgt lv (st)) (kf : ¬ y < x → J cells slots ws (pc + 3) lv (st)) : J cells slots ws pc lv (.int y :: .int x :: st) := by
  obtain ⟨p, e, s, m, args, below, meth, c, A, Q, rfl, ⟨hx, hb, hml, hown, hts⟩, hK, hA, hX⟩ := o
  intro H locs ls hP hD hS hl
  exact lv_icmp_gt hx hb d ht (fun q => kt q H locs ls hP hD hS hl) (fun q => kf q H locs ls hP hD hS hl)
theorem hj_if_gt {x : Int32} {off : Int} (tgt : Nat) (o : hj_Ok l R D dA own cc nL J) (d : decode cc pc = .ok (.ifCond .gt off, 3)) (ht : (pc : Int) + off = (tgt : Int)) (kt : 0 < x → J cells slots ws tgt lv (st)) (kf : ¬ 0 < x → J cells slots ws (pc + 3) lv (st)) : J cells slots ws pc lv (.int x :: st) := by
  obtain ⟨p, e, s, m, args, below, meth, c, A, Q, rfl, ⟨hx, hb, hml, hown, hts⟩, hK, hA, hX⟩ := o
  intro H locs ls hP hD hS hl
  exact lv_if_gt hx hb d ht (fun q => kt q H locs ls hP hD hS hl) (fun q => kf q H locs ls hP hD hS hl)
theorem hj_n_gt {a b : Nat} {off : Int} (tgt : Nat) (o : hj_Ok l R D dA own cc nL J) (d : decode cc pc = .ok (.if_icmp .gt off, 3)) (ht : (pc : Int) + off = (tgt : Int)) (ha : a < 2 ^ 31) (hb : b < 2 ^ 31) (kt : b < a → J cells slots ws tgt lv (st)) (kf : a ≤ b → J cells slots ws (pc + 3) lv (st)) : J cells slots ws pc lv (.int (nI b) :: .int (nI a) :: st) :=
  hj_icmp_gt tgt o d ht (fun q => kt ((nI_ltI hb ha).mp q)) (fun q => kf (Nat.not_lt.mp (fun z => q ((nI_ltI hb ha).mpr z))))
theorem hj_icmp_le {x y : Int32} {off : Int} (tgt : Nat) (o : hj_Ok l R D dA own cc nL J) (d : decode cc pc = .ok (.if_icmp .le off, 3)) (ht : (pc : Int) + off = (tgt : Int)) (kt : x ≤ y → J cells slots ws tgt lv (st)) (kf : ¬ x ≤ y → J cells slots ws (pc + 3) lv (st)) : J cells slots ws pc lv (.int y :: .int x :: st) := by
  obtain ⟨p, e, s, m, args, below, meth, c, A, Q, rfl, ⟨hx, hb, hml, hown, hts⟩, hK, hA, hX⟩ := o
  intro H locs ls hP hD hS hl
  exact lv_icmp_le hx hb d ht (fun q => kt q H locs ls hP hD hS hl) (fun q => kf q H locs ls hP hD hS hl)
theorem hj_if_le {x : Int32} {off : Int} (tgt : Nat) (o : hj_Ok l R D dA own cc nL J) (d : decode cc pc = .ok (.ifCond .le off, 3)) (ht : (pc : Int) + off = (tgt : Int)) (kt : x ≤ 0 → J cells slots ws tgt lv (st)) (kf : ¬ x ≤ 0 → J cells slots ws (pc + 3) lv (st)) : J cells slots ws pc lv (.int x :: st) := by
  obtain ⟨p, e, s, m, args, below, meth, c, A, Q, rfl, ⟨hx, hb, hml, hown, hts⟩, hK, hA, hX⟩ := o
  intro H locs ls hP hD hS hl
  exact lv_if_le hx hb d ht (fun q => kt q H locs ls hP hD hS hl) (fun q => kf q H locs ls hP hD hS hl)
theorem hj_n_le {a b : Nat} {off : Int} (tgt : Nat) (o : hj_Ok l R D dA own cc nL J) (d : decode cc pc = .ok (.if_icmp .le off, 3)) (ht : (pc : Int) + off = (tgt : Int)) (ha : a < 2 ^ 31) (hb : b < 2 ^ 31) (kt : a ≤ b → J cells slots ws tgt lv (st)) (kf : b < a → J cells slots ws (pc + 3) lv (st)) : J cells slots ws pc lv (.int (nI b) :: .int (nI a) :: st) :=
  hj_icmp_le tgt o d ht (fun q => kt ((nI_leI ha hb).mp q)) (fun q => kf (Nat.not_le.mp (fun z => q ((nI_leI ha hb).mpr z))))
theorem hj_goto {off : Int} (tgt : Nat) (o : hj_Ok l R D dA own cc nL J) (d : decode cc pc = .ok (.goto off, 3)) (ht : (pc : Int) + off = (tgt : Int)) (kk : J cells slots ws tgt lv (st)) : J cells slots ws pc lv (st) := by
  obtain ⟨p, e, s, m, args, below, meth, c, A, Q, rfl, ⟨hx, hb, hml, hown, hts⟩, hK, hA, hX⟩ := o
  intro H locs ls hP hD hS hl
  exact lv_goto hx hb d ht (kk H locs ls hP hD hS hl)
theorem hj_ifnonnull {off : Int} {x : Nat} (tgt : Nat) (o : hj_Ok l R D dA own cc nL J) (d : decode cc pc = .ok (.ifnonnull off, 3)) (ht : (pc : Int) + off = (tgt : Int)) (kk : J cells slots ws tgt lv (st)) : J cells slots ws pc lv (.ref x :: st) := by
  obtain ⟨p, e, s, m, args, below, meth, c, A, Q, rfl, ⟨hx, hb, hml, hown, hts⟩, hK, hA, hX⟩ := o
  intro H locs ls hP hD hS hl
  exact lv_ifnonnull hx hb d ht (kk H locs ls hP hD hS hl)
theorem hj_ifnonnullN {off : Int} (o : hj_Ok l R D dA own cc nL J) (d : decode cc pc = .ok (.ifnonnull off, 3)) (kk : J cells slots ws (pc + 3) lv (st)) : J cells slots ws pc lv (.null :: st) := by
  obtain ⟨p, e, s, m, args, below, meth, c, A, Q, rfl, ⟨hx, hb, hml, hown, hts⟩, hK, hA, hX⟩ := o
  intro H locs ls hP hD hS hl
  exact lv_ifnonnullN hx hb d (kk H locs ls hP hD hS hl)
theorem hj_castN {ix : Nat} (o : hj_Ok l R D dA own cc nL J) (d : decode cc pc = .ok (.checkcast ix, 3)) (kk : J cells slots ws (pc + 3) lv (.null :: st)) : J cells slots ws pc lv (.null :: st) := by
  obtain ⟨p, e, s, m, args, below, meth, c, A, Q, rfl, ⟨hx, hb, hml, hown, hts⟩, hK, hA, hX⟩ := o
  intro H locs ls hP hD hS hl
  exact lv_castN hx hb d (kk H locs ls hP hD hS hl)
theorem hj_iald {a n j : Nat} {f : Nat → Int32} (o : hj_Ok l R D dA own cc nL J) (d : decode cc pc = .ok (.iaload, 1)) (q0 : Nat) (ha : ws[q0]? = some (hj_ar dA a n f)) (hj : j < n) (hn : n < 2 ^ 31) (kk : J cells slots ws (pc + 1) lv (.int (f j) :: st)) : J cells slots ws pc lv (.int (nI j) :: .ref a :: st) := by
  obtain ⟨p, e, s, m, args, below, meth, c, A, Q, rfl, ⟨hx, hb, hml, hown, hts⟩, hK, hA, hX⟩ := o
  intro H locs ls hP hD hS hl
  have k1 := kk H locs ls hP hD hS hl
  rw [← nI_clamp (n := j) (by omega)] at k1
  exact va_iald hx hb hK hP q0 0 ha rfl (vp_in_nI hj hn) d k1
theorem hj_iast {a n j : Nat} {f : Nat → Int32} {x : Int32} (ws' : va_W) (o : hj_Ok l R D dA own cc nL J) (d : decode cc pc = .ok (.iastore, 1)) (q0 : Nat) (ha : ws[q0]? = some (hj_ar dA a n f)) (hj : j < n) (hn : n < 2 ^ 31) (hw : ws.set q0 (hj_ar dA a n (upd f j x)) = ws') (kk : J cells slots ws' (pc + 1) lv st) : J cells slots ws pc lv (.int x :: .int (nI j) :: .ref a :: st) := by
  obtain ⟨p, e, s, m, args, below, meth, c, A, Q, rfl, ⟨hx, hb, hml, hown, hts⟩, hK, hA, hX⟩ := o
  intro H locs ls hP hD hS hl
  subst hw
  refine va_iast hx hb hK hP hD hS q0 0 ha rfl (vp_in_nI hj hn) d (fun H locs hP hD hS => ?_)
  rw [nI_clamp (n := j) (by omega)] at hP hD
  exact kk H locs ls hP hD hS hl
theorem hj_alen {a n : Nat} {f : Nat → Int32} (o : hj_Ok l R D dA own cc nL J) (d : decode cc pc = .ok (.arraylength, 1)) (q0 : Nat) (ha : ws[q0]? = some (hj_ar dA a n f)) (kk : J cells slots ws (pc + 1) lv (.int (nI n) :: st)) : J cells slots ws pc lv (.ref a :: st) := by
  obtain ⟨p, e, s, m, args, below, meth, c, A, Q, rfl, ⟨hx, hb, hml, hown, hts⟩, hK, hA, hX⟩ := o
  intro H locs ls hP hD hS hl
  exact va_alen (v := nI n) hx hb hK hP q0 0 ha rfl rfl d (kk H locs ls hP hD hS hl)
theorem hj_newa {n : Nat} (o : hj_Ok l R D dA own cc nL J) (d : decode cc pc = .ok (.newarray .int, 2)) (hn : n < 2 ^ 27) (hc : cells + 1 ≤ R.cells) (hs : slots + n ≤ R.slots) (kk : ∀ q : Nat, J (cells + 1) (slots + n) (ws ++ [hj_ar dA q n (fun _ => 0)]) (pc + 2) lv (.ref q :: st)) : J cells slots ws pc lv (.int (nI n) :: st) := by
  obtain ⟨p, e, s, m, args, below, meth, c, A, Q, rfl, ⟨hx, hb, hml, hown, hts⟩, hK, hA, hX⟩ := o
  intro H locs ls hP hD hS hl
  have e1 : (nI n).toNatClampNeg = n := nI_clamp (by omega)
  refine va_newa (atype := .int) (a0 := (n, .inl (fun _ => 0))) hx hb (hts _ q51) rfl hK hP hD hS hA (fun cA => rfl) (nI_pos (by omega)) e1 (by show n * 4 ≤ 536870912; omega) hc hs d (fun q cA H hK1 hP hD hS => ?_)
  have e2 := va_nm_int (hK.2 0 _ rfl).2
  have e3 := va_nm_int (hK1.2 1 _ rfl).2
  have e4 : cA = dA := Option.some.inj (e3.symm.trans e2)
  subst e4
  exact kk q H locs ls hP hD hS hl
theorem hj_copyi {a0 a1 n0 n1 sp dp n : Nat} {f g : Nat → Int32} {ix : Nat} (ws' : va_W) (o : hj_Ok l R D dA own cc nL J) (d : decode cc pc = .ok (.invokestatic ix, 3)) (q : Cond.methodLink own ix arraycopyName ∈ lw_all) (q0 q1 : Nat) (ha0 : ws[q0]? = some (hj_ar dA a0 n0 f)) (ha1 : ws[q1]? = some (hj_ar dA a1 n1 g)) (h4 : sp + n ≤ n0) (h5 : dp + n ≤ n1) (hn0 : n0 < 2 ^ 31) (hn1 : n1 < 2 ^ 31) (hf : 1 ≤ R.frames) (hlo : (st.map fun v => v.category).sum + (nativeFrameWords "java/lang/System" "arraycopy" 5 + 11) ≤ R.locals) (hw : ws.set q1 (hj_ar dA a1 n1 (va_cpy f g sp dp n)) = ws') (kk : J cells slots ws' (pc + 3) lv st) : J cells slots ws pc lv (.int (nI n) :: .int (nI dp) :: .ref a1 :: .int (nI sp) :: .ref a0 :: st) := by
  obtain ⟨p, e, s, m, args, below, meth, c, A, Q, rfl, ⟨hx, hb, hml, hown, hts⟩, hK, hA, hX⟩ := o
  intro H locs ls hP hD hS hl
  subst hw
  have e1 : (nI sp).toNatClampNeg = sp := nI_clamp (by omega)
  have e2 : (nI dp).toNatClampNeg = dp := nI_clamp (by omega)
  have e3 : (nI n).toNatClampNeg = n := nI_clamp (by omega)
  refine va_copyi (ty := .int) hx hb (hml.trans hl.1.symm) hown (hts _ q) (hts _ q89) (hts _ q88) (hts _ q10) hK hP hD hS q0 q1 0 0 ha0 ha1 rfl rfl rfl (nI_pos (by omega)) (nI_pos (by omega)) (nI_pos (by omega)) (by rw [e1, e3]; exact h4) (by rw [e2, e3]; exact h5) (fun _ _ => rfl) hf hlo d (fun H locs hP hD hS => ?_)
  rw [e1, e2, e3] at hP hD
  exact kk H locs ls hP hD hS hl
theorem hj_min {x y : Int32} {ix : Nat} (o : hj_Ok l R D dA own cc nL J) (d : decode cc pc = .ok (.invokestatic ix, 3)) (q : Cond.methodLink own ix Lib.Math.min.name ∈ lw_all) (hf : 1 ≤ R.frames) (hlo : (st.map fun v => v.category).sum + 13 ≤ R.locals) (hc : cells ≤ R.cells) (hs : slots ≤ R.slots) (kk : J cells slots ws (pc + 3) lv (.int (if y < x then y else x) :: st)) : J cells slots ws pc lv (.int y :: .int x :: st) := by
  obtain ⟨p, e, s, m, args, below, meth, c, A, Q, rfl, ⟨hx, hb, hml, hown, hts⟩, hK, hA, hX⟩ := o
  intro H locs ls hP hD hS hl
  exact va_mmin hx hb (hml.trans hl.1.symm) hown (hts _ q) (hts _ q237) (hts _ q9) (hts _ q238) hf hlo hc hs d (kk H locs ls hP hD hS hl)
theorem hj_min_n {a b : Nat} {ix : Nat} (o : hj_Ok l R D dA own cc nL J) (d : decode cc pc = .ok (.invokestatic ix, 3)) (q : Cond.methodLink own ix Lib.Math.min.name ∈ lw_all) (hf : 1 ≤ R.frames) (hlo : (st.map fun v => v.category).sum + 13 ≤ R.locals) (hc : cells ≤ R.cells) (hs : slots ≤ R.slots) (ha : a < 2 ^ 31) (hb : b < 2 ^ 31) (kk : J cells slots ws (pc + 3) lv (.int (nI (min a b)) :: st)) : J cells slots ws pc lv (.int (nI b) :: .int (nI a) :: st) := by
  refine hj_min o d q hf hlo hc hs ?_
  have e : (if nI b < nI a then nI b else nI a) = nI (min a b) := by
    by_cases h : b < a
    · rw [if_pos ((nI_ltI hb ha).mpr h), Nat.min_eq_right (by omega)]
    · rw [if_neg (fun z => h ((nI_ltI hb ha).mp z)), Nat.min_eq_left (by omega)]
  rw [e]
  exact kk
theorem hj_widen {k n : Nat} (o : hj_Ok l R D dA own cc nL J) (h1 : cells ≤ k) (h2 : slots ≤ n) (kk : J k n ws pc lv st) : J cells slots ws pc lv st := by
  obtain ⟨p, e, s, m, args, below, meth, c, A, Q, rfl, ⟨hx, hb, hml, hown, hts⟩, hK, hA, hX⟩ := o
  intro H locs ls hP hD hS hl
  exact W.widen h1 h2 (kk H locs ls hP hD hS hl)
/-- another order of the world, or less of it -/
theorem hj_pick (ws' : va_W) (is : List Nat) (o : hj_Ok l R D dA own cc nL J) (hn : va_nd is = true) (hs : is.map (fun i => ws[i]?) = ws'.map some) (kk : J cells slots ws' pc lv st) : J cells slots ws pc lv st := by
  obtain ⟨p, e, s, m, args, below, meth, c, A, Q, rfl, ⟨hx, hb, hml, hown, hts⟩, hK, hA, hX⟩ := o
  intro H locs ls hP hD hS hl
  have e : is.filterMap (fun i => ws[i]?) = ws' := by
    have h1 : (is.map (fun i => ws[i]?)).filterMap id = (ws'.map some).filterMap id := by rw [hs]
    simpa [List.filterMap_map] using h1
  exact kk H locs ls (hP.sub is e) (hD.sub is hn hs) hS hl
/-- fewer locals, or another order -/
theorem hj_lv (lv' : hj_L) (ks : List Nat) (o : hj_Ok l R D dA own cc nL J) (h : lv_pick lv ks = lv') (kk : J cells slots ws pc lv' st) : J cells slots ws pc lv st := by
  obtain ⟨p, e, s, m, args, below, meth, c, A, Q, rfl, ⟨hx, hb, hml, hown, hts⟩, hK, hA, hX⟩ := o
  intro H locs ls hP hD hS hl
  exact kk H locs ls hP hD hS (lv_sub hl ks h)
/-- the top of the stack, written otherwise -/
theorem hj_top {x : Int32} (y : Int32) (h : x = y) (kk : J cells slots ws pc lv (.int y :: st)) : J cells slots ws pc lv (.int x :: st) := by
  subst h; exact kk
theorem hj_topl {x : Int64} (y : Int64) (h : x = y) (kk : J cells slots ws pc lv (.long y :: st)) : J cells slots ws pc lv (.long x :: st) := by
  subst h; exact kk
end HJ
end
section
/-! CALLS: a contract's form, how a method is entered and left, one rule a kind of call. printed by gen_calls.py -/
def hj_Pc (D : va_G) (dA : ClassId) (As : List Value) (wc : va_W) (sz : Nat) : Array Value → State → Prop := va_Pc As (fun U => U.heap.size = sz ∧ va_P D hj_cl wc U.heap ∧ va_K D hj_cl [(dA, .int)] U ∧ va_D (fun _ => True) wc ∧ hj_XX U)
def hj_B {S : Type} (D : va_G) (dA : ClassId) (wc : va_W) (sz : Nat) (wn : S → va_W) : S → State → Prop := fun u t => va_P D hj_cl (wn u) t.heap ∧ va_K D hj_cl [(dA, .int)] t ∧ va_D (va_A wc sz) (wn u)
/-- the contract of a void method: called with As in the world wc it returns, and the world is wn u for a u with post u -/
def hj_KV (l : Launch) {S : Type} (y : MethodName) (bytes : ByteArray) (L : Nat) (rm : Room) (D : va_G) (dA : ClassId) (As : List Value) (wc : va_W) (post : S → Prop) (wn : S → va_W) : Prop :=
  ∀ sz : Nat, Met l y (ws_ y bytes L none) rm (hj_Pc D dA As wc sz) (va_Qv post (hj_B D dA wc sz wn) (va_A wc sz)) rm.cells rm.slots (va_A wc sz)
/-- .. of a method that answers an int (or a boolean) r: post r u -/
def hj_KI (l : Launch) {S : Type} (y : MethodName) (bytes : ByteArray) (L : Nat) (rt : FieldType) (rm : Room) (D : va_G) (dA : ClassId) (As : List Value) (wc : va_W) (post : Int32 → S → Prop) (wn : S → va_W) : Prop :=
  ∀ sz : Nat, Met l y (ws_ y bytes L (some rt)) rm (hj_Pc D dA As wc sz) (va_Qi post (hj_B D dA wc sz wn) (va_A wc sz)) rm.cells rm.slots (va_A wc sz)
/-- .. of a method that answers an array: its address is in the world -/
def hj_KR (l : Launch) {S : Type} (y : MethodName) (bytes : ByteArray) (L : Nat) (rm : Room) (D : va_G) (dA : ClassId) (As : List Value) (wc : va_W) (post : S → Prop) (wn : S → Nat → va_W) : Prop :=
  ∀ sz : Nat, Met l y (ws_ y bytes L (some (.array .int))) rm (hj_Pc D dA As wc sz) (va_Qr post (fun u a t => hj_B D dA wc sz (fun v => wn v a) u t) (va_A wc sz)) rm.cells rm.slots (va_A wc sz)
theorem hj_blind {D : va_G} {dA : ClassId} {As : List Value} {wc : va_W} {sz : Nat} : FrameBlind (hj_Pc D dA As wc sz) := by
  intro a U g mk h
  obtain ⟨q0, q1, qP, qK, qD, qX⟩ := h
  exact ⟨q0, q1, qP, va_K.moved (u := U) (U := U.calling g mk a) (Vm.Alike.refl U.vm) qK, qD, hj_XX_same rfl qX⟩
theorem hj_fm {ws wc : va_W} {is : List Nat} (hs : is.map (fun i => ws[i]?) = wc.map some) : is.filterMap (fun i => ws[i]?) = wc := by
  have h1 : (is.map (fun i => ws[i]?)).filterMap id = (wc.map some).filterMap id := by rw [hs]
  simpa [List.filterMap_map] using h1
/-- how J is left by return: the world u, its places in ws -/
def hj_retV {S : Type} (cc : ByteArray) (rm : Room) (post : S → Prop) (wn : S → va_W) (J : hj_JT) : Prop := ∀ (cells slots : Nat) (ws : va_W) (pc : Nat) (lv : hj_L) (u : S) (is : List Nat), decode cc pc = .ok (.return_, 1) → cells ≤ rm.cells → slots ≤ rm.slots → post u → va_nd is = true → is.map (fun i => ws[i]?) = (wn u).map some → J cells slots ws pc lv []
def hj_retI {S : Type} (cc : ByteArray) (rt : FieldType) (rm : Room) (post : Int32 → S → Prop) (wn : S → va_W) (J : hj_JT) : Prop := ∀ (cells slots : Nat) (ws : va_W) (pc : Nat) (lv : hj_L) (r : Int32) (u : S) (is : List Nat), decode cc pc = .ok (.ireturn, 1) → cells ≤ rm.cells → slots ≤ rm.slots → narrow rt (.int r) = .int r → post r u → va_nd is = true → is.map (fun i => ws[i]?) = (wn u).map some → J cells slots ws pc lv [.int r]
def hj_retR {S : Type} (cc : ByteArray) (rm : Room) (post : S → Prop) (wn : S → Nat → va_W) (J : hj_JT) : Prop := ∀ (cells slots : Nat) (ws : va_W) (pc : Nat) (lv : hj_L) (a : Nat) (u : S) (is : List Nat), decode cc pc = .ok (.areturn, 1) → cells ≤ rm.cells → slots ≤ rm.slots → post u → va_nd is = true → is.map (fun i => ws[i]?) = (wn u a).map some → J cells slots ws pc lv [.ref a]
section HI
variable {l : Launch} {S : Type} {y : MethodName} {bytes : ByteArray} {nL : Nat} {rm : Room} {D : va_G} {dA : ClassId} {As : List Value} {wc : va_W}
theorem hj_introV {post : S → Prop} {wn : S → va_W} (hy : plainName y.cls = true) (hlen : (lg_sl As).length ≤ nL) (body : ∀ J : hj_JT, hj_Ok l rm D dA y.cls bytes nL J → hj_retV bytes rm post wn J → J 0 0 wc 0 (lv_args 0 As) []) : hj_KV l y bytes nL rm D dA As wc post wn := by
  intro sz
  refine Met.ofW (cc := bytes) (maxL := nL) (ret := none) hy rfl ?_
  intro p e s m args below meth c s₁ B hml hv
  obtain ⟨rfl, hsz, hP, hK, hD0, hX⟩ := hv
  have hx := B.exec
  have hb := B.bytes
  have hr := B.returns
  have hts := atoms_spec (ws := ws_ y bytes nL none) B.pre
  have hts : ∀ w ∈ lw_all, w.before _ s = true := fun w h => hts w (List.mem_cons_of_mem _ h)
  have hown : s.vm.findClass y.cls = some m.cls := findClass_of_methodNamed B.named
  have hlocks := B.notSynchronized
  subst hsz
  have hD := hD0.self (sz := s.heap.size)
  have hA : ∀ q : Nat, s.heap.size ≤ q → va_A wc s.heap.size q := fun q h => Or.inr h
  have hl := lv_entry As (n := nL) hlen
  rw [lg_entry_eq]
  refine body (hj_V p l e rm s m As.toArray below meth c nL D (va_A wc s.heap.size) (MQ below (va_Qv post (hj_B D dA wc s.heap.size wn) (va_A wc s.heap.size)) As.toArray s rm.cells rm.slots (va_A wc s.heap.size))) ⟨p, e, s, m, As.toArray, below, meth, c, va_A wc s.heap.size, _, rfl, ⟨hx, hb, hml, hown, hts⟩, hK, hA, hX⟩ ?_ s.heap [] _ hP hD va_S.rf hl
  intro cells slots ws pc lv u is d h1 h2 hp hn hs H locs ls hP hD hS hl
  refine W.widen h1 h2 ?_
  exact W.vret hx hb hr (fun t ht hW => ⟨⟨u, rfl, hp, by rw [ht]; exact hP.sub is (hj_fm hs), va_K.moved hW.alike hK, hD.sub is hn hs⟩, hS.F ht⟩) hS.2.2 d
theorem hj_introI {rt : FieldType} {post : Int32 → S → Prop} {wn : S → va_W} (hy : plainName y.cls = true) (hlen : (lg_sl As).length ≤ nL) (body : ∀ J : hj_JT, hj_Ok l rm D dA y.cls bytes nL J → hj_retI bytes rt rm post wn J → J 0 0 wc 0 (lv_args 0 As) []) : hj_KI l y bytes nL rt rm D dA As wc post wn := by
  intro sz
  refine Met.ofW (cc := bytes) (maxL := nL) (ret := some rt) hy rfl ?_
  intro p e s m args below meth c s₁ B hml hv
  obtain ⟨rfl, hsz, hP, hK, hD0, hX⟩ := hv
  have hx := B.exec
  have hb := B.bytes
  have hr := B.returns
  have hts := atoms_spec (ws := ws_ y bytes nL (some rt)) B.pre
  have hts : ∀ w ∈ lw_all, w.before _ s = true := fun w h => hts w (List.mem_cons_of_mem _ h)
  have hown : s.vm.findClass y.cls = some m.cls := findClass_of_methodNamed B.named
  have hlocks := B.notSynchronized
  subst hsz
  have hD := hD0.self (sz := s.heap.size)
  have hA : ∀ q : Nat, s.heap.size ≤ q → va_A wc s.heap.size q := fun q h => Or.inr h
  have hl := lv_entry As (n := nL) hlen
  rw [lg_entry_eq]
  refine body (hj_V p l e rm s m As.toArray below meth c nL D (va_A wc s.heap.size) (MQ below (va_Qi post (hj_B D dA wc s.heap.size wn) (va_A wc s.heap.size)) As.toArray s rm.cells rm.slots (va_A wc s.heap.size))) ⟨p, e, s, m, As.toArray, below, meth, c, va_A wc s.heap.size, _, rfl, ⟨hx, hb, hml, hown, hts⟩, hK, hA, hX⟩ ?_ s.heap [] _ hP hD va_S.rf hl
  intro cells slots ws pc lv r u is d h1 h2 hnr hp hn hs H locs ls hP hD hS hl
  refine W.widen h1 h2 ?_
  exact W.zret (v := r) hx hb hr hnr (fun t ht hW => ⟨⟨r, u, rfl, hp, by rw [ht]; exact hP.sub is (hj_fm hs), va_K.moved hW.alike hK, hD.sub is hn hs⟩, hS.F ht⟩) hS.2.2 d
theorem hj_introR {post : S → Prop} {wn : S → Nat → va_W} (hy : plainName y.cls = true) (hlen : (lg_sl As).length ≤ nL) (body : ∀ J : hj_JT, hj_Ok l rm D dA y.cls bytes nL J → hj_retR bytes rm post wn J → J 0 0 wc 0 (lv_args 0 As) []) : hj_KR l y bytes nL rm D dA As wc post wn := by
  intro sz
  refine Met.ofW (cc := bytes) (maxL := nL) (ret := some (.array .int)) hy rfl ?_
  intro p e s m args below meth c s₁ B hml hv
  obtain ⟨rfl, hsz, hP, hK, hD0, hX⟩ := hv
  have hx := B.exec
  have hb := B.bytes
  have hr := B.returns
  have hts := atoms_spec (ws := ws_ y bytes nL (some (.array .int))) B.pre
  have hts : ∀ w ∈ lw_all, w.before _ s = true := fun w h => hts w (List.mem_cons_of_mem _ h)
  have hown : s.vm.findClass y.cls = some m.cls := findClass_of_methodNamed B.named
  have hlocks := B.notSynchronized
  subst hsz
  have hD := hD0.self (sz := s.heap.size)
  have hA : ∀ q : Nat, s.heap.size ≤ q → va_A wc s.heap.size q := fun q h => Or.inr h
  have hl := lv_entry As (n := nL) hlen
  rw [lg_entry_eq]
  refine body (hj_V p l e rm s m As.toArray below meth c nL D (va_A wc s.heap.size) (MQ below (va_Qr post (fun u a t => hj_B D dA wc s.heap.size (fun v => wn v a) u t) (va_A wc s.heap.size)) As.toArray s rm.cells rm.slots (va_A wc s.heap.size))) ⟨p, e, s, m, As.toArray, below, meth, c, va_A wc s.heap.size, _, rfl, ⟨hx, hb, hml, hown, hts⟩, hK, hA, hX⟩ ?_ s.heap [] _ hP hD va_S.rf hl
  intro cells slots ws pc lv a u is d h1 h2 hp hn hs H locs ls hP hD hS hl
  refine W.widen h1 h2 ?_
  exact W.aret (v := .ref a) hx hb hr (Or.inr ⟨_, rfl⟩) (Or.inr ⟨a, rfl⟩) (fun t ht hW => ⟨⟨u, a, rfl, hp, by rw [ht]; exact hP.sub is (hj_fm hs), va_K.moved hW.alike hK, hD.sub is hn hs⟩, hS.F ht⟩) hS.2.2 d
end HI
section HC
variable {l : Launch} {R : Room} {D : va_G} {dA : ClassId} {own : String} {cc : ByteArray} {nL : Nat} {J : hj_JT} {cells slots pc : Nat} {ws : va_W} {lv : hj_L} {st : List Value}
variable {S : Type} {y : MethodName} {bytes : ByteArray} {L ix : Nat} {rt : FieldType} {rm : Room} {As rest : List Value} {wc : va_W}
theorem hj_callSv {post : S → Prop} {wn : S → va_W} (wr : va_W) (isC isR : List Nat) (n : Nat) (o : hj_Ok l R D dA own cc nL J) (d : decode cc pc = .ok (.invokestatic ix, 3)) (hM : hj_KV l y bytes L rm D dA As wc post wn) (w : GoodIn lw_all (va_wsS own ix y (ws_ y bytes L none))) (hd : y.cls ≠ "java/lang/invoke/MethodHandle" ∧ y.cls ≠ "java/lang/invoke/VarHandle" ∧ (parseMethodDescriptor y.desc).map (fun d => d.parameters.length) = some n) (hn : As.length = n) (hR : rm.frames + 1 ≤ R.frames ∧ 8 + (L + 11) + rm.locals ≤ R.locals) (hf : cells + rm.cells ≤ R.cells ∧ slots + rm.slots ≤ R.slots) (hC : isC.map (fun i => ws[i]?) = wc.map some) (hRr : isR.map (fun i => ws[i]?) = wr.map some) (hnC : va_nd isC = true) (hnR : va_nd isR = true) (hdis : ∀ i ∈ isR, i ∉ isC) (hst : st = As.reverse ++ rest) (hrm : (rest.map fun v => v.category).sum ≤ 8) (kk : ∀ u : S, post u → J (cells + rm.cells) (slots + rm.slots) (wr ++ wn u) (pc + 3) lv rest) : J cells slots ws pc lv st := by
  obtain ⟨p, e, s, m, args, below, meth, c, A, Q, rfl, ⟨hx, hb, hml, hown, hts⟩, hK, hA, hX⟩ := o
  intro H locs ls hP hD hS hl
  subst hst
  have hPc := hP.sub isC (hj_fm hC)
  have hDc := hD.sub isC hnC hC
  have hFc := va_free (wc := wc) hD hS hA isC hC
  refine va_callv (va_runS (ws := ws_ y bytes L none) (As := As) (rest := rest) ⟨hx, hb, hml, hown, hts⟩ (hM H.size) (va_cwS n hts w rfl rfl rfl hd hR) ⟨hj_blind, fun U hU hW => ⟨rfl, by rw [hU], by rw [hU]; exact hPc, va_K.moved hW.alike hK, hDc.weaken (fun _ _ _ _ => trivial), hj_XX_warm hW hX⟩⟩ rfl hn hl.1 rfl (lv_room hrm) d hf) hS (fun q _ h => hFc q h) hFc (fun u t H1 locs ht hvm hp hB hz1 hk1 hS => ?_)
  obtain ⟨hP1, hK1, hD1⟩ := hB
  rw [ht] at hP1
  obtain ⟨hP, hD⟩ := va_join (wr := wr) (w1 := wn u) hP hD isC isR hC hRr hnR hdis hk1 hFc hP1 hD1
  exact kk u hp H1 locs ls hP hD hS hl
theorem hj_callSi {post : Int32 → S → Prop} {wn : S → va_W} (wr : va_W) (isC isR : List Nat) (n : Nat) (o : hj_Ok l R D dA own cc nL J) (d : decode cc pc = .ok (.invokestatic ix, 3)) (hM : hj_KI l y bytes L rt rm D dA As wc post wn) (w : GoodIn lw_all (va_wsS own ix y (ws_ y bytes L (some rt)))) (hd : y.cls ≠ "java/lang/invoke/MethodHandle" ∧ y.cls ≠ "java/lang/invoke/VarHandle" ∧ (parseMethodDescriptor y.desc).map (fun d => d.parameters.length) = some n) (hn : As.length = n) (hR : rm.frames + 1 ≤ R.frames ∧ 8 + (L + 11) + rm.locals ≤ R.locals) (hf : cells + rm.cells ≤ R.cells ∧ slots + rm.slots ≤ R.slots) (hC : isC.map (fun i => ws[i]?) = wc.map some) (hRr : isR.map (fun i => ws[i]?) = wr.map some) (hnC : va_nd isC = true) (hnR : va_nd isR = true) (hdis : ∀ i ∈ isR, i ∉ isC) (hst : st = As.reverse ++ rest) (hrm : (rest.map fun v => v.category).sum ≤ 8) (kk : ∀ (r : Int32) (u : S), post r u → J (cells + rm.cells) (slots + rm.slots) (wr ++ wn u) (pc + 3) lv (.int r :: rest)) : J cells slots ws pc lv st := by
  obtain ⟨p, e, s, m, args, below, meth, c, A, Q, rfl, ⟨hx, hb, hml, hown, hts⟩, hK, hA, hX⟩ := o
  intro H locs ls hP hD hS hl
  subst hst
  have hPc := hP.sub isC (hj_fm hC)
  have hDc := hD.sub isC hnC hC
  have hFc := va_free (wc := wc) hD hS hA isC hC
  refine va_calli (va_runS (ws := ws_ y bytes L (some rt)) (As := As) (rest := rest) ⟨hx, hb, hml, hown, hts⟩ (hM H.size) (va_cwS n hts w rfl rfl rfl hd hR) ⟨hj_blind, fun U hU hW => ⟨rfl, by rw [hU], by rw [hU]; exact hPc, va_K.moved hW.alike hK, hDc.weaken (fun _ _ _ _ => trivial), hj_XX_warm hW hX⟩⟩ rfl hn hl.1 rfl (lv_room hrm) d hf) hS (fun q _ h => hFc q h) hFc (fun r u t H1 locs ht hvm hp hB hz1 hk1 hS => ?_)
  obtain ⟨hP1, hK1, hD1⟩ := hB
  rw [ht] at hP1
  obtain ⟨hP, hD⟩ := va_join (wr := wr) (w1 := wn u) hP hD isC isR hC hRr hnR hdis hk1 hFc hP1 hD1
  exact kk r u hp H1 locs ls hP hD hS hl
theorem hj_callSr {post : S → Prop} {wn : S → Nat → va_W} (wr : va_W) (isC isR : List Nat) (n : Nat) (o : hj_Ok l R D dA own cc nL J) (d : decode cc pc = .ok (.invokestatic ix, 3)) (hM : hj_KR l y bytes L rm D dA As wc post wn) (w : GoodIn lw_all (va_wsS own ix y (ws_ y bytes L (some (.array .int))))) (hd : y.cls ≠ "java/lang/invoke/MethodHandle" ∧ y.cls ≠ "java/lang/invoke/VarHandle" ∧ (parseMethodDescriptor y.desc).map (fun d => d.parameters.length) = some n) (hn : As.length = n) (hR : rm.frames + 1 ≤ R.frames ∧ 8 + (L + 11) + rm.locals ≤ R.locals) (hf : cells + rm.cells ≤ R.cells ∧ slots + rm.slots ≤ R.slots) (hC : isC.map (fun i => ws[i]?) = wc.map some) (hRr : isR.map (fun i => ws[i]?) = wr.map some) (hnC : va_nd isC = true) (hnR : va_nd isR = true) (hdis : ∀ i ∈ isR, i ∉ isC) (hst : st = As.reverse ++ rest) (hrm : (rest.map fun v => v.category).sum ≤ 8) (kk : ∀ (u : S) (ra : Nat), post u → J (cells + rm.cells) (slots + rm.slots) (wr ++ wn u ra) (pc + 3) lv (.ref ra :: rest)) : J cells slots ws pc lv st := by
  obtain ⟨p, e, s, m, args, below, meth, c, A, Q, rfl, ⟨hx, hb, hml, hown, hts⟩, hK, hA, hX⟩ := o
  intro H locs ls hP hD hS hl
  subst hst
  have hPc := hP.sub isC (hj_fm hC)
  have hDc := hD.sub isC hnC hC
  have hFc := va_free (wc := wc) hD hS hA isC hC
  refine va_callr (va_runS (ws := ws_ y bytes L (some (.array .int))) (As := As) (rest := rest) ⟨hx, hb, hml, hown, hts⟩ (hM H.size) (va_cwS n hts w rfl rfl rfl hd hR) ⟨hj_blind, fun U hU hW => ⟨rfl, by rw [hU], by rw [hU]; exact hPc, va_K.moved hW.alike hK, hDc.weaken (fun _ _ _ _ => trivial), hj_XX_warm hW hX⟩⟩ rfl hn hl.1 rfl (lv_room hrm) d hf) hS (fun q _ h => hFc q h) hFc (fun u ra t H1 locs ht hvm hp hB hz1 hk1 hS => ?_)
  obtain ⟨hP1, hK1, hD1⟩ := hB
  rw [ht] at hP1
  obtain ⟨hP, hD⟩ := va_join (wr := wr) (w1 := wn u ra) hP hD isC isR hC hRr hnR hdis hk1 hFc hP1 hD1
  exact kk u ra hp H1 locs ls hP hD hS hl
theorem hj_callVv {post : S → Prop} {wn : S → va_W} {b ci : Nat} {fs : List Value} {C : String} {T : u_T} {N : Nat} (wr : va_W) (isC isR : List Nat) (n : Nat) (o : hj_Ok l R D dA own cc nL J) (d : decode cc pc = .ok (.invokevirtual ix, 3)) (hM : hj_KV l y bytes L rm D dA (Value.ref b :: As) wc post wn) (w : GoodIn lw_all (wsV own ix C y (ws_ y bytes L none))) (hd : y.cls = C ∧ y.cls ≠ "java/lang/invoke/MethodHandle" ∧ y.cls ≠ "java/lang/invoke/VarHandle" ∧ (parseMethodDescriptor y.desc).map (fun d => d.parameters.length) = some n) (hn : As.length = n) (q0 : Nat) (hb0 : ws[q0]? = some (b, .inr (ci, fs))) (hcl : hj_cl[ci]? = some (C, T, N)) (hR : rm.frames + 1 ≤ R.frames ∧ 8 + (L + 11) + rm.locals ≤ R.locals) (hf : cells + rm.cells ≤ R.cells ∧ slots + rm.slots ≤ R.slots) (hC : isC.map (fun i => ws[i]?) = wc.map some) (hRr : isR.map (fun i => ws[i]?) = wr.map some) (hnC : va_nd isC = true) (hnR : va_nd isR = true) (hdis : ∀ i ∈ isR, i ∉ isC) (hst : st = As.reverse ++ .ref b :: rest) (hrm : (rest.map fun v => v.category).sum ≤ 8) (kk : ∀ u : S, post u → J (cells + rm.cells) (slots + rm.slots) (wr ++ wn u) (pc + 3) lv rest) : J cells slots ws pc lv st := by
  obtain ⟨p, e, s, m, args, below, meth, c, A, Q, rfl, ⟨hx, hb, hml, hown, hts⟩, hK, hA, hX⟩ := o
  intro H locs ls hP hD hS hl
  subst hst
  have hPc := hP.sub isC (hj_fm hC)
  have hDc := hD.sub isC hnC hC
  have hFc := va_free (wc := wc) hD hS hA isC hC
  refine va_callv (va_runV (ws := ws_ y bytes L none) (As := As) (rest := rest) ⟨hx, hb, hml, hown, hts⟩ (hM H.size) (cwV n hts w rfl rfl rfl hd hR) ⟨hj_blind, va_recv hK hP hcl hb0, fun U hU hW => ⟨rfl, by rw [hU], by rw [hU]; exact hPc, va_K.moved hW.alike hK, hDc.weaken (fun _ _ _ _ => trivial), hj_XX_warm hW hX⟩⟩ rfl hn hl.1 rfl (lv_room hrm) d hf) hS (fun q _ h => hFc q h) hFc (fun u t H1 locs ht hvm hp hB hz1 hk1 hS => ?_)
  obtain ⟨hP1, hK1, hD1⟩ := hB
  rw [ht] at hP1
  obtain ⟨hP, hD⟩ := va_join (wr := wr) (w1 := wn u) hP hD isC isR hC hRr hnR hdis hk1 hFc hP1 hD1
  exact kk u hp H1 locs ls hP hD hS hl
theorem hj_callVi {post : Int32 → S → Prop} {wn : S → va_W} {b ci : Nat} {fs : List Value} {C : String} {T : u_T} {N : Nat} (wr : va_W) (isC isR : List Nat) (n : Nat) (o : hj_Ok l R D dA own cc nL J) (d : decode cc pc = .ok (.invokevirtual ix, 3)) (hM : hj_KI l y bytes L rt rm D dA (Value.ref b :: As) wc post wn) (w : GoodIn lw_all (wsV own ix C y (ws_ y bytes L (some rt)))) (hd : y.cls = C ∧ y.cls ≠ "java/lang/invoke/MethodHandle" ∧ y.cls ≠ "java/lang/invoke/VarHandle" ∧ (parseMethodDescriptor y.desc).map (fun d => d.parameters.length) = some n) (hn : As.length = n) (q0 : Nat) (hb0 : ws[q0]? = some (b, .inr (ci, fs))) (hcl : hj_cl[ci]? = some (C, T, N)) (hR : rm.frames + 1 ≤ R.frames ∧ 8 + (L + 11) + rm.locals ≤ R.locals) (hf : cells + rm.cells ≤ R.cells ∧ slots + rm.slots ≤ R.slots) (hC : isC.map (fun i => ws[i]?) = wc.map some) (hRr : isR.map (fun i => ws[i]?) = wr.map some) (hnC : va_nd isC = true) (hnR : va_nd isR = true) (hdis : ∀ i ∈ isR, i ∉ isC) (hst : st = As.reverse ++ .ref b :: rest) (hrm : (rest.map fun v => v.category).sum ≤ 8) (kk : ∀ (r : Int32) (u : S), post r u → J (cells + rm.cells) (slots + rm.slots) (wr ++ wn u) (pc + 3) lv (.int r :: rest)) : J cells slots ws pc lv st := by
  obtain ⟨p, e, s, m, args, below, meth, c, A, Q, rfl, ⟨hx, hb, hml, hown, hts⟩, hK, hA, hX⟩ := o
  intro H locs ls hP hD hS hl
  subst hst
  have hPc := hP.sub isC (hj_fm hC)
  have hDc := hD.sub isC hnC hC
  have hFc := va_free (wc := wc) hD hS hA isC hC
  refine va_calli (va_runV (ws := ws_ y bytes L (some rt)) (As := As) (rest := rest) ⟨hx, hb, hml, hown, hts⟩ (hM H.size) (cwV n hts w rfl rfl rfl hd hR) ⟨hj_blind, va_recv hK hP hcl hb0, fun U hU hW => ⟨rfl, by rw [hU], by rw [hU]; exact hPc, va_K.moved hW.alike hK, hDc.weaken (fun _ _ _ _ => trivial), hj_XX_warm hW hX⟩⟩ rfl hn hl.1 rfl (lv_room hrm) d hf) hS (fun q _ h => hFc q h) hFc (fun r u t H1 locs ht hvm hp hB hz1 hk1 hS => ?_)
  obtain ⟨hP1, hK1, hD1⟩ := hB
  rw [ht] at hP1
  obtain ⟨hP, hD⟩ := va_join (wr := wr) (w1 := wn u) hP hD isC isR hC hRr hnR hdis hk1 hFc hP1 hD1
  exact kk r u hp H1 locs ls hP hD hS hl
theorem hj_callIv {post : S → Prop} {wn : S → va_W} {b : Nat} (wr : va_W) (isC isR : List Nat) (n : Nat) (o : hj_Ok l R D dA own cc nL J) (d : decode cc pc = .ok (.invokespecial ix, 3)) (hM : hj_KV l y bytes L rm D dA (Value.ref b :: As) wc post wn) (w : GoodIn lw_all (ws_ y bytes L none)) (q1 : Cond.initialized y.cls ∈ lw_all) (q2 : Cond.methodLink own ix y ∈ lw_all) (q3 : Cond.instanceMethod y ∈ lw_all) (hy1 : y.name = "<init>") (hd : y.cls ≠ "java/lang/invoke/MethodHandle" ∧ y.cls ≠ "java/lang/invoke/VarHandle" ∧ (parseMethodDescriptor y.desc).map (fun d => d.parameters.length) = some n) (hn : As.length = n) (hR : rm.frames + 1 ≤ R.frames ∧ 8 + (L + 11) + rm.locals ≤ R.locals) (hf : cells + rm.cells ≤ R.cells ∧ slots + rm.slots ≤ R.slots) (hC : isC.map (fun i => ws[i]?) = wc.map some) (hRr : isR.map (fun i => ws[i]?) = wr.map some) (hnC : va_nd isC = true) (hnR : va_nd isR = true) (hdis : ∀ i ∈ isR, i ∉ isC) (hst : st = As.reverse ++ .ref b :: rest) (hrm : (rest.map fun v => v.category).sum ≤ 8) (kk : ∀ u : S, post u → J (cells + rm.cells) (slots + rm.slots) (wr ++ wn u) (pc + 3) lv rest) : J cells slots ws pc lv st := by
  obtain ⟨p, e, s, m, args, below, meth, c, A, Q, rfl, ⟨hx, hb, hml, hown, hts⟩, hK, hA, hX⟩ := o
  intro H locs ls hP hD hS hl
  subst hst
  have hPc := hP.sub isC (hj_fm hC)
  have hDc := hD.sub isC hnC hC
  have hFc := va_free (wc := wc) hD hS hA isC hC
  refine va_callv (va_runI (ws := ws_ y bytes L none) (As := As) (rest := rest) ⟨hx, hb, hml, hown, hts⟩ (hM H.size) (cwI n hts w rfl rfl rfl (hts _ q1) (hts _ q2) (hts _ q3) hy1 hd hR) ⟨hj_blind, fun U hU hW => ⟨rfl, by rw [hU], by rw [hU]; exact hPc, va_K.moved hW.alike hK, hDc.weaken (fun _ _ _ _ => trivial), hj_XX_warm hW hX⟩⟩ rfl hn hl.1 rfl (lv_room hrm) d hf) hS (fun q _ h => hFc q h) hFc (fun u t H1 locs ht hvm hp hB hz1 hk1 hS => ?_)
  obtain ⟨hP1, hK1, hD1⟩ := hB
  rw [ht] at hP1
  obtain ⟨hP, hD⟩ := va_join (wr := wr) (w1 := wn u) hP hD isC isR hC hRr hnR hdis hk1 hFc hP1 hD1
  exact kk u hp H1 locs ls hP hD hS hl
theorem hj_callFi {post : Int32 → S → Prop} {wn : S → va_W} {b ci : Nat} {fs : List Value} {C : String} {T : u_T} {N : Nat} (wr : va_W) (isC isR : List Nat) (n : Nat) (o : hj_Ok l R D dA own cc nL J) {x : MethodName} {cnt : Nat} (d : decode cc pc = .ok (.invokeinterface ix cnt, 5)) (hM : hj_KI l y bytes L rt rm D dA (Value.ref b :: As) wc post wn) (hFw : ∀ s, hj_XX s → va_Fw C x y s) (w : GoodIn lw_all (va_wsF own ix C x y (ws_ y bytes L (some rt)))) (hd : x.cls ≠ "java/lang/invoke/MethodHandle" ∧ x.cls ≠ "java/lang/invoke/VarHandle" ∧ (parseMethodDescriptor x.desc).map (fun d => d.parameters.length) = some n) (hn : As.length = n) (q0 : Nat) (hb0 : ws[q0]? = some (b, .inr (ci, fs))) (hcl : hj_cl[ci]? = some (C, T, N)) (hR : rm.frames + 1 ≤ R.frames ∧ 8 + (L + 11) + rm.locals ≤ R.locals) (hf : cells + rm.cells ≤ R.cells ∧ slots + rm.slots ≤ R.slots) (hC : isC.map (fun i => ws[i]?) = wc.map some) (hRr : isR.map (fun i => ws[i]?) = wr.map some) (hnC : va_nd isC = true) (hnR : va_nd isR = true) (hdis : ∀ i ∈ isR, i ∉ isC) (hst : st = As.reverse ++ .ref b :: rest) (hrm : (rest.map fun v => v.category).sum ≤ 8) (kk : ∀ (r : Int32) (u : S), post r u → J (cells + rm.cells) (slots + rm.slots) (wr ++ wn u) (pc + 5) lv (.int r :: rest)) : J cells slots ws pc lv st := by
  obtain ⟨p, e, s, m, args, below, meth, c, A, Q, rfl, ⟨hx, hb, hml, hown, hts⟩, hK, hA, hX⟩ := o
  intro H locs ls hP hD hS hl
  subst hst
  have hPc := hP.sub isC (hj_fm hC)
  have hDc := hD.sub isC hnC hC
  have hFc := va_free (wc := wc) hD hS hA isC hC
  refine va_callFi (va_runF (ws := ws_ y bytes L (some rt)) (As := As) (rest := rest) (hK.1 ci _ hcl).2 ⟨hx, hb, hml, hown, hts⟩ (hM H.size) (va_cwF n hts w rfl rfl rfl (hFw s hX) hd hR) ⟨hj_blind, va_recv hK hP hcl hb0, fun U hU hW => ⟨rfl, by rw [hU], by rw [hU]; exact hPc, va_K.moved hW.alike hK, hDc.weaken (fun _ _ _ _ => trivial), hj_XX_warm hW hX⟩⟩ rfl hn hl.1 rfl (lv_room hrm) d hf) hS (fun q _ h => hFc q h) hFc (fun r u t H1 locs ht hvm hp hB hz1 hk1 hS => ?_)
  obtain ⟨hP1, hK1, hD1⟩ := hB
  rw [ht] at hP1
  obtain ⟨hP, hD⟩ := va_join (wr := wr) (w1 := wn u) hP hD isC isR hC hRr hnR hdis hk1 hFc hP1 hD1
  exact kk r u hp H1 locs ls hP hD hS hl
theorem hj_get {C : String} {T : u_T} {N ci a : Nat} {fs : List Value} {v : Value} (o : hj_Ok l R D dA own cc nL J) (d : decode cc pc = .ok (.getfield ix, 3)) (hin : ∀ w ∈ u_ws C T N, w ∈ lw_all) (k : Nat) (q : Cond.fieldLink own ix (T k).1 (T k).2.1 (T k).2.2.1 ∈ lw_all) (q0 : Nat) (he : ws[q0]? = some (a, .inr (ci, fs))) (hcl : hj_cl[ci]? = some (C, T, N)) (hk : k < N) (hv : fs[k]? = some v) (kk : J cells slots ws (pc + 3) lv (v :: st)) : J cells slots ws pc lv (.ref a :: st) := by
  obtain ⟨p, e, s, m, args, below, meth, c, A, Q, rfl, ⟨hx, hb, hml, hown, hts⟩, hK, hA, hX⟩ := o
  intro H locs ls hP hD hS hl
  exact va_get (D := D) (ci := ci) (v := v) (C := C) (T := T) (N := N) hx hb hts hin hown hK hP q0 he hcl k hk (hts _ q) (fun _ h9 => h9) hv d (kk H locs ls hP hD hS hl)
theorem hj_putf {C : String} {T : u_T} {N ci a : Nat} {fs : List Value} {v : Value} {ty : FieldType} (ws' : va_W) (ty0 : Nat → FieldType) (o : hj_Ok l R D dA own cc nL J) (d : decode cc pc = .ok (.putfield ix, 3)) (hin : ∀ w ∈ u_ws C T N, w ∈ lw_all) (hty : ∀ k, k < N → parseFieldDescriptor (T k).2.2.1 = some (ty0 k)) (hnm : ∀ a, a < N → ∀ b, b < N → a ≠ b → (T a).2.1 ≠ (T b).2.1) (k : Nat) (q : Cond.fieldLink own ix (T k).1 (T k).2.1 (T k).2.2.1 ∈ lw_all) (q0 : Nat) (he : ws[q0]? = some (a, .inr (ci, fs))) (hcl : hj_cl[ci]? = some (C, T, N)) (hk : k < N) (hfin : (T k).2.2.2 = false) (hd : parseFieldDescriptor (T k).2.2.1 = some ty) (hnr : narrow ty v = v) (hfit : fits ty v = true) (hlk : k < fs.length) (hw : ws.set q0 (a, .inr (ci, fs.set k v)) = ws') (kk : J cells slots ws' (pc + 3) lv st) : J cells slots ws pc lv (v :: .ref a :: st) := by
  obtain ⟨p, e, s, m, args, below, meth, c, A, Q, rfl, ⟨hx, hb, hml, hown, hts⟩, hK, hA, hX⟩ := o
  intro H locs ls hP hD hS hl
  subst hw
  exact va_put (D := D) (ci := ci) (v := v) (ty := ty) (C := C) (T := T) (N := N) hx hb hts hin ty0 hty hnm hown hK hP hD hS q0 he hcl k hk (hts _ q) (fun _ h9 => h9) hfin hd hnr hfit hlk d (fun H locs hP hD hS => kk H locs ls hP hD hS hl)
end HC
end
section
/-! IntArrays' small methods. printed by gen_arr.py -/
abbrev hj_rm (f lo c s : Nat) : Room := { frames := f, cells := c, slots := s, locals := lo }
def hz_cmp (x y : Int32) : Int32 := if x < y then -1 else if x = y then 0 else 1
theorem hz_cmp_nn (x y : Int32) : 0 ≤ hz_cmp x y ↔ ¬ x < y := by
  unfold hz_cmp
  by_cases h : x < y
  · rw [if_pos h]
    exact ⟨fun q => absurd q (by decide), fun q => absurd h q⟩
  · rw [if_neg h]
    refine ⟨fun _ => h, fun _ => ?_⟩
    split <;> decide
theorem hz_cmp_np (x y : Int32) : hz_cmp x y ≤ 0 ↔ ¬ y < x := by
  unfold hz_cmp
  by_cases h : x < y
  · rw [if_pos h]
    refine ⟨fun _ q => ?_, fun _ => by decide⟩
    rw [hz_lt] at h q
    omega
  · rw [if_neg h]
    by_cases e : x = y
    · rw [if_pos e, e]
      exact ⟨fun _ q => by rw [hz_lt] at q; omega, fun _ => by decide⟩
    · rw [if_neg e]
      refine ⟨fun q => absurd q (by decide), fun q => ?_⟩
      rw [hz_lt] at h q
      exact absurd (Int32.toInt_inj.mp (by omega)) e
set_option maxHeartbeats 4000000 in
set_option maxRecDepth 100000 in
/-- Integer.compare(x, y) -/
theorem k_cmp (l : Launch) (D : va_G) (dA : ClassId) (x y : Int32) : hj_KI l yJ5_compare cJ5_compare 2 .int (hj_rm 0 0 0 0) D dA [.int x, .int y] [] (fun (r : Int32) (_ : Unit) => r = hz_cmp x y) (fun _ => []) := by
  refine hj_introI (by decide) (Nat.le_of_ble_eq_true rfl) (fun J o hret => ?_)
  show J 0 0 [] 0 [(0, .int x), (1, .int y)] []
  refine hj_iload_n o dJ5_compare_0 0 rfl rfl ?_
  refine hj_iload_n o dJ5_compare_1 1 rfl rfl ?_
  refine hj_icmp_ge 9 o dJ5_compare_2 (by decide) (fun c1 => ?_) (fun c1 => ?_)
  · refine hj_iload_n o dJ5_compare_9 0 rfl rfl ?_
    refine hj_iload_n o dJ5_compare_10 1 rfl rfl ?_
    refine hj_icmp_ne 18 o dJ5_compare_11 (by decide) (fun c2 => ?_) (fun c2 => ?_)
    · refine hj_iconst (nI 1) o dJ5_compare_18 (by decide) ?_
      exact hret 0 0 _ 19 _ _ () [] dJ5_compare_19 (Nat.le_refl _) (Nat.le_refl _) rfl (by unfold hz_cmp; rw [if_neg (by rw [hz_lt]; rw [hz_le] at c1; omega), if_neg c2]; rfl) rfl rfl
    · refine hj_iconst (nI 0) o dJ5_compare_14 (by decide) ?_
      refine hj_goto 19 o dJ5_compare_15 (by decide) ?_
      exact hret 0 0 _ 19 _ _ () [] dJ5_compare_19 (Nat.le_refl _) (Nat.le_refl _) rfl (by unfold hz_cmp; rw [if_neg (by rw [hz_lt]; rw [hz_le] at c1; omega), if_pos c2]; rfl) rfl rfl
  · refine hj_iconst (-1) o dJ5_compare_5 (by decide) ?_
    refine hj_goto 19 o dJ5_compare_6 (by decide) ?_
    exact hret 0 0 _ 19 _ _ () [] dJ5_compare_19 (Nat.le_refl _) (Nat.le_refl _) rfl (by unfold hz_cmp; rw [if_pos (by rw [hz_lt]; rw [hz_le] at c1; omega)]) rfl rfl
set_option maxHeartbeats 4000000 in
set_option maxRecDepth 100000 in
/-- IntArrays.swap(x, i, j) -/
theorem k_swap (l : Launch) (D : va_G) (dA : ClassId) (h n i j : Nat) (f : Nat → Int32) (hn : n < 2 ^ 31) (hi : i < n) (hj : j < n) : hj_KV l yX3_swap cX3_swap 4 (hj_rm 0 0 0 0) D dA [.ref h, .int (nI i), .int (nI j)] [hj_ar dA h n f] (fun _ : Unit => True) (fun _ => [hj_ar dA h n (hz_sw f i j)]) := by
  refine hj_introV (by decide) (Nat.le_of_ble_eq_true rfl) (fun J o hret => ?_)
  show J 0 0 [hj_ar dA h n f] 0 [(0, .ref h), (1, .int (nI i)), (2, .int (nI j))] []
  refine hj_aload_n o dX3_swap_0 0 rfl rfl ?_
  refine hj_iload_n o dX3_swap_1 1 rfl rfl ?_
  refine hj_iald o dX3_swap_2 0 rfl (by omega) (by omega) ?_
  refine hj_istore_n [(0, .ref h), (1, .int (nI i)), (2, .int (nI j)), (3, .int (f i))] o dX3_swap_3 rfl (by decide) rfl ?_
  refine hj_aload_n o dX3_swap_4 0 rfl rfl ?_
  refine hj_iload_n o dX3_swap_5 1 rfl rfl ?_
  refine hj_aload_n o dX3_swap_6 0 rfl rfl ?_
  refine hj_iload_n o dX3_swap_7 2 rfl rfl ?_
  refine hj_iald o dX3_swap_8 0 rfl (by omega) (by omega) ?_
  refine hj_iast [hj_ar dA h n (upd f i ((f j)))] o dX3_swap_9 0 rfl (by omega) (by omega) rfl ?_
  refine hj_aload_n o dX3_swap_10 0 rfl rfl ?_
  refine hj_iload_n o dX3_swap_11 2 rfl rfl ?_
  refine hj_iload_n o dX3_swap_12 3 rfl rfl ?_
  refine hj_iast [hj_ar dA h n (upd (upd f i ((f j))) j ((f i)))] o dX3_swap_13 0 rfl (by omega) (by omega) rfl ?_
  exact hret 0 0 _ 14 _ () [0] dX3_swap_14 (Nat.le_refl _) (Nat.le_refl _) trivial rfl rfl
set_option maxHeartbeats 4000000 in
set_option maxRecDepth 100000 in
theorem k_swap2_loop {l : Launch} {D : va_G} {dA : ClassId} {J : hj_JT} {R : Room} {h n a b m cells slots : Nat} {f : Nat → Int32} (o : hj_Ok l R D dA RX3 cX3_swap_2 5 J) (hn : n < 2 ^ 30) (h1 : a + m ≤ b) (h2 : b + m ≤ n) (hR : 1 ≤ R.frames ∧ 23 ≤ R.locals) (hc : cells ≤ R.cells ∧ slots ≤ R.slots)
    (kont : J cells slots [hj_ar dA h n (hz_vs f a b m)] 27 [(0, .ref h), (1, .int (nI (a + m))), (2, .int (nI (b + m))), (3, .int (nI m)), (4, .int (nI m))] []) : ∀ (t k : Nat), k ≤ m → m - k < t → J cells slots [hj_ar dA h n (hz_vs f a b k)] 3 [(0, .ref h), (1, .int (nI (a + k))), (2, .int (nI (b + k))), (3, .int (nI m)), (4, .int (nI k))] [] := by
  intro t
  induction t with
  | zero => intro k hk ht; omega
  | succ t ih =>
    intro k hk ht
    refine hj_iload o dX3_swap_2_3 4 rfl ?_
    refine hj_iload_n o dX3_swap_2_5 3 rfl rfl ?_
    refine hj_n_ge 27 o dX3_swap_2_6 (by decide) (by omega) (by omega) (fun c1 => ?_) (fun c1 => ?_)
    · have e : k = m := by omega
      subst e
      exact kont
    · refine hj_aload_n o dX3_swap_2_9 0 rfl rfl ?_
      refine hj_iload_n o dX3_swap_2_10 1 rfl rfl ?_
      refine hj_iload_n o dX3_swap_2_11 2 rfl rfl ?_
      refine hj_callSv [] [0] [] 3 o dX3_swap_2_12 (k_swap l D dA h n (a + k) (b + k) (hz_vs f a b k) (by omega) (by omega) (by omega)) (lw_S q233 q234 q7 q235) (by decide +kernel) rfl ⟨hR.1, hR.2⟩ ⟨hc.1, hc.2⟩ rfl rfl (by decide) (by decide) (by decide) rfl (Nat.le_of_ble_eq_true rfl) (fun _ _ => ?_)
      show J cells slots [hj_ar dA h n (hz_sw (hz_vs f a b k) (a + k) (b + k))] 15 [(0, .ref h), (1, .int (nI (a + k))), (2, .int (nI (b + k))), (3, .int (nI m)), (4, .int (nI k))] []
      rw [hz_vs_succ (by omega)]
      refine hj_iinc_n [(0, .ref h), (1, .int (nI (a + k))), (2, .int (nI (b + k))), (3, .int (nI m)), (4, .int (nI (k + 1)))] o dX3_swap_2_15 4 rfl (by decide) rfl ?_
      refine hj_iinc_n [(0, .ref h), (1, .int (nI (a + k + 1))), (2, .int (nI (b + k))), (3, .int (nI m)), (4, .int (nI (k + 1)))] o dX3_swap_2_18 1 rfl (by decide) rfl ?_
      refine hj_iinc_n [(0, .ref h), (1, .int (nI (a + k + 1))), (2, .int (nI (b + k + 1))), (3, .int (nI m)), (4, .int (nI (k + 1)))] o dX3_swap_2_21 2 rfl (by decide) rfl ?_
      refine hj_goto 3 o dX3_swap_2_24 (by decide) ?_
      exact ih (k + 1) (by omega) (by omega)
set_option maxHeartbeats 4000000 in
set_option maxRecDepth 100000 in
/-- IntArrays.swap(x, a, b, m): [a, a + m) against [b, b + m) -/
theorem k_swap2 (l : Launch) (D : va_G) (dA : ClassId) (h n a b m : Nat) (f : Nat → Int32) (hn : n < 2 ^ 30) (h1 : a + m ≤ b) (h2 : b + m ≤ n) : hj_KV l yX3_swap_2 cX3_swap_2 5 (hj_rm 1 23 0 0) D dA [.ref h, .int (nI a), .int (nI b), .int (nI m)] [hj_ar dA h n f] (fun _ : Unit => True) (fun _ => [hj_ar dA h n (hz_vs f a b m)]) := by
  refine hj_introV (by decide) (Nat.le_of_ble_eq_true rfl) (fun J o hret => ?_)
  show J 0 0 [hj_ar dA h n f] 0 [(0, .ref h), (1, .int (nI a)), (2, .int (nI b)), (3, .int (nI m))] []
  refine hj_iconst (nI 0) o dX3_swap_2_0 (by decide) ?_
  refine hj_istore [(0, .ref h), (1, .int (nI a)), (2, .int (nI b)), (3, .int (nI m)), (4, .int (nI 0))] o dX3_swap_2_1 (by decide) rfl ?_
  have k := k_swap2_loop (cells := 0) (slots := 0) (f := f) o hn h1 h2 ⟨Nat.le_of_ble_eq_true rfl, Nat.le_of_ble_eq_true rfl⟩ ⟨Nat.le_of_ble_eq_true rfl, Nat.le_of_ble_eq_true rfl⟩ (hret 0 0 _ 27 _ () [0] dX3_swap_2_27 (Nat.le_refl _) (Nat.le_refl _) trivial rfl rfl) (m + 1) 0 (Nat.zero_le _) (by omega)
  rw [hz_vs_0] at k
  exact k
set_option maxHeartbeats 4000000 in
set_option maxRecDepth 100000 in
/-- IntArrays.med3(x, a, b, c) -/
theorem k_med3 (l : Launch) (D : va_G) (dA : ClassId) (h n a b c : Nat) (f : Nat → Int32) (hn : n < 2 ^ 31) (ha : a < n) (hb : b < n) (hc : c < n) : hj_KI l yX3_med3 cX3_med3 7 .int (hj_rm 1 21 0 0) D dA [.ref h, .int (nI a), .int (nI b), .int (nI c)] [hj_ar dA h n f] (fun (r : Int32) (_ : Unit) => r = nI (hz_m3 f a b c)) (fun _ => [hj_ar dA h n f]) := by
  refine hj_introI (by decide) (Nat.le_of_ble_eq_true rfl) (fun J o hret => ?_)
  show J 0 0 [hj_ar dA h n f] 0 [(0, .ref h), (1, .int (nI a)), (2, .int (nI b)), (3, .int (nI c))] []
  refine hj_aload_n o dX3_med3_0 0 rfl rfl ?_
  refine hj_iload_n o dX3_med3_1 1 rfl rfl ?_
  refine hj_iald o dX3_med3_2 0 rfl (by omega) (by omega) ?_
  refine hj_aload_n o dX3_med3_3 0 rfl rfl ?_
  refine hj_iload_n o dX3_med3_4 2 rfl rfl ?_
  refine hj_iald o dX3_med3_5 0 rfl (by omega) (by omega) ?_
  refine hj_callSi [hj_ar dA h n f] [] [0] 2 o dX3_med3_6 (k_cmp l D dA (f a) (f b)) (lw_S q230 q231 q16 q232) (by decide +kernel) rfl ⟨Nat.le_of_ble_eq_true rfl, Nat.le_of_ble_eq_true rfl⟩ ⟨Nat.le_of_ble_eq_true rfl, Nat.le_of_ble_eq_true rfl⟩ rfl rfl (by decide) (by decide) (by decide) rfl (Nat.le_of_ble_eq_true rfl) (fun r1 _ e1 => ?_)
  show J 0 0 [hj_ar dA h n f] 9 [(0, .ref h), (1, .int (nI a)), (2, .int (nI b)), (3, .int (nI c))] [.int r1]
  refine hj_istore [(0, .ref h), (1, .int (nI a)), (2, .int (nI b)), (3, .int (nI c)), (4, .int r1)] o dX3_med3_9 (by decide) rfl ?_
  refine hj_aload_n o dX3_med3_11 0 rfl rfl ?_
  refine hj_iload_n o dX3_med3_12 1 rfl rfl ?_
  refine hj_iald o dX3_med3_13 0 rfl (by omega) (by omega) ?_
  refine hj_aload_n o dX3_med3_14 0 rfl rfl ?_
  refine hj_iload_n o dX3_med3_15 3 rfl rfl ?_
  refine hj_iald o dX3_med3_16 0 rfl (by omega) (by omega) ?_
  refine hj_callSi [hj_ar dA h n f] [] [0] 2 o dX3_med3_17 (k_cmp l D dA (f a) (f c)) (lw_S q230 q231 q16 q232) (by decide +kernel) rfl ⟨Nat.le_of_ble_eq_true rfl, Nat.le_of_ble_eq_true rfl⟩ ⟨Nat.le_of_ble_eq_true rfl, Nat.le_of_ble_eq_true rfl⟩ rfl rfl (by decide) (by decide) (by decide) rfl (Nat.le_of_ble_eq_true rfl) (fun r2 _ e2 => ?_)
  show J 0 0 [hj_ar dA h n f] 20 [(0, .ref h), (1, .int (nI a)), (2, .int (nI b)), (3, .int (nI c)), (4, .int r1)] [.int r2]
  refine hj_istore [(0, .ref h), (1, .int (nI a)), (2, .int (nI b)), (3, .int (nI c)), (4, .int r1), (5, .int r2)] o dX3_med3_20 (by decide) rfl ?_
  refine hj_aload_n o dX3_med3_22 0 rfl rfl ?_
  refine hj_iload_n o dX3_med3_23 2 rfl rfl ?_
  refine hj_iald o dX3_med3_24 0 rfl (by omega) (by omega) ?_
  refine hj_aload_n o dX3_med3_25 0 rfl rfl ?_
  refine hj_iload_n o dX3_med3_26 3 rfl rfl ?_
  refine hj_iald o dX3_med3_27 0 rfl (by omega) (by omega) ?_
  refine hj_callSi [hj_ar dA h n f] [] [0] 2 o dX3_med3_28 (k_cmp l D dA (f b) (f c)) (lw_S q230 q231 q16 q232) (by decide +kernel) rfl ⟨Nat.le_of_ble_eq_true rfl, Nat.le_of_ble_eq_true rfl⟩ ⟨Nat.le_of_ble_eq_true rfl, Nat.le_of_ble_eq_true rfl⟩ rfl rfl (by decide) (by decide) (by decide) rfl (Nat.le_of_ble_eq_true rfl) (fun r3 _ e3 => ?_)
  show J 0 0 [hj_ar dA h n f] 31 [(0, .ref h), (1, .int (nI a)), (2, .int (nI b)), (3, .int (nI c)), (4, .int r1), (5, .int r2)] [.int r3]
  refine hj_istore [(0, .ref h), (1, .int (nI a)), (2, .int (nI b)), (3, .int (nI c)), (4, .int r1), (5, .int r2), (6, .int r3)] o dX3_med3_31 (by decide) rfl ?_
  refine hj_iload o dX3_med3_33 4 rfl ?_
  refine hj_if_ge 60 o dX3_med3_35 (by decide) (fun c1 => ?_) (fun c1 => ?_)
  · rw [e1, hz_cmp_nn] at c1
    refine hj_iload o dX3_med3_60 6 rfl ?_
    refine hj_if_le 69 o dX3_med3_62 (by decide) (fun c2 => ?_) (fun c2 => ?_)
    · rw [e3, hz_cmp_np] at c2
      refine hj_iload o dX3_med3_69 5 rfl ?_
      refine hj_if_le 78 o dX3_med3_71 (by decide) (fun c3 => ?_) (fun c3 => ?_)
      · rw [e2, hz_cmp_np] at c3
        refine hj_iload_n o dX3_med3_78 1 rfl rfl ?_
        exact hret 0 0 _ 79 _ _ () [0] dX3_med3_79 (Nat.le_refl _) (Nat.le_refl _) rfl (by unfold hz_m3; rw [if_neg c1, if_neg c2, if_neg c3]) rfl rfl
      · rw [e2, hz_cmp_np, Classical.not_not] at c3
        refine hj_iload_n o dX3_med3_74 3 rfl rfl ?_
        refine hj_goto 79 o dX3_med3_75 (by decide) ?_
        exact hret 0 0 _ 79 _ _ () [0] dX3_med3_79 (Nat.le_refl _) (Nat.le_refl _) rfl (by unfold hz_m3; rw [if_neg c1, if_neg c2, if_pos c3]) rfl rfl
    · rw [e3, hz_cmp_np, Classical.not_not] at c2
      refine hj_iload_n o dX3_med3_65 2 rfl rfl ?_
      refine hj_goto 79 o dX3_med3_66 (by decide) ?_
      exact hret 0 0 _ 79 _ _ () [0] dX3_med3_79 (Nat.le_refl _) (Nat.le_refl _) rfl (by unfold hz_m3; rw [if_neg c1, if_pos c2]) rfl rfl
  · rw [e1, hz_cmp_nn, Classical.not_not] at c1
    refine hj_iload o dX3_med3_38 6 rfl ?_
    refine hj_if_ge 47 o dX3_med3_40 (by decide) (fun c2 => ?_) (fun c2 => ?_)
    · rw [e3, hz_cmp_nn] at c2
      refine hj_iload o dX3_med3_47 5 rfl ?_
      refine hj_if_ge 56 o dX3_med3_49 (by decide) (fun c3 => ?_) (fun c3 => ?_)
      · rw [e2, hz_cmp_nn] at c3
        refine hj_iload_n o dX3_med3_56 1 rfl rfl ?_
        refine hj_goto 79 o dX3_med3_57 (by decide) ?_
        exact hret 0 0 _ 79 _ _ () [0] dX3_med3_79 (Nat.le_refl _) (Nat.le_refl _) rfl (by unfold hz_m3; rw [if_pos c1, if_neg c2, if_neg c3]) rfl rfl
      · rw [e2, hz_cmp_nn, Classical.not_not] at c3
        refine hj_iload_n o dX3_med3_52 3 rfl rfl ?_
        refine hj_goto 79 o dX3_med3_53 (by decide) ?_
        exact hret 0 0 _ 79 _ _ () [0] dX3_med3_79 (Nat.le_refl _) (Nat.le_refl _) rfl (by unfold hz_m3; rw [if_pos c1, if_neg c2, if_pos c3]) rfl rfl
    · rw [e3, hz_cmp_nn, Classical.not_not] at c2
      refine hj_iload_n o dX3_med3_43 2 rfl rfl ?_
      refine hj_goto 79 o dX3_med3_44 (by decide) ?_
      exact hret 0 0 _ 79 _ _ () [0] dX3_med3_79 (Nat.le_refl _) (Nat.le_refl _) rfl (by unfold hz_m3; rw [if_pos c1, if_pos c2]) rfl rfl
end
section
/-! IntArrays.selectionSort, insertionSort. printed by gen_arr2.py -/
set_option maxHeartbeats 4000000 in
set_option maxRecDepth 100000 in
theorem k_sel_in {l : Launch} {D : va_G} {dA : ClassId} {J : hj_JT} {R : Room} {h n lo hi i cells slots : Nat} {f : Nat → Int32} (o : hj_Ok l R D dA RX3 cX3_selectionSort 6 J) (hn : n < 2 ^ 31) (h1 : hi ≤ n)
    (kont : ∀ m, hz_min f i hi m → J cells slots [hj_ar dA h n f] 44 [(0, .ref h), (1, .int (nI lo)), (2, .int (nI hi)), (3, .int (nI i)), (4, .int (nI m)), (5, .int (nI hi))] []) : ∀ (t j m : Nat), j ≤ hi → hi - j < t → hz_min f i j m → J cells slots [hj_ar dA h n f] 17 [(0, .ref h), (1, .int (nI lo)), (2, .int (nI hi)), (3, .int (nI i)), (4, .int (nI m)), (5, .int (nI j))] [] := by
  intro t
  induction t with
  | zero => intro j m hj ht; omega
  | succ t ih =>
    intro j m hj ht hm
    have hmj := hm.2.1
    refine hj_iload o dX3_selectionSort_17 5 rfl ?_
    refine hj_iload_n o dX3_selectionSort_19 2 rfl rfl ?_
    refine hj_n_ge 44 o dX3_selectionSort_20 (by decide) (by omega) (by omega) (fun c1 => ?_) (fun c1 => ?_)
    · have e : j = hi := by omega
      subst e
      exact kont m hm
    · refine hj_aload_n o dX3_selectionSort_23 0 rfl rfl ?_
      refine hj_iload o dX3_selectionSort_24 5 rfl ?_
      refine hj_iald o dX3_selectionSort_26 0 rfl (by omega) (by omega) ?_
      refine hj_aload_n o dX3_selectionSort_27 0 rfl rfl ?_
      refine hj_iload o dX3_selectionSort_28 4 rfl ?_
      refine hj_iald o dX3_selectionSort_30 0 rfl (by omega) (by omega) ?_
      refine hj_icmp_ge 38 o dX3_selectionSort_31 (by decide) (fun c2 => ?_) (fun c2 => ?_)
      · refine hj_iinc_n [(0, .ref h), (1, .int (nI lo)), (2, .int (nI hi)), (3, .int (nI i)), (4, .int (nI m)), (5, .int (nI (j + 1)))] o dX3_selectionSort_38 5 rfl (by decide) rfl ?_
        refine hj_goto 17 o dX3_selectionSort_41 (by decide) ?_
        exact ih (j + 1) m (by omega) (by omega) (hz_min_n hm (by rw [hz_lt]; rw [hz_le] at c2; omega))
      · refine hj_iload o dX3_selectionSort_34 5 rfl ?_
        refine hj_istore [(0, .ref h), (1, .int (nI lo)), (2, .int (nI hi)), (3, .int (nI i)), (4, .int (nI j)), (5, .int (nI j))] o dX3_selectionSort_36 (by decide) rfl ?_
        refine hj_iinc_n [(0, .ref h), (1, .int (nI lo)), (2, .int (nI hi)), (3, .int (nI i)), (4, .int (nI j)), (5, .int (nI (j + 1)))] o dX3_selectionSort_38 5 rfl (by decide) rfl ?_
        refine hj_goto 17 o dX3_selectionSort_41 (by decide) ?_
        exact ih (j + 1) j (by omega) (by omega) (hz_min_y hm (by rw [hz_lt]; rw [hz_le] at c2; omega))
set_option maxHeartbeats 4000000 in
set_option maxRecDepth 100000 in
theorem k_sel_out {l : Launch} {D : va_G} {dA : ClassId} {J : hj_JT} {R : Room} {h n lo hi cells slots : Nat} {f0 : Nat → Int32} (o : hj_Ok l R D dA RX3 cX3_selectionSort 6 J) (hn : n < 2 ^ 30) (h1 : hi ≤ n)
    (kont : ∀ (i : Nat) (f : Nat → Int32), hz_sm f0 f lo hi → hz_so f lo hi → J cells slots [hj_ar dA h n f] 74 [(0, .ref h), (1, .int (nI lo)), (2, .int (nI hi)), (3, .int (nI i))] []) : ∀ (t i : Nat) (f : Nat → Int32), lo ≤ i → hi - i < t → i ≤ hi → hz_sm f0 f lo hi → hz_sel f lo hi i → J cells slots [hj_ar dA h n f] 2 [(0, .ref h), (1, .int (nI lo)), (2, .int (nI hi)), (3, .int (nI i))] [] := by
  intro t
  induction t with
  | zero => intro i f hi1 ht; omega
  | succ t ih =>
    intro i f hi1 ht hi2 hs hl
    refine hj_iload_n o dX3_selectionSort_2 3 rfl rfl ?_
    refine hj_iload_n o dX3_selectionSort_3 2 rfl rfl ?_
    refine hj_iconst (nI 1) o dX3_selectionSort_4 (by decide) ?_
    refine hj_isub_e (nI hi - nI 1) o dX3_selectionSort_5  rfl ?_
    refine hj_icmp_ge 74 o dX3_selectionSort_6 (by decide) (fun c1 => ?_) (fun c1 => ?_)
    · exact kont i f hs (hz_sel_done hl (by rw [hz_le, pk_sub_toInt (by omega) (by omega), nI_toInt (by omega)] at c1; omega))
    · have c1 : i + 1 < hi := by rw [hz_le, pk_sub_toInt (by omega) (by omega), nI_toInt (by omega)] at c1; omega
      refine hj_iload_n o dX3_selectionSort_9 3 rfl rfl ?_
      refine hj_istore [(0, .ref h), (1, .int (nI lo)), (2, .int (nI hi)), (3, .int (nI i)), (4, .int (nI i))] o dX3_selectionSort_10 (by decide) rfl ?_
      refine hj_iload_n o dX3_selectionSort_12 3 rfl rfl ?_
      refine hj_iconst (nI 1) o dX3_selectionSort_13 (by decide) ?_
      refine hj_iadd_n o dX3_selectionSort_14 ?_
      refine hj_istore [(0, .ref h), (1, .int (nI lo)), (2, .int (nI hi)), (3, .int (nI i)), (4, .int (nI i)), (5, .int (nI (i + 1)))] o dX3_selectionSort_15 (by decide) rfl ?_
      refine k_sel_in o (by omega) h1 (fun m hm => ?_) (hi - i) (i + 1) i (by omega) (by omega) (hz_min_0 f i)
      have hm1 := hm.1
      have hm2 := hm.2.1
      refine hj_iload o dX3_selectionSort_44 4 rfl ?_
      refine hj_iload_n o dX3_selectionSort_46 3 rfl rfl ?_
      refine hj_n_eq 68 o dX3_selectionSort_47 (by decide) (by omega) (by omega) (fun c2 => ?_) (fun c2 => ?_)
      · subst c2
        have hl2 := hz_sel_step hl hm
        rw [hz_sw_self] at hl2
        refine hj_iinc_n [(0, .ref h), (1, .int (nI lo)), (2, .int (nI hi)), (3, .int (nI (m + 1))), (4, .int (nI m)), (5, .int (nI hi))] o dX3_selectionSort_68 3 rfl (by decide) rfl ?_
        refine hj_goto 2 o dX3_selectionSort_71 (by decide) ?_
        refine hj_lv [(0, .ref h), (1, .int (nI lo)), (2, .int (nI hi)), (3, .int (nI (m + 1)))] [0, 1, 2, 3] o rfl ?_
        exact ih (m + 1) _ (by omega) (by omega) (by omega) hs hl2
      · refine hj_aload_n o dX3_selectionSort_50 0 rfl rfl ?_
        refine hj_iload_n o dX3_selectionSort_51 3 rfl rfl ?_
        refine hj_iald o dX3_selectionSort_52 0 rfl (by omega) (by omega) ?_
        refine hj_istore [(0, .ref h), (1, .int (nI lo)), (2, .int (nI hi)), (3, .int (nI i)), (4, .int (nI m)), (5, .int (f i))] o dX3_selectionSort_53 (by decide) rfl ?_
        refine hj_aload_n o dX3_selectionSort_55 0 rfl rfl ?_
        refine hj_iload_n o dX3_selectionSort_56 3 rfl rfl ?_
        refine hj_aload_n o dX3_selectionSort_57 0 rfl rfl ?_
        refine hj_iload o dX3_selectionSort_58 4 rfl ?_
        refine hj_iald o dX3_selectionSort_60 0 rfl (by omega) (by omega) ?_
        refine hj_iast [hj_ar dA h n (upd f i ((f m)))] o dX3_selectionSort_61 0 rfl (by omega) (by omega) rfl ?_
        refine hj_aload_n o dX3_selectionSort_62 0 rfl rfl ?_
        refine hj_iload o dX3_selectionSort_63 4 rfl ?_
        refine hj_iload o dX3_selectionSort_65 5 rfl ?_
        refine hj_iast [hj_ar dA h n (upd (upd f i ((f m))) m ((f i)))] o dX3_selectionSort_67 0 rfl (by omega) (by omega) rfl ?_
        refine hj_iinc_n [(0, .ref h), (1, .int (nI lo)), (2, .int (nI hi)), (3, .int (nI (i + 1))), (4, .int (nI m)), (5, .int (f i))] o dX3_selectionSort_68 3 rfl (by decide) rfl ?_
        refine hj_goto 2 o dX3_selectionSort_71 (by decide) ?_
        refine hj_lv [(0, .ref h), (1, .int (nI lo)), (2, .int (nI hi)), (3, .int (nI (i + 1)))] [0, 1, 2, 3] o rfl ?_
        exact ih (i + 1) _ (by omega) (by omega) (by omega) (hz_sm_tr hs (hz_sw_sm (i := i) (j := m) (by omega) (by omega) (by omega) (by omega))) (hz_sel_step hl hm)
set_option maxHeartbeats 4000000 in
set_option maxRecDepth 100000 in
/-- IntArrays.selectionSort(a, lo, hi) -/
theorem k_sel (l : Launch) (D : va_G) (dA : ClassId) (h n lo hi : Nat) (f : Nat → Int32) (hn : n < 2 ^ 30) (h0 : lo ≤ hi) (h1 : hi ≤ n) : hj_KV l yX3_selectionSort cX3_selectionSort 6 (hj_rm 0 0 0 0) D dA [.ref h, .int (nI lo), .int (nI hi)] [hj_ar dA h n f] (fun g : Nat → Int32 => hz_sm f g lo hi ∧ hz_so g lo hi) (fun g => [hj_ar dA h n g]) := by
  refine hj_introV (by decide) (Nat.le_of_ble_eq_true rfl) (fun J o hret => ?_)
  show J 0 0 [hj_ar dA h n f] 0 [(0, .ref h), (1, .int (nI lo)), (2, .int (nI hi))] []
  refine hj_iload_n o dX3_selectionSort_0 1 rfl rfl ?_
  refine hj_istore_n [(0, .ref h), (1, .int (nI lo)), (2, .int (nI hi)), (3, .int (nI lo))] o dX3_selectionSort_1 rfl (by decide) rfl ?_
  exact k_sel_out o hn h1 (fun i g hs ho => hret 0 0 _ 74 _ g [0] dX3_selectionSort_74 (Nat.le_refl _) (Nat.le_refl _) ⟨hs, ho⟩ rfl rfl) (hi - lo + 1) lo f (Nat.le_refl _) (by omega) h0 (hz_sm_rf _ _ _) (hz_sel_0 _ _ _)
set_option maxHeartbeats 4000000 in
set_option maxRecDepth 100000 in
theorem k_ins_in {l : Launch} {D : va_G} {dA : ClassId} {J : hj_JT} {R : Room} {h n lo hi i cells slots : Nat} {f0 : Nat → Int32} {t : Int32} (o : hj_Ok l R D dA RX3 cX3_insertionSort 7 J) (hn : n < 2 ^ 31) (h1 : hi ≤ n) (hih : i < hi)
    (kont : ∀ (j : Nat) (g : Nat → Int32), lo ≤ j → j ≤ i → hz_sm f0 (upd g j t) lo hi → hz_so (upd g j t) lo (i + 1) → J cells slots [hj_ar dA h n g] 67 [(0, .ref h), (1, .int (nI lo)), (2, .int (nI hi)), (3, .int (nI i)), (4, .int t), (5, .int (nI j))] []) : ∀ (k j : Nat) (g : Nat → Int32), lo ≤ j → j < i → j - lo < k → hz_sm f0 (upd g (j + 1) t) lo hi → hz_ins (upd g (j + 1) t) lo i (j + 1) → J cells slots [hj_ar dA h n g] 26 [(0, .ref h), (1, .int (nI lo)), (2, .int (nI hi)), (3, .int (nI i)), (4, .int t), (5, .int (nI (j + 1))), (6, .int (g j))] [] := by
  intro k
  induction k with
  | zero => intro j g hj hi2 ht; omega
  | succ k ih =>
    intro j g hj hji ht hs hz
    refine hj_iload o dX3_insertionSort_26 4 rfl ?_
    refine hj_iload o dX3_insertionSort_28 6 rfl ?_
    refine hj_icmp_ge 67 o dX3_insertionSort_30 (by decide) (fun c1 => ?_) (fun c1 => ?_)
    · refine hj_lv [(0, .ref h), (1, .int (nI lo)), (2, .int (nI hi)), (3, .int (nI i)), (4, .int t), (5, .int (nI (j + 1)))] [0, 1, 2, 3, 4, 5] o rfl ?_
      exact kont (j + 1) g (by omega) (by omega) hs (hz_ins_done hz (Or.inr (by show (upd g (j + 1) t j).toInt ≤ (upd g (j + 1) t (j + 1)).toInt; rw [pk_us, pk_un (by omega), ← hz_le]; exact c1)))
    · have c1 : t.toInt ≤ (g j).toInt := by rw [hz_le] at c1; omega
      refine hj_aload_n o dX3_insertionSort_33 0 rfl rfl ?_
      refine hj_iload o dX3_insertionSort_34 5 rfl ?_
      refine hj_iload o dX3_insertionSort_36 6 rfl ?_
      refine hj_iast [hj_ar dA h n (upd g (j + 1) ((g j)))] o dX3_insertionSort_38 0 rfl (by omega) (by omega) rfl ?_
      refine hj_iload_n o dX3_insertionSort_39 1 rfl rfl ?_
      refine hj_iload o dX3_insertionSort_40 5 rfl ?_
      refine hj_iconst (nI 1) o dX3_insertionSort_42 (by decide) ?_
      refine hj_isub_e (nI j) o dX3_insertionSort_43  (nI_pred j) ?_
      refine hj_n_ne 53 o dX3_insertionSort_44 (by decide) (by omega) (by omega) (fun c2 => ?_) (fun c2 => ?_)
      · refine hj_aload_n o dX3_insertionSort_53 0 rfl rfl ?_
        refine hj_iinc_m [(0, .ref h), (1, .int (nI lo)), (2, .int (nI hi)), (3, .int (nI i)), (4, .int t), (5, .int (nI j)), (6, .int (g j))] o dX3_insertionSort_54 5 rfl (by decide) rfl ?_
        refine hj_iload o dX3_insertionSort_57 5 rfl ?_
        obtain ⟨j2, rfl⟩ : ∃ j2, j = j2 + 1 := ⟨j - 1, by omega⟩
        refine hj_iconst (nI 1) o dX3_insertionSort_59 (by decide) ?_
        refine hj_isub_e (nI j2) o dX3_insertionSort_60  (nI_pred j2) ?_
        refine hj_iald o dX3_insertionSort_61 0 rfl (by omega) (by omega) ?_
        refine hj_istore [(0, .ref h), (1, .int (nI lo)), (2, .int (nI hi)), (3, .int (nI i)), (4, .int t), (5, .int (nI ((j2 + 1)))), (6, .int ((upd g ((j2 + 1) + 1) ((g (j2 + 1)))) j2))] o dX3_insertionSort_62 (by decide) rfl ?_
        refine hj_goto 26 o dX3_insertionSort_64 (by decide) ?_
        exact ih j2 (upd g (j2 + 1 + 1) (g (j2 + 1))) (by omega) (by omega) (by omega) (hz_hole (by omega) (by omega) (by omega) (by omega) (by omega) hs) (hz_ins_step hz (by omega) c1)
      · refine hj_iinc_m [(0, .ref h), (1, .int (nI lo)), (2, .int (nI hi)), (3, .int (nI i)), (4, .int t), (5, .int (nI j)), (6, .int (g j))] o dX3_insertionSort_47 5 rfl (by decide) rfl ?_
        refine hj_goto 67 o dX3_insertionSort_50 (by decide) ?_
        refine hj_lv [(0, .ref h), (1, .int (nI lo)), (2, .int (nI hi)), (3, .int (nI i)), (4, .int t), (5, .int (nI j))] [0, 1, 2, 3, 4, 5] o rfl ?_
        have e2 := hz_ins_step hz (by omega) c1
        exact kont j _ hj (by omega) (hz_hole (by omega) (by omega) (by omega) (by omega) (by omega) hs) (hz_ins_done e2 (Or.inl c2.symm))
set_option maxHeartbeats 4000000 in
set_option maxRecDepth 100000 in
theorem k_ins_out {l : Launch} {D : va_G} {dA : ClassId} {J : hj_JT} {R : Room} {h n lo hi cells slots : Nat} {f0 : Nat → Int32} (o : hj_Ok l R D dA RX3 cX3_insertionSort 7 J) (hn : n < 2 ^ 30) (h1 : hi ≤ n)
    (kont : ∀ (i : Nat) (f : Nat → Int32), hz_sm f0 f lo hi → hz_so f lo hi → J cells slots [hj_ar dA h n f] 76 [(0, .ref h), (1, .int (nI lo)), (2, .int (nI hi)), (3, .int (nI (i + 1)))] []) : ∀ (k i : Nat) (f : Nat → Int32), lo ≤ i → i ≤ hi → hi - i < k → hz_sm f0 f lo hi → hz_so f lo (i + 1) → J cells slots [hj_ar dA h n f] 2 [(0, .ref h), (1, .int (nI lo)), (2, .int (nI hi)), (3, .int (nI i))] [] := by
  intro k
  induction k with
  | zero => intro i f hi1 hi2 ht; omega
  | succ k ih =>
    intro i f hi1 hi2 ht hs ho
    refine hj_iinc_n [(0, .ref h), (1, .int (nI lo)), (2, .int (nI hi)), (3, .int (nI (i + 1)))] o dX3_insertionSort_2 3 rfl (by decide) rfl ?_
    refine hj_iload_n o dX3_insertionSort_5 3 rfl rfl ?_
    refine hj_iload_n o dX3_insertionSort_6 2 rfl rfl ?_
    refine hj_n_ge 76 o dX3_insertionSort_7 (by decide) (by omega) (by omega) (fun c1 => ?_) (fun c1 => ?_)
    · exact kont i f hs (fun a b q1 q2 q3 => ho a b q1 q2 (by omega))
    · refine hj_aload_n o dX3_insertionSort_10 0 rfl rfl ?_
      refine hj_iload_n o dX3_insertionSort_11 3 rfl rfl ?_
      refine hj_iald o dX3_insertionSort_12 0 rfl (by omega) (by omega) ?_
      refine hj_istore [(0, .ref h), (1, .int (nI lo)), (2, .int (nI hi)), (3, .int (nI (i + 1))), (4, .int (f (i + 1)))] o dX3_insertionSort_13 (by decide) rfl ?_
      refine hj_iload_n o dX3_insertionSort_15 3 rfl rfl ?_
      refine hj_istore [(0, .ref h), (1, .int (nI lo)), (2, .int (nI hi)), (3, .int (nI (i + 1))), (4, .int (f (i + 1))), (5, .int (nI (i + 1)))] o dX3_insertionSort_16 (by decide) rfl ?_
      refine hj_aload_n o dX3_insertionSort_18 0 rfl rfl ?_
      refine hj_iload o dX3_insertionSort_19 5 rfl ?_
      refine hj_iconst (nI 1) o dX3_insertionSort_21 (by decide) ?_
      refine hj_isub_e (nI i) o dX3_insertionSort_22  (nI_pred i) ?_
      refine hj_iald o dX3_insertionSort_23 0 rfl (by omega) (by omega) ?_
      refine hj_istore [(0, .ref h), (1, .int (nI lo)), (2, .int (nI hi)), (3, .int (nI (i + 1))), (4, .int (f (i + 1))), (5, .int (nI (i + 1))), (6, .int (f i))] o dX3_insertionSort_24 (by decide) rfl ?_
      have hu : upd f (i + 1) (f (i + 1)) = f := hz_upd_self f (i + 1)
      refine k_ins_in (f0 := f0) o (by omega) h1 c1 (fun j g j1 j2 js jo => ?_) (i + 1) i f (by omega) (by omega) (by omega) (by rw [hu]; exact hs) (by rw [hu]; exact hz_ins_0 ho)
      refine hj_aload_n o dX3_insertionSort_67 0 rfl rfl ?_
      refine hj_iload o dX3_insertionSort_68 5 rfl ?_
      refine hj_iload o dX3_insertionSort_70 4 rfl ?_
      refine hj_iast [hj_ar dA h n (upd g j ((f (i + 1))))] o dX3_insertionSort_72 0 rfl (by omega) (by omega) rfl ?_
      refine hj_goto 2 o dX3_insertionSort_73 (by decide) ?_
      refine hj_lv [(0, .ref h), (1, .int (nI lo)), (2, .int (nI hi)), (3, .int (nI (i + 1)))] [0, 1, 2, 3] o rfl ?_
      exact ih (i + 1) _ (by omega) (by omega) (by omega) js jo
set_option maxHeartbeats 4000000 in
set_option maxRecDepth 100000 in
/-- IntArrays.insertionSort(a, lo, hi) -/
theorem k_ins (l : Launch) (D : va_G) (dA : ClassId) (h n lo hi : Nat) (f : Nat → Int32) (hn : n < 2 ^ 30) (h0 : lo ≤ hi) (h1 : hi ≤ n) : hj_KV l yX3_insertionSort cX3_insertionSort 7 (hj_rm 0 0 0 0) D dA [.ref h, .int (nI lo), .int (nI hi)] [hj_ar dA h n f] (fun g : Nat → Int32 => hz_sm f g lo hi ∧ hz_so g lo hi) (fun g => [hj_ar dA h n g]) := by
  refine hj_introV (by decide) (Nat.le_of_ble_eq_true rfl) (fun J o hret => ?_)
  show J 0 0 [hj_ar dA h n f] 0 [(0, .ref h), (1, .int (nI lo)), (2, .int (nI hi))] []
  refine hj_iload_n o dX3_insertionSort_0 1 rfl rfl ?_
  refine hj_istore_n [(0, .ref h), (1, .int (nI lo)), (2, .int (nI hi)), (3, .int (nI lo))] o dX3_insertionSort_1 rfl (by decide) rfl ?_
  exact k_ins_out o hn h1 (fun i g hs ho => hret 0 0 _ 76 _ g [0] dX3_insertionSort_76 (Nat.le_refl _) (Nat.le_refl _) ⟨hs, ho⟩ rfl rfl) (hi - lo + 1) lo f (Nat.le_refl _) h0 (by omega) (hz_sm_rf _ _ _) (hz_so_small (Nat.le_refl _))
end
section
/-! IntArrays.quickSort. printed by gen_quick.py -/
theorem hz_cmp_gt {x y : Int32} (h : 0 < hz_cmp x y) : y.toInt < x.toInt := by
  unfold hz_cmp at h
  split at h
  · exact absurd h (by decide)
  · split at h
    · exact absurd h (by decide)
    · rename_i h1 h2
      rw [hz_lt] at h1
      have h3 : x.toInt ≠ y.toInt := fun e => h2 (Int32.toInt_inj.mp e)
      omega
theorem hz_cmp_le {x y : Int32} (h : ¬ 0 < hz_cmp x y) : x.toInt ≤ y.toInt := by
  unfold hz_cmp at h
  split at h
  · rename_i h1
    rw [hz_lt] at h1
    omega
  · split at h
    · rename_i h1 h2
      rw [h2]; exact Int.le_refl _
    · exact absurd (by decide) h
theorem hz_cmp_lt {x y : Int32} (h : hz_cmp x y < 0) : x.toInt < y.toInt := by
  unfold hz_cmp at h
  split at h
  · rename_i h1
    rw [hz_lt] at h1
    exact h1
  · split at h
    · exact absurd h (by decide)
    · exact absurd h (by decide)
theorem hz_cmp_ge {x y : Int32} (h : ¬ hz_cmp x y < 0) : y.toInt ≤ x.toInt := by
  unfold hz_cmp at h
  split at h
  · exact absurd (by decide) h
  · rename_i h1
    rw [hz_lt] at h1
    omega
theorem hz_cmp_0 {x y : Int32} (h : hz_cmp x y = 0) : x = y := by
  unfold hz_cmp at h
  split at h
  · exact absurd h (by decide)
  · split at h
    · assumption
    · exact absurd h (by decide)
theorem hz_cmp_n0 {x y : Int32} (h : ¬ hz_cmp x y = 0) : x ≠ y := by
  intro e
  apply h
  unfold hz_cmp
  rw [e, if_neg (by rw [hz_lt]; omega), if_pos rfl]
theorem hz_m1 (c : Nat) (h : c < 2 ^ 30) : (nI c - 1).toInt = (c : Int) - 1 := pk_sub_toInt (b := 1) h (by decide)
theorem hz_dec (c : Nat) : nI (c + 1) - 1 + Int32.ofInt (-1) = nI c - 1 := by
  rw [nI_pred, Int32.sub_eq_add_neg]; rfl
theorem hz_ss {b d : Nat} (h : b ≤ d) : nI d - 1 - (nI b - 1) = nI (d - b) := by
  rw [← pk_sub h]; grind
theorem hz_s1 {b d : Nat} (h : b ≤ d) : nI d - (nI b - 1) - nI 1 = nI (d - b) := by
  rw [← pk_sub h]
  show nI d - (nI b - 1) - 1 = nI d - nI b
  grind
set_option maxHeartbeats 8000000 in
set_option maxRecDepth 100000 in
theorem k_q_181 {l : Launch} {D : va_G} {dA : ClassId} {J : hj_JT} {R : Room} {h n lo hi cells slots : Nat} {f0 : Nat → Int32} {v : Int32} (o : hj_Ok l R D dA RX3 cX3_quickSort 13 J) (hn : n < 2 ^ 30) (hh : hi ≤ n) (hR : 1 ≤ R.frames ∧ 23 ≤ R.locals) (hc : cells ≤ R.cells ∧ slots ≤ R.slots) (T : Nat)
    (k137 : ∀ (f : Nat → Int32) (a b c d : Nat), c - b < T → hz_part f lo hi v a b c d → hz_sm f0 f lo hi → J cells slots [hj_ar dA h n f] 137 [(0, .ref h), (1, .int (nI lo)), (2, .int (nI hi)), (7, .int v), (8, .int (nI a)), (9, .int (nI b)), (10, .int (nI c - 1)), (11, .int (nI d - 1))] [])
    (kont : ∀ (f : Nat → Int32) (a b d : Nat), hz_part f lo hi v a b b d → hz_sm f0 f lo hi → J cells slots [hj_ar dA h n f] 252 [(0, .ref h), (1, .int (nI lo)), (2, .int (nI hi)), (7, .int v), (8, .int (nI a)), (9, .int (nI b)), (10, .int (nI b - 1)), (11, .int (nI d - 1))] []) :
    ∀ (t : Nat) (f : Nat → Int32) (a b c d : Nat), c - b < t → c - b ≤ T → (b < c → v.toInt < (f b).toInt) → hz_part f lo hi v a b c d → hz_sm f0 f lo hi → J cells slots [hj_ar dA h n f] 181 [(0, .ref h), (1, .int (nI lo)), (2, .int (nI hi)), (7, .int v), (8, .int (nI a)), (9, .int (nI b)), (10, .int (nI c - 1)), (11, .int (nI d - 1))] [] := by
  intro t
  induction t with
  | zero => intro f a b c d h1; omega
  | succ t ih =>
    intro f a b c d ht hT hb hp hs
    obtain ⟨h1, h2, h3, h4, h5⟩ := hp.1
    have hm := hz_m1 c (by omega)
    have hbI : (nI b).toInt = (b : Int) := nI_toInt (by omega)
    refine hj_iload o dX3_quickSort_181 6 rfl ?_
    refine hj_iload o dX3_quickSort_183 5 rfl ?_
    refine hj_icmp_lt 225 o dX3_quickSort_185 (by decide) (fun c1 => ?_) (fun c1 => ?_)
    · have e : c = b := by rw [hz_lt, hm, hbI] at c1; omega
      subst e
      refine hj_iload o dX3_quickSort_225 5 rfl ?_
      refine hj_iload o dX3_quickSort_227 6 rfl ?_
      refine hj_icmp_le 235 o dX3_quickSort_229 (by decide) (fun c2 => ?_) (fun c2 => ?_)
      · exact absurd c2 (by rw [hz_le, hm, hbI]; omega)
      · refine hj_goto 252 o dX3_quickSort_232 (by decide) ?_
        exact kont f a c d hp hs
    · have hbc : b < c := by rw [hz_lt, hm, hbI] at c1; omega
      obtain ⟨c, rfl⟩ : ∃ c2, c = c2 + 1 := ⟨c - 1, by omega⟩
      obtain ⟨d, rfl⟩ : ∃ d2, d = d2 + 1 := ⟨d - 1, by omega⟩
      refine hj_aload_n o dX3_quickSort_188 0 rfl rfl ?_
      refine hj_iload o dX3_quickSort_189 6 rfl ?_
      refine hj_top (nI c) (nI_pred c) ?_
      refine hj_iald o dX3_quickSort_191 0 rfl (by omega) (by omega) ?_
      refine hj_iload o dX3_quickSort_192 3 rfl ?_
      refine hj_callSi [hj_ar dA h n f] [] [0] 2 o dX3_quickSort_194 (k_cmp l D dA (f c) v) (lw_S q230 q231 q16 q232) (by decide +kernel) rfl ⟨hR.1, Nat.le_trans (by decide) hR.2⟩ ⟨hc.1, hc.2⟩ rfl rfl (by decide) (by decide) (by decide) rfl (Nat.le_of_ble_eq_true rfl) (fun r _ er => ?_)
      show J cells slots [hj_ar dA h n f] 197 [(0, .ref h), (1, .int (nI lo)), (2, .int (nI hi)), (7, .int v), (8, .int (nI a)), (9, .int (nI b)), (10, .int (nI (c + 1) - 1)), (11, .int (nI (d + 1) - 1))] [.int r]
      refine hj_dup o dX3_quickSort_197 rfl ?_
      refine hj_istore [(0, .ref h), (1, .int (nI lo)), (2, .int (nI hi)), (7, .int v), (8, .int (nI a)), (9, .int (nI b)), (10, .int (nI (c + 1) - 1)), (11, .int (nI (d + 1) - 1)), (12, .int r)] o dX3_quickSort_198 (by decide) rfl ?_
      refine hj_if_lt 225 o dX3_quickSort_200 (by decide) (fun c2 => ?_) (fun c2 => ?_)
      · rw [er] at c2
        have c2 := hz_cmp_lt c2
        refine hj_lv [(0, .ref h), (1, .int (nI lo)), (2, .int (nI hi)), (7, .int v), (8, .int (nI a)), (9, .int (nI b)), (10, .int (nI (c + 1) - 1)), (11, .int (nI (d + 1) - 1))] [0, 1, 2, 3, 4, 5, 6, 7] o rfl ?_
        refine hj_iload o dX3_quickSort_225 5 rfl ?_
        refine hj_iload o dX3_quickSort_227 6 rfl ?_
        refine hj_icmp_le 235 o dX3_quickSort_229 (by decide) (fun c3 => ?_) (fun c3 => ?_)
        · refine hj_aload_n o dX3_quickSort_235 0 rfl rfl ?_
          refine hj_iload o dX3_quickSort_236 5 rfl ?_
          refine hj_iinc_n [(0, .ref h), (1, .int (nI lo)), (2, .int (nI hi)), (7, .int v), (8, .int (nI a)), (9, .int (nI (b + 1))), (10, .int (nI (c + 1) - 1)), (11, .int (nI (d + 1) - 1))] o dX3_quickSort_238 5 rfl (by decide) rfl ?_
          refine hj_iload o dX3_quickSort_241 6 rfl ?_
          refine hj_top (nI c) (nI_pred c) ?_
          refine hj_iinc _ [(0, .ref h), (1, .int (nI lo)), (2, .int (nI hi)), (7, .int v), (8, .int (nI a)), (9, .int (nI (b + 1))), (10, .int (nI c - 1)), (11, .int (nI (d + 1) - 1))] o dX3_quickSort_243 6 rfl (hz_dec c) (by decide) rfl ?_
          refine hj_callSv [] [0] [] 3 o dX3_quickSort_246 (k_swap l D dA h n b c f (by omega) (by omega) (by omega)) (lw_S q233 q234 q7 q235) (by decide +kernel) rfl ⟨hR.1, hR.2⟩ ⟨hc.1, hc.2⟩ rfl rfl (by decide) (by decide) (by decide) rfl (Nat.le_of_ble_eq_true rfl) (fun _ _ => ?_)
          show J cells slots [hj_ar dA h n (hz_sw f b c)] 249 [(0, .ref h), (1, .int (nI lo)), (2, .int (nI hi)), (7, .int v), (8, .int (nI a)), (9, .int (nI (b + 1))), (10, .int (nI c - 1)), (11, .int (nI (d + 1) - 1))] []
          refine hj_goto 137 o dX3_quickSort_249 (by decide) ?_
          exact k137 _ a (b + 1) c (d + 1) (by omega) (hz_part_sw hp (by omega) (hb hbc) c2) (hz_sm_tr hs (hz_sw_sm (by omega) (by omega) (by omega) (by omega)))
        · exact absurd (by rw [hz_le, hm, hbI]; omega) c3
      · rw [er] at c2
        have c2 := hz_cmp_ge c2
        refine hj_iload o dX3_quickSort_203 8 rfl ?_
        refine hj_if_ne 219 o dX3_quickSort_205 (by decide) (fun c3 => ?_) (fun c3 => ?_)
        · rw [er] at c3
          have c3 := hz_cmp_n0 c3
          have c4 : v.toInt < (f c).toInt := by
            have : (f c).toInt ≠ v.toInt := fun e => c3 (Int32.toInt_inj.mp e)
            omega
          refine hj_iinc _ [(0, .ref h), (1, .int (nI lo)), (2, .int (nI hi)), (7, .int v), (8, .int (nI a)), (9, .int (nI b)), (10, .int (nI c - 1)), (11, .int (nI (d + 1) - 1)), (12, .int r)] o dX3_quickSort_219 6 rfl (hz_dec c) (by decide) rfl ?_
          refine hj_goto 181 o dX3_quickSort_222 (by decide) ?_
          refine hj_lv [(0, .ref h), (1, .int (nI lo)), (2, .int (nI hi)), (7, .int v), (8, .int (nI a)), (9, .int (nI b)), (10, .int (nI c - 1)), (11, .int (nI (d + 1) - 1))] [0, 1, 2, 3, 4, 5, 6, 7] o rfl ?_
          exact ih f a b c (d + 1) (by omega) (by omega) (fun _ => hb hbc) (hz_part_gtR hp (by omega) c4) hs
        · rw [er] at c3
          have c3 := hz_cmp_0 c3
          refine hj_aload_n o dX3_quickSort_208 0 rfl rfl ?_
          refine hj_iload o dX3_quickSort_209 6 rfl ?_
          refine hj_top (nI c) (nI_pred c) ?_
          refine hj_iload o dX3_quickSort_211 7 rfl ?_
          refine hj_top (nI d) (nI_pred d) ?_
          refine hj_iinc _ [(0, .ref h), (1, .int (nI lo)), (2, .int (nI hi)), (7, .int v), (8, .int (nI a)), (9, .int (nI b)), (10, .int (nI (c + 1) - 1)), (11, .int (nI d - 1)), (12, .int r)] o dX3_quickSort_213 7 rfl (hz_dec d) (by decide) rfl ?_
          refine hj_callSv [] [0] [] 3 o dX3_quickSort_216 (k_swap l D dA h n c d f (by omega) (by omega) (by omega)) (lw_S q233 q234 q7 q235) (by decide +kernel) rfl ⟨hR.1, hR.2⟩ ⟨hc.1, hc.2⟩ rfl rfl (by decide) (by decide) (by decide) rfl (Nat.le_of_ble_eq_true rfl) (fun _ _ => ?_)
          show J cells slots [hj_ar dA h n (hz_sw f c d)] 219 [(0, .ref h), (1, .int (nI lo)), (2, .int (nI hi)), (7, .int v), (8, .int (nI a)), (9, .int (nI b)), (10, .int (nI (c + 1) - 1)), (11, .int (nI d - 1)), (12, .int r)] []
          refine hj_iinc _ [(0, .ref h), (1, .int (nI lo)), (2, .int (nI hi)), (7, .int v), (8, .int (nI a)), (9, .int (nI b)), (10, .int (nI c - 1)), (11, .int (nI d - 1)), (12, .int r)] o dX3_quickSort_219 6 rfl (hz_dec c) (by decide) rfl ?_
          refine hj_goto 181 o dX3_quickSort_222 (by decide) ?_
          refine hj_lv [(0, .ref h), (1, .int (nI lo)), (2, .int (nI hi)), (7, .int v), (8, .int (nI a)), (9, .int (nI b)), (10, .int (nI c - 1)), (11, .int (nI d - 1))] [0, 1, 2, 3, 4, 5, 6, 7] o rfl ?_
          have hbn : b ≠ c := fun e => by
            have := hb hbc
            rw [e, c3] at this
            omega
          exact ih _ a b c d (by omega) (by omega) (fun _ => by rw [hz_sw_o hbn (by omega)]; exact hb hbc) (hz_part_eqR hp (by omega) c3) (hz_sm_tr hs (hz_sw_sm (by omega) (by omega) (by omega) (by omega)))
set_option maxHeartbeats 8000000 in
set_option maxRecDepth 100000 in
theorem k_q_137 {l : Launch} {D : va_G} {dA : ClassId} {J : hj_JT} {R : Room} {h n lo hi cells slots : Nat} {f0 : Nat → Int32} {v : Int32} (o : hj_Ok l R D dA RX3 cX3_quickSort 13 J) (hn : n < 2 ^ 30) (hh : hi ≤ n) (hR : 1 ≤ R.frames ∧ 23 ≤ R.locals) (hc : cells ≤ R.cells ∧ slots ≤ R.slots)
    (kont : ∀ (f : Nat → Int32) (a b d : Nat), hz_part f lo hi v a b b d → hz_sm f0 f lo hi → J cells slots [hj_ar dA h n f] 252 [(0, .ref h), (1, .int (nI lo)), (2, .int (nI hi)), (7, .int v), (8, .int (nI a)), (9, .int (nI b)), (10, .int (nI b - 1)), (11, .int (nI d - 1))] []) :
    ∀ (t : Nat) (f : Nat → Int32) (a b c d : Nat), c - b < t → hz_part f lo hi v a b c d → hz_sm f0 f lo hi → J cells slots [hj_ar dA h n f] 137 [(0, .ref h), (1, .int (nI lo)), (2, .int (nI hi)), (7, .int v), (8, .int (nI a)), (9, .int (nI b)), (10, .int (nI c - 1)), (11, .int (nI d - 1))] [] := by
  intro t
  induction t with
  | zero => intro f a b c d h1; omega
  | succ t ih =>
    intro f a b c d ht hp hs
    obtain ⟨h1, h2, h3, h4, h5⟩ := hp.1
    have hm := hz_m1 c (by omega)
    have hbI : (nI b).toInt = (b : Int) := nI_toInt (by omega)
    refine hj_iload o dX3_quickSort_137 5 rfl ?_
    refine hj_iload o dX3_quickSort_139 6 rfl ?_
    refine hj_icmp_gt 181 o dX3_quickSort_141 (by decide) (fun c1 => ?_) (fun c1 => ?_)
    · have e : c ≤ b := by rw [hz_lt, hm, hbI] at c1; omega
      exact k_q_181 o hn hh hR hc t ih kont (t + 1) f a b c d ht (by omega) (fun q => absurd q (by omega)) hp hs
    · have hbc : b < c := by rw [hz_lt, hm, hbI] at c1; omega
      refine hj_aload_n o dX3_quickSort_144 0 rfl rfl ?_
      refine hj_iload o dX3_quickSort_145 5 rfl ?_
      refine hj_iald o dX3_quickSort_147 0 rfl (by omega) (by omega) ?_
      refine hj_iload o dX3_quickSort_148 3 rfl ?_
      refine hj_callSi [hj_ar dA h n f] [] [0] 2 o dX3_quickSort_150 (k_cmp l D dA (f b) v) (lw_S q230 q231 q16 q232) (by decide +kernel) rfl ⟨hR.1, Nat.le_trans (by decide) hR.2⟩ ⟨hc.1, hc.2⟩ rfl rfl (by decide) (by decide) (by decide) rfl (Nat.le_of_ble_eq_true rfl) (fun r _ er => ?_)
      show J cells slots [hj_ar dA h n f] 153 [(0, .ref h), (1, .int (nI lo)), (2, .int (nI hi)), (7, .int v), (8, .int (nI a)), (9, .int (nI b)), (10, .int (nI c - 1)), (11, .int (nI d - 1))] [.int r]
      refine hj_dup o dX3_quickSort_153 rfl ?_
      refine hj_istore [(0, .ref h), (1, .int (nI lo)), (2, .int (nI hi)), (7, .int v), (8, .int (nI a)), (9, .int (nI b)), (10, .int (nI c - 1)), (11, .int (nI d - 1)), (12, .int r)] o dX3_quickSort_154 (by decide) rfl ?_
      refine hj_if_gt 181 o dX3_quickSort_156 (by decide) (fun c2 => ?_) (fun c2 => ?_)
      · rw [er] at c2
        have c2 := hz_cmp_gt c2
        refine hj_lv [(0, .ref h), (1, .int (nI lo)), (2, .int (nI hi)), (7, .int v), (8, .int (nI a)), (9, .int (nI b)), (10, .int (nI c - 1)), (11, .int (nI d - 1))] [0, 1, 2, 3, 4, 5, 6, 7] o rfl ?_
        exact k_q_181 o hn hh hR hc t ih kont (t + 1) f a b c d ht (by omega) (fun _ => c2) hp hs
      · rw [er] at c2
        have c2 := hz_cmp_le c2
        refine hj_iload o dX3_quickSort_159 8 rfl ?_
        refine hj_if_ne 175 o dX3_quickSort_161 (by decide) (fun c3 => ?_) (fun c3 => ?_)
        · rw [er] at c3
          have c3 := hz_cmp_n0 c3
          have c4 : (f b).toInt < v.toInt := by
            have : (f b).toInt ≠ v.toInt := fun e => c3 (Int32.toInt_inj.mp e)
            omega
          refine hj_iinc_n [(0, .ref h), (1, .int (nI lo)), (2, .int (nI hi)), (7, .int v), (8, .int (nI a)), (9, .int (nI (b + 1))), (10, .int (nI c - 1)), (11, .int (nI d - 1)), (12, .int r)] o dX3_quickSort_175 5 rfl (by decide) rfl ?_
          refine hj_goto 137 o dX3_quickSort_178 (by decide) ?_
          refine hj_lv [(0, .ref h), (1, .int (nI lo)), (2, .int (nI hi)), (7, .int v), (8, .int (nI a)), (9, .int (nI (b + 1))), (10, .int (nI c - 1)), (11, .int (nI d - 1))] [0, 1, 2, 3, 4, 5, 6, 7] o rfl ?_
          exact ih f a (b + 1) c d (by omega) (hz_part_ltL hp hbc c4) hs
        · rw [er] at c3
          have c3 := hz_cmp_0 c3
          refine hj_aload_n o dX3_quickSort_164 0 rfl rfl ?_
          refine hj_iload o dX3_quickSort_165 4 rfl ?_
          refine hj_iinc_n [(0, .ref h), (1, .int (nI lo)), (2, .int (nI hi)), (7, .int v), (8, .int (nI (a + 1))), (9, .int (nI b)), (10, .int (nI c - 1)), (11, .int (nI d - 1)), (12, .int r)] o dX3_quickSort_167 4 rfl (by decide) rfl ?_
          refine hj_iload o dX3_quickSort_170 5 rfl ?_
          refine hj_callSv [] [0] [] 3 o dX3_quickSort_172 (k_swap l D dA h n a b f (by omega) (by omega) (by omega)) (lw_S q233 q234 q7 q235) (by decide +kernel) rfl ⟨hR.1, hR.2⟩ ⟨hc.1, hc.2⟩ rfl rfl (by decide) (by decide) (by decide) rfl (Nat.le_of_ble_eq_true rfl) (fun _ _ => ?_)
          show J cells slots [hj_ar dA h n (hz_sw f a b)] 175 [(0, .ref h), (1, .int (nI lo)), (2, .int (nI hi)), (7, .int v), (8, .int (nI (a + 1))), (9, .int (nI b)), (10, .int (nI c - 1)), (11, .int (nI d - 1)), (12, .int r)] []
          refine hj_iinc_n [(0, .ref h), (1, .int (nI lo)), (2, .int (nI hi)), (7, .int v), (8, .int (nI (a + 1))), (9, .int (nI (b + 1))), (10, .int (nI c - 1)), (11, .int (nI d - 1)), (12, .int r)] o dX3_quickSort_175 5 rfl (by decide) rfl ?_
          refine hj_goto 137 o dX3_quickSort_178 (by decide) ?_
          refine hj_lv [(0, .ref h), (1, .int (nI lo)), (2, .int (nI hi)), (7, .int v), (8, .int (nI (a + 1))), (9, .int (nI (b + 1))), (10, .int (nI c - 1)), (11, .int (nI d - 1))] [0, 1, 2, 3, 4, 5, 6, 7] o rfl ?_
          exact ih _ (a + 1) (b + 1) c d (by omega) (hz_part_eqL hp hbc c3) (hz_sm_tr hs (hz_sw_sm (by omega) (by omega) (by omega) (by omega)))
set_option maxHeartbeats 8000000 in
set_option maxRecDepth 100000 in
theorem k_q_252 {l : Launch} {D : va_G} {dA : ClassId} {J : hj_JT} {h n lo hi d0 m0 : Nat} {f0 : Nat → Int32} (o : hj_Ok l (hj_rm (d0 + 1 + 2) (32 * (d0 + 1) + 64) 0 0) D dA RX3 cX3_quickSort 13 J) (hn : n < 2 ^ 30) (hh : hi ≤ n) (hlo : lo ≤ hi) (hd : hi - lo ≤ 2 * (d0 + 1) + 15)
    (rec : ∀ (x y : Nat) (f : Nat → Int32), x ≤ y → y ≤ n → y - x ≤ 2 * d0 + 15 → hj_KV l yX3_quickSort cX3_quickSort 13 (hj_rm (d0 + 2) (32 * d0 + 64) 0 0) D dA [.ref h, .int (nI (x)), .int (nI (y))] [hj_ar dA h n f] (fun g : Nat → Int32 => hz_sm f g (x) (y) ∧ hz_so g (x) (y)) (fun g => [hj_ar dA h n g]))
    (hret : hj_retV cX3_quickSort (hj_rm (d0 + 1 + 2) (32 * (d0 + 1) + 64) 0 0) (fun g : Nat → Int32 => hz_sm f0 g lo hi ∧ hz_so g lo hi) (fun g => [hj_ar dA h n g]) J)
    (hpiv : hz_piv f0 lo hi m0) {v : Int32} (hv : v = f0 m0) {f : Nat → Int32} {a b d : Nat} (hp : hz_part f lo hi v a b b d) (hs : hz_sm f0 f lo hi) : J 0 0 [hj_ar dA h n f] 252 [(0, .ref h), (1, .int (nI lo)), (2, .int (nI hi)), (7, .int v), (8, .int (nI a)), (9, .int (nI b)), (10, .int (nI b - 1)), (11, .int (nI d - 1))] [] := by
  obtain ⟨h1, h2, h3, h4, h5⟩ := hp.1
  have hR : 1 ≤ (hj_rm (d0 + 1 + 2) (32 * (d0 + 1) + 64) 0 0).frames := by dsimp only [hj_rm]; omega
  refine hj_iload o dX3_quickSort_252 4 rfl ?_
  refine hj_iload_n o dX3_quickSort_254 1 rfl rfl ?_
  refine hj_isub_n o dX3_quickSort_255 (by omega) ?_
  refine hj_iload o dX3_quickSort_256 5 rfl ?_
  refine hj_iload o dX3_quickSort_258 4 rfl ?_
  refine hj_isub_n o dX3_quickSort_260 (by omega) ?_
  refine hj_min_n o dX3_quickSort_261 q236 hR (by dsimp only [hj_rm]; simp [Value.category]) (Nat.le_refl _) (Nat.le_refl _) (by omega) (by omega) ?_
  obtain ⟨s, hsd⟩ : ∃ s, s = min (a - lo) (b - a) := ⟨_, rfl⟩
  rw [← hsd]
  refine hj_istore [(0, .ref h), (1, .int (nI lo)), (2, .int (nI hi)), (7, .int v), (8, .int (nI a)), (9, .int (nI b)), (10, .int (nI b - 1)), (11, .int (nI d - 1)), (12, .int (nI s))] o dX3_quickSort_264 (by decide) rfl ?_
  refine hj_aload_n o dX3_quickSort_266 0 rfl rfl ?_
  refine hj_iload_n o dX3_quickSort_267 1 rfl rfl ?_
  refine hj_iload o dX3_quickSort_268 5 rfl ?_
  refine hj_iload o dX3_quickSort_270 8 rfl ?_
  refine hj_isub_n o dX3_quickSort_272 (by omega) ?_
  refine hj_iload o dX3_quickSort_273 8 rfl ?_
  refine hj_callSv [] [0] [] 4 o dX3_quickSort_275 (k_swap2 l D dA h n lo (b - s) s f hn (by omega) (by omega)) (lw_S q239 q240 q7 q241) (by decide +kernel) rfl ⟨by dsimp only [hj_rm]; omega, by dsimp only [hj_rm]; omega⟩ ⟨Nat.le_of_ble_eq_true rfl, Nat.le_of_ble_eq_true rfl⟩ rfl rfl (by decide) (by decide) (by decide) rfl (Nat.le_of_ble_eq_true rfl) (fun _ _ => ?_)
  show J 0 0 [hj_ar dA h n (hz_vs f lo (b - s) s)] 278 [(0, .ref h), (1, .int (nI lo)), (2, .int (nI hi)), (7, .int v), (8, .int (nI a)), (9, .int (nI b)), (10, .int (nI b - 1)), (11, .int (nI d - 1)), (12, .int (nI s))] []
  refine hj_iload o dX3_quickSort_278 7 rfl ?_
  refine hj_iload o dX3_quickSort_280 6 rfl ?_
  refine hj_isub_e (nI (d - b)) o dX3_quickSort_282  (hz_ss (by omega)) ?_
  refine hj_iload_n o dX3_quickSort_283 2 rfl rfl ?_
  refine hj_iload o dX3_quickSort_284 7 rfl ?_
  refine hj_isub_e (nI hi - (nI d - 1)) o dX3_quickSort_286  rfl ?_
  refine hj_iconst (nI 1) o dX3_quickSort_287 (by decide) ?_
  refine hj_isub_e (nI (hi - d)) o dX3_quickSort_288  (hz_s1 (by omega)) ?_
  refine hj_min_n o dX3_quickSort_289 q236 hR (by dsimp only [hj_rm]; simp [Value.category]) (Nat.le_refl _) (Nat.le_refl _) (by omega) (by omega) ?_
  obtain ⟨t, htd⟩ : ∃ t, t = min (d - b) (hi - d) := ⟨_, rfl⟩
  rw [← htd]
  refine hj_istore [(0, .ref h), (1, .int (nI lo)), (2, .int (nI hi)), (7, .int v), (8, .int (nI a)), (9, .int (nI b)), (10, .int (nI b - 1)), (11, .int (nI d - 1)), (12, .int (nI t))] o dX3_quickSort_292 (by decide) rfl ?_
  refine hj_aload_n o dX3_quickSort_294 0 rfl rfl ?_
  refine hj_iload o dX3_quickSort_295 5 rfl ?_
  refine hj_iload_n o dX3_quickSort_297 2 rfl rfl ?_
  refine hj_iload o dX3_quickSort_298 8 rfl ?_
  refine hj_isub_n o dX3_quickSort_300 (by omega) ?_
  refine hj_iload o dX3_quickSort_301 8 rfl ?_
  refine hj_callSv [] [0] [] 4 o dX3_quickSort_303 (k_swap2 l D dA h n b (hi - t) t (hz_vs f lo (b - s) s) hn (by omega) (by omega)) (lw_S q239 q240 q7 q241) (by decide +kernel) rfl ⟨by dsimp only [hj_rm]; omega, by dsimp only [hj_rm]; omega⟩ ⟨Nat.le_of_ble_eq_true rfl, Nat.le_of_ble_eq_true rfl⟩ rfl rfl (by decide) (by decide) (by decide) rfl (Nat.le_of_ble_eq_true rfl) (fun _ _ => ?_)
  show J 0 0 [hj_ar dA h n (hz_vs (hz_vs f lo (b - s) s) b (hi - t) t)] 306 [(0, .ref h), (1, .int (nI lo)), (2, .int (nI hi)), (7, .int v), (8, .int (nI a)), (9, .int (nI b)), (10, .int (nI b - 1)), (11, .int (nI d - 1)), (12, .int (nI t))] []
  have h3 := hz_part_fin hp hsd htd
  have hs2 : hz_sm f0 (hz_vs (hz_vs f lo (b - s) s) b (hi - t) t) lo hi := hz_sm_tr hs (hz_sm_tr (hz_vs_sm (by omega) (by omega) (by omega)) (hz_vs_sm (by omega) (by omega) (by omega)))
  generalize hz_vs (hz_vs f lo (b - s) s) b (hi - t) t = g at h3 hs2 ⊢
  rw [hv] at h3
  have hlen := hz_three_len hpiv hs2 h3
  clear hsd htd
  have k327 : ∀ g1 : Nat → Int32, hz_sm g g1 lo (lo + (b - a)) → hz_so g1 lo (lo + (b - a)) → J 0 0 [hj_ar dA h n g1] 327 [(0, .ref h), (1, .int (nI lo)), (2, .int (nI hi)), (10, .int (nI b - 1)), (11, .int (nI d - 1))] [] := by
    intro g1 s1 o1
    refine hj_iload o dX3_quickSort_327 4 rfl ?_
    refine hj_iload o dX3_quickSort_329 3 rfl ?_
    refine hj_isub_e (nI (d - b)) o dX3_quickSort_331  (hz_ss (by omega)) ?_
    refine hj_dup o dX3_quickSort_332 rfl ?_
    refine hj_istore [(0, .ref h), (1, .int (nI lo)), (2, .int (nI hi)), (10, .int (nI b - 1)), (11, .int (nI d - 1)), (12, .int (nI (d - b)))] o dX3_quickSort_333 (by decide) rfl ?_
    refine hj_iconst (nI 1) o dX3_quickSort_335 (by decide) ?_
    refine hj_n_le 348 o dX3_quickSort_336 (by decide) (by omega) (by omega) (fun c1 => ?_) (fun c1 => ?_)
    · obtain ⟨r1, r2⟩ := hz_three_done h3 s1 o1 (hz_sm_rf g1 (hi - (d - b)) hi) (hz_so_small (by omega))
      exact hret 0 0 _ 348 _ g1 [0] dX3_quickSort_348 (Nat.le_refl _) (Nat.le_refl _) ⟨hz_sm_tr hs2 r1, r2⟩ rfl rfl
    · refine hj_aload_n o dX3_quickSort_339 0 rfl rfl ?_
      refine hj_iload_n o dX3_quickSort_340 2 rfl rfl ?_
      refine hj_iload o dX3_quickSort_341 5 rfl ?_
      refine hj_isub_n o dX3_quickSort_343 (by omega) ?_
      refine hj_iload_n o dX3_quickSort_344 2 rfl rfl ?_
      refine hj_callSv [] [0] [] 3 o dX3_quickSort_345 (rec (hi - (d - b)) hi g1 (by omega) hh (by omega)) (lw_S q242 q222 q7 q223) (by decide +kernel) rfl ⟨by dsimp only [hj_rm]; omega, by dsimp only [hj_rm]; omega⟩ ⟨Nat.le_of_ble_eq_true rfl, Nat.le_of_ble_eq_true rfl⟩ rfl rfl (by decide) (by decide) (by decide) rfl (Nat.le_of_ble_eq_true rfl) (fun g2 hg2 => ?_)
      show J 0 0 [hj_ar dA h n g2] 348 [(0, .ref h), (1, .int (nI lo)), (2, .int (nI hi)), (10, .int (nI b - 1)), (11, .int (nI d - 1)), (12, .int (nI (d - b)))] []
      obtain ⟨r1, r2⟩ := hz_three_done h3 s1 o1 hg2.1 hg2.2
      exact hret 0 0 _ 348 _ g2 [0] dX3_quickSort_348 (Nat.le_refl _) (Nat.le_refl _) ⟨hz_sm_tr hs2 r1, r2⟩ rfl rfl
  refine hj_iload o dX3_quickSort_306 5 rfl ?_
  refine hj_iload o dX3_quickSort_308 4 rfl ?_
  refine hj_isub_n o dX3_quickSort_310 (by omega) ?_
  refine hj_dup o dX3_quickSort_311 rfl ?_
  refine hj_istore [(0, .ref h), (1, .int (nI lo)), (2, .int (nI hi)), (7, .int v), (8, .int (nI a)), (9, .int (nI b)), (10, .int (nI b - 1)), (11, .int (nI d - 1)), (12, .int (nI (b - a)))] o dX3_quickSort_312 (by decide) rfl ?_
  refine hj_iconst (nI 1) o dX3_quickSort_314 (by decide) ?_
  refine hj_n_le 327 o dX3_quickSort_315 (by decide) (by omega) (by omega) (fun c1 => ?_) (fun c1 => ?_)
  · refine hj_lv [(0, .ref h), (1, .int (nI lo)), (2, .int (nI hi)), (10, .int (nI b - 1)), (11, .int (nI d - 1))] [0, 1, 2, 6, 7] o rfl ?_
    exact k327 g (hz_sm_rf _ _ _) (hz_so_small (by omega))
  · refine hj_aload_n o dX3_quickSort_318 0 rfl rfl ?_
    refine hj_iload_n o dX3_quickSort_319 1 rfl rfl ?_
    refine hj_iload_n o dX3_quickSort_320 1 rfl rfl ?_
    refine hj_iload o dX3_quickSort_321 8 rfl ?_
    refine hj_iadd_n o dX3_quickSort_323 ?_
    refine hj_callSv [] [0] [] 3 o dX3_quickSort_324 (rec lo (lo + (b - a)) g (by omega) (by omega) (by omega)) (lw_S q242 q222 q7 q223) (by decide +kernel) rfl ⟨by dsimp only [hj_rm]; omega, by dsimp only [hj_rm]; omega⟩ ⟨Nat.le_of_ble_eq_true rfl, Nat.le_of_ble_eq_true rfl⟩ rfl rfl (by decide) (by decide) (by decide) rfl (Nat.le_of_ble_eq_true rfl) (fun g1 hg1 => ?_)
    show J 0 0 [hj_ar dA h n g1] 327 [(0, .ref h), (1, .int (nI lo)), (2, .int (nI hi)), (7, .int v), (8, .int (nI a)), (9, .int (nI b)), (10, .int (nI b - 1)), (11, .int (nI d - 1)), (12, .int (nI (b - a)))] []
    refine hj_lv [(0, .ref h), (1, .int (nI lo)), (2, .int (nI hi)), (10, .int (nI b - 1)), (11, .int (nI d - 1))] [0, 1, 2, 6, 7] o rfl ?_
    exact k327 g1 hg1.1 hg1.2
set_option maxHeartbeats 8000000 in
set_option maxRecDepth 100000 in
theorem k_q_103 {l : Launch} {D : va_G} {dA : ClassId} {J : hj_JT} {h n lo hi d0 ll mm nn : Nat} {f : Nat → Int32} (o : hj_Ok l (hj_rm (d0 + 1 + 2) (32 * (d0 + 1) + 64) 0 0) D dA RX3 cX3_quickSort 13 J) (hn : n < 2 ^ 30) (hh : hi ≤ n) (hlo : lo ≤ hi) (hd : hi - lo ≤ 2 * (d0 + 1) + 15)
    (rec : ∀ (x y : Nat) (f : Nat → Int32), x ≤ y → y ≤ n → y - x ≤ 2 * d0 + 15 → hj_KV l yX3_quickSort cX3_quickSort 13 (hj_rm (d0 + 2) (32 * d0 + 64) 0 0) D dA [.ref h, .int (nI (x)), .int (nI (y))] [hj_ar dA h n f] (fun g : Nat → Int32 => hz_sm f g (x) (y) ∧ hz_so g (x) (y)) (fun g => [hj_ar dA h n g]))
    (hret : hj_retV cX3_quickSort (hj_rm (d0 + 1 + 2) (32 * (d0 + 1) + 64) 0 0) (fun g : Nat → Int32 => hz_sm f g lo hi ∧ hz_so g lo hi) (fun g => [hj_ar dA h n g]) J)
    (h1 : lo ≤ ll) (h2 : ll < mm) (h3 : mm < nn) (h4 : nn < hi) : J 0 0 [hj_ar dA h n f] 103 [(0, .ref h), (1, .int (nI lo)), (2, .int (nI hi)), (4, .int (nI mm)), (5, .int (nI ll)), (6, .int (nI nn))] [] := by
  have hpiv := hz_piv_m3 (f := f) h1 h2 h3 h4
  have hm1 := hpiv.1
  have hm2 := hpiv.2.1
  refine hj_aload_n o dX3_quickSort_103 0 rfl rfl ?_
  refine hj_iload o dX3_quickSort_104 4 rfl ?_
  refine hj_iload o dX3_quickSort_106 3 rfl ?_
  refine hj_iload o dX3_quickSort_108 5 rfl ?_
  refine hj_callSi [] [0] [] 4 o dX3_quickSort_110 (k_med3 l D dA h n ll mm nn f (by omega) (by omega) (by omega) (by omega)) (lw_S q227 q228 q7 q229) (by decide +kernel) rfl ⟨by dsimp only [hj_rm]; omega, by dsimp only [hj_rm]; omega⟩ ⟨Nat.le_of_ble_eq_true rfl, Nat.le_of_ble_eq_true rfl⟩ rfl rfl (by decide) (by decide) (by decide) rfl (Nat.le_of_ble_eq_true rfl) (fun r _ er => ?_)
  show J 0 0 [hj_ar dA h n f] 113 [(0, .ref h), (1, .int (nI lo)), (2, .int (nI hi)), (4, .int (nI mm)), (5, .int (nI ll)), (6, .int (nI nn))] [.int r]
  subst er
  generalize hz_m3 f ll mm nn = m at hpiv hm1 hm2 ⊢
  refine hj_istore [(0, .ref h), (1, .int (nI lo)), (2, .int (nI hi)), (4, .int (nI m)), (5, .int (nI ll)), (6, .int (nI nn))] o dX3_quickSort_113 (by decide) rfl ?_
  refine hj_aload_n o dX3_quickSort_115 0 rfl rfl ?_
  refine hj_iload o dX3_quickSort_116 3 rfl ?_
  refine hj_iald o dX3_quickSort_118 0 rfl (by omega) (by omega) ?_
  refine hj_istore [(0, .ref h), (1, .int (nI lo)), (2, .int (nI hi)), (4, .int (nI m)), (5, .int (nI ll)), (6, .int (nI nn)), (7, .int (f m))] o dX3_quickSort_119 (by decide) rfl ?_
  refine hj_iload_n o dX3_quickSort_121 1 rfl rfl ?_
  refine hj_istore [(0, .ref h), (1, .int (nI lo)), (2, .int (nI hi)), (4, .int (nI m)), (5, .int (nI ll)), (6, .int (nI nn)), (7, .int (f m)), (8, .int (nI lo))] o dX3_quickSort_122 (by decide) rfl ?_
  refine hj_iload o dX3_quickSort_124 7 rfl ?_
  refine hj_istore [(0, .ref h), (1, .int (nI lo)), (2, .int (nI hi)), (4, .int (nI m)), (5, .int (nI ll)), (6, .int (nI nn)), (7, .int (f m)), (8, .int (nI lo)), (9, .int (nI lo))] o dX3_quickSort_126 (by decide) rfl ?_
  refine hj_iload_n o dX3_quickSort_128 2 rfl rfl ?_
  refine hj_iconst (nI 1) o dX3_quickSort_129 (by decide) ?_
  refine hj_isub_e (nI hi - 1) o dX3_quickSort_130  rfl ?_
  refine hj_istore [(0, .ref h), (1, .int (nI lo)), (2, .int (nI hi)), (4, .int (nI m)), (5, .int (nI ll)), (6, .int (nI nn)), (7, .int (f m)), (8, .int (nI lo)), (9, .int (nI lo)), (10, .int (nI hi - 1))] o dX3_quickSort_131 (by decide) rfl ?_
  refine hj_iload o dX3_quickSort_133 9 rfl ?_
  refine hj_istore [(0, .ref h), (1, .int (nI lo)), (2, .int (nI hi)), (4, .int (nI m)), (5, .int (nI ll)), (6, .int (nI nn)), (7, .int (f m)), (8, .int (nI lo)), (9, .int (nI lo)), (10, .int (nI hi - 1)), (11, .int (nI hi - 1))] o dX3_quickSort_135 (by decide) rfl ?_
  refine hj_lv [(0, .ref h), (1, .int (nI lo)), (2, .int (nI hi)), (7, .int (f m)), (8, .int (nI lo)), (9, .int (nI lo)), (10, .int (nI hi - 1)), (11, .int (nI hi - 1))] [0, 1, 2, 6, 7, 8, 9, 10] o rfl ?_
  exact k_q_137 (f0 := f) (v := f m) o hn hh ⟨by dsimp only [hj_rm]; omega, by dsimp only [hj_rm]; omega⟩ ⟨Nat.le_refl _, Nat.le_refl _⟩ (fun f1 a b d hp hs => k_q_252 o hn hh hlo hd rec hret hpiv rfl hp hs) (hi - lo + 1) f lo lo hi hi (by omega) (hz_part_0 hlo) (hz_sm_rf _ _ _)
set_option maxHeartbeats 8000000 in
set_option maxRecDepth 100000 in
/-- IntArrays.quickSort(x, lo, hi), a range of at most 2 d + 15 places: the frames and locals that it takes grow with d -/
theorem k_quick (l : Launch) (D : va_G) (dA : ClassId) (h n : Nat) (hn : n < 2 ^ 30) : ∀ (d lo hi : Nat) (f : Nat → Int32), lo ≤ hi → hi ≤ n → hi - lo ≤ 2 * d + 15 → hj_KV l yX3_quickSort cX3_quickSort 13 (hj_rm (d + 2) (32 * d + 64) 0 0) D dA [.ref h, .int (nI (lo)), .int (nI (hi))] [hj_ar dA h n f] (fun g : Nat → Int32 => hz_sm f g (lo) (hi) ∧ hz_so g (lo) (hi)) (fun g => [hj_ar dA h n g]) := by
  intro d
  induction d with
  | zero =>
    intro lo hi f hlo hh hd
    refine hj_introV (by decide) (Nat.le_of_ble_eq_true rfl) (fun J o hret => ?_)
    show J 0 0 [hj_ar dA h n f] 0 [(0, .ref h), (1, .int (nI lo)), (2, .int (nI hi))] []
    refine hj_iload_n o dX3_quickSort_0 2 rfl rfl ?_
    refine hj_iload_n o dX3_quickSort_1 1 rfl rfl ?_
    refine hj_isub_n o dX3_quickSort_2 (by omega) ?_
    refine hj_istore_n [(0, .ref h), (1, .int (nI lo)), (2, .int (nI hi)), (3, .int (nI (hi - lo)))] o dX3_quickSort_3 rfl (by decide) rfl ?_
    refine hj_iload_n o dX3_quickSort_4 3 rfl rfl ?_
    refine hj_bipush (nI 16) o dX3_quickSort_5 (by decide) ?_
    refine hj_n_ge 17 o dX3_quickSort_7 (by decide) (by omega) (by omega) (fun c1 => ?_) (fun c1 => ?_)
    · omega
    · refine hj_aload_n o dX3_quickSort_10 0 rfl rfl ?_
      refine hj_iload_n o dX3_quickSort_11 1 rfl rfl ?_
      refine hj_iload_n o dX3_quickSort_12 2 rfl rfl ?_
      refine hj_callSv [] [0] [] 3 o dX3_quickSort_13 (k_sel l D dA h n lo hi f hn hlo hh) (lw_S q224 q225 q7 q226) (by decide +kernel) rfl ⟨by dsimp only [hj_rm]; omega, by dsimp only [hj_rm]; omega⟩ ⟨Nat.le_of_ble_eq_true rfl, Nat.le_of_ble_eq_true rfl⟩ rfl rfl (by decide) (by decide) (by decide) rfl (Nat.le_of_ble_eq_true rfl) (fun g hg => ?_)
      show J 0 0 [hj_ar dA h n g] 16 [(0, .ref h), (1, .int (nI lo)), (2, .int (nI hi)), (3, .int (nI (hi - lo)))] []
      exact hret 0 0 _ 16 _ g [0] dX3_quickSort_16 (Nat.le_refl _) (Nat.le_refl _) hg rfl rfl
  | succ d ih =>
    intro lo hi f hlo hh hd
    refine hj_introV (by decide) (Nat.le_of_ble_eq_true rfl) (fun J o hret => ?_)
    show J 0 0 [hj_ar dA h n f] 0 [(0, .ref h), (1, .int (nI lo)), (2, .int (nI hi))] []
    refine hj_iload_n o dX3_quickSort_0 2 rfl rfl ?_
    refine hj_iload_n o dX3_quickSort_1 1 rfl rfl ?_
    refine hj_isub_n o dX3_quickSort_2 (by omega) ?_
    refine hj_istore_n [(0, .ref h), (1, .int (nI lo)), (2, .int (nI hi)), (3, .int (nI (hi - lo)))] o dX3_quickSort_3 rfl (by decide) rfl ?_
    refine hj_iload_n o dX3_quickSort_4 3 rfl rfl ?_
    refine hj_bipush (nI 16) o dX3_quickSort_5 (by decide) ?_
    refine hj_n_ge 17 o dX3_quickSort_7 (by decide) (by omega) (by omega) (fun c1 => ?_) (fun c1 => ?_)
    · refine hj_iload_n o dX3_quickSort_17 1 rfl rfl ?_
      refine hj_iload_n o dX3_quickSort_18 3 rfl rfl ?_
      refine hj_iconst (nI 2) o dX3_quickSort_19 (by decide) ?_
      refine hj_idiv_n o dX3_quickSort_20 (by omega) (by omega) (by omega) ?_
      refine hj_iadd_n o dX3_quickSort_21 ?_
      refine hj_istore [(0, .ref h), (1, .int (nI lo)), (2, .int (nI hi)), (3, .int (nI (hi - lo))), (4, .int (nI (lo + ((hi - lo) / 2))))] o dX3_quickSort_22 (by decide) rfl ?_
      refine hj_iload_n o dX3_quickSort_24 1 rfl rfl ?_
      refine hj_istore [(0, .ref h), (1, .int (nI lo)), (2, .int (nI hi)), (3, .int (nI (hi - lo))), (4, .int (nI (lo + ((hi - lo) / 2)))), (5, .int (nI lo))] o dX3_quickSort_25 (by decide) rfl ?_
      refine hj_iload_n o dX3_quickSort_27 2 rfl rfl ?_
      refine hj_iconst (nI 1) o dX3_quickSort_28 (by decide) ?_
      refine hj_isub_n o dX3_quickSort_29 (by omega) ?_
      refine hj_istore [(0, .ref h), (1, .int (nI lo)), (2, .int (nI hi)), (3, .int (nI (hi - lo))), (4, .int (nI (lo + ((hi - lo) / 2)))), (5, .int (nI lo)), (6, .int (nI (hi - 1)))] o dX3_quickSort_30 (by decide) rfl ?_
      refine hj_iload_n o dX3_quickSort_32 3 rfl rfl ?_
      refine hj_sipush (nI 128) o dX3_quickSort_33 (by decide) ?_
      refine hj_n_le 103 o dX3_quickSort_36 (by decide) (by omega) (by omega) (fun c2 => ?_) (fun c2 => ?_)
      · refine hj_lv [(0, .ref h), (1, .int (nI lo)), (2, .int (nI hi)), (4, .int (nI (lo + ((hi - lo) / 2)))), (5, .int (nI lo)), (6, .int (nI (hi - 1)))] [0, 1, 2, 4, 5, 6] o rfl ?_
        exact k_q_103 o hn hh hlo hd (fun x y f => ih x y f) hret (Nat.le_refl _) (by omega) (by omega) (by omega)
      · refine hj_iload_n o dX3_quickSort_39 3 rfl rfl ?_
        refine hj_bipush (nI 8) o dX3_quickSort_40 (by decide) ?_
        refine hj_idiv_n o dX3_quickSort_42 (by omega) (by omega) (by omega) ?_
        obtain ⟨s, hsd⟩ : ∃ s, s = (hi - lo) / 8 := ⟨_, rfl⟩
        rw [← hsd]
        refine hj_istore [(0, .ref h), (1, .int (nI lo)), (2, .int (nI hi)), (3, .int (nI (hi - lo))), (4, .int (nI (lo + ((hi - lo) / 2)))), (5, .int (nI lo)), (6, .int (nI (hi - 1))), (7, .int (nI s))] o dX3_quickSort_43 (by decide) rfl ?_
        refine hj_aload_n o dX3_quickSort_45 0 rfl rfl ?_
        refine hj_iload o dX3_quickSort_46 5 rfl ?_
        refine hj_iload o dX3_quickSort_48 5 rfl ?_
        refine hj_iload o dX3_quickSort_50 7 rfl ?_
        refine hj_iadd_n o dX3_quickSort_52 ?_
        refine hj_iload o dX3_quickSort_53 5 rfl ?_
        refine hj_iconst (nI 2) o dX3_quickSort_55 (by decide) ?_
        refine hj_iload o dX3_quickSort_56 7 rfl ?_
        refine hj_imul_n o dX3_quickSort_58 ?_
        refine hj_iadd_n o dX3_quickSort_59 ?_
        have q1 := hz_m3_in f lo (lo + s) (lo + 2 * s)
        refine hj_callSi [] [0] [] 4 o dX3_quickSort_60 (k_med3 l D dA h n lo (lo + s) (lo + 2 * s) f (by omega) (by omega) (by omega) (by omega)) (lw_S q227 q228 q7 q229) (by decide +kernel) rfl ⟨by dsimp only [hj_rm]; omega, by dsimp only [hj_rm]; omega⟩ ⟨Nat.le_of_ble_eq_true rfl, Nat.le_of_ble_eq_true rfl⟩ rfl rfl (by decide) (by decide) (by decide) rfl (Nat.le_of_ble_eq_true rfl) (fun r1 _ e1 => ?_)
        show J 0 0 [hj_ar dA h n f] 63 [(0, .ref h), (1, .int (nI lo)), (2, .int (nI hi)), (3, .int (nI (hi - lo))), (4, .int (nI (lo + ((hi - lo) / 2)))), (5, .int (nI lo)), (6, .int (nI (hi - 1))), (7, .int (nI s))] [.int r1]
        subst e1
        generalize hz_m3 f lo (lo + s) (lo + 2 * s) = ll at q1 ⊢
        refine hj_istore [(0, .ref h), (1, .int (nI lo)), (2, .int (nI hi)), (3, .int (nI (hi - lo))), (4, .int (nI (lo + ((hi - lo) / 2)))), (5, .int (nI ll)), (6, .int (nI (hi - 1))), (7, .int (nI s))] o dX3_quickSort_63 (by decide) rfl ?_
        refine hj_aload_n o dX3_quickSort_65 0 rfl rfl ?_
        refine hj_iload o dX3_quickSort_66 4 rfl ?_
        refine hj_iload o dX3_quickSort_68 7 rfl ?_
        refine hj_isub_n o dX3_quickSort_70 (by omega) ?_
        refine hj_iload o dX3_quickSort_71 4 rfl ?_
        refine hj_iload o dX3_quickSort_73 4 rfl ?_
        refine hj_iload o dX3_quickSort_75 7 rfl ?_
        refine hj_iadd_n o dX3_quickSort_77 ?_
        have q2 := hz_m3_in f (lo + (hi - lo) / 2 - s) (lo + (hi - lo) / 2) (lo + (hi - lo) / 2 + s)
        refine hj_callSi [] [0] [] 4 o dX3_quickSort_78 (k_med3 l D dA h n (lo + (hi - lo) / 2 - s) (lo + (hi - lo) / 2) (lo + (hi - lo) / 2 + s) f (by omega) (by omega) (by omega) (by omega)) (lw_S q227 q228 q7 q229) (by decide +kernel) rfl ⟨by dsimp only [hj_rm]; omega, by dsimp only [hj_rm]; omega⟩ ⟨Nat.le_of_ble_eq_true rfl, Nat.le_of_ble_eq_true rfl⟩ rfl rfl (by decide) (by decide) (by decide) rfl (Nat.le_of_ble_eq_true rfl) (fun r2 _ e2 => ?_)
        show J 0 0 [hj_ar dA h n f] 81 [(0, .ref h), (1, .int (nI lo)), (2, .int (nI hi)), (3, .int (nI (hi - lo))), (4, .int (nI (lo + ((hi - lo) / 2)))), (5, .int (nI ll)), (6, .int (nI (hi - 1))), (7, .int (nI s))] [.int r2]
        subst e2
        generalize hz_m3 f (lo + (hi - lo) / 2 - s) (lo + (hi - lo) / 2) (lo + (hi - lo) / 2 + s) = mm at q2 ⊢
        refine hj_istore [(0, .ref h), (1, .int (nI lo)), (2, .int (nI hi)), (3, .int (nI (hi - lo))), (4, .int (nI mm)), (5, .int (nI ll)), (6, .int (nI (hi - 1))), (7, .int (nI s))] o dX3_quickSort_81 (by decide) rfl ?_
        refine hj_aload_n o dX3_quickSort_83 0 rfl rfl ?_
        refine hj_iload o dX3_quickSort_84 6 rfl ?_
        refine hj_iconst (nI 2) o dX3_quickSort_86 (by decide) ?_
        refine hj_iload o dX3_quickSort_87 7 rfl ?_
        refine hj_imul_n o dX3_quickSort_89 ?_
        refine hj_isub_n o dX3_quickSort_90 (by omega) ?_
        refine hj_iload o dX3_quickSort_91 6 rfl ?_
        refine hj_iload o dX3_quickSort_93 7 rfl ?_
        refine hj_isub_n o dX3_quickSort_95 (by omega) ?_
        refine hj_iload o dX3_quickSort_96 6 rfl ?_
        have q3 := hz_m3_in f (hi - 1 - 2 * s) (hi - 1 - s) (hi - 1)
        refine hj_callSi [] [0] [] 4 o dX3_quickSort_98 (k_med3 l D dA h n (hi - 1 - 2 * s) (hi - 1 - s) (hi - 1) f (by omega) (by omega) (by omega) (by omega)) (lw_S q227 q228 q7 q229) (by decide +kernel) rfl ⟨by dsimp only [hj_rm]; omega, by dsimp only [hj_rm]; omega⟩ ⟨Nat.le_of_ble_eq_true rfl, Nat.le_of_ble_eq_true rfl⟩ rfl rfl (by decide) (by decide) (by decide) rfl (Nat.le_of_ble_eq_true rfl) (fun r3 _ e3 => ?_)
        show J 0 0 [hj_ar dA h n f] 101 [(0, .ref h), (1, .int (nI lo)), (2, .int (nI hi)), (3, .int (nI (hi - lo))), (4, .int (nI mm)), (5, .int (nI ll)), (6, .int (nI (hi - 1))), (7, .int (nI s))] [.int r3]
        subst e3
        generalize hz_m3 f (hi - 1 - 2 * s) (hi - 1 - s) (hi - 1) = nn at q3 ⊢
        refine hj_istore [(0, .ref h), (1, .int (nI lo)), (2, .int (nI hi)), (3, .int (nI (hi - lo))), (4, .int (nI mm)), (5, .int (nI ll)), (6, .int (nI nn)), (7, .int (nI s))] o dX3_quickSort_101 (by decide) rfl ?_
        refine hj_lv [(0, .ref h), (1, .int (nI lo)), (2, .int (nI hi)), (4, .int (nI mm)), (5, .int (nI ll)), (6, .int (nI nn))] [0, 1, 2, 4, 5, 6] o rfl ?_
        exact k_q_103 o hn hh hlo hd (fun x y f => ih x y f) hret (by omega) (by omega) (by omega) (by omega)
    · refine hj_aload_n o dX3_quickSort_10 0 rfl rfl ?_
      refine hj_iload_n o dX3_quickSort_11 1 rfl rfl ?_
      refine hj_iload_n o dX3_quickSort_12 2 rfl rfl ?_
      refine hj_callSv [] [0] [] 3 o dX3_quickSort_13 (k_sel l D dA h n lo hi f hn hlo hh) (lw_S q224 q225 q7 q226) (by decide +kernel) rfl ⟨by dsimp only [hj_rm]; omega, by dsimp only [hj_rm]; omega⟩ ⟨Nat.le_of_ble_eq_true rfl, Nat.le_of_ble_eq_true rfl⟩ rfl rfl (by decide) (by decide) (by decide) rfl (Nat.le_of_ble_eq_true rfl) (fun g hg => ?_)
      show J 0 0 [hj_ar dA h n g] 16 [(0, .ref h), (1, .int (nI lo)), (2, .int (nI hi)), (3, .int (nI (hi - lo)))] []
      exact hret 0 0 _ 16 _ g [0] dX3_quickSort_16 (Nat.le_refl _) (Nat.le_refl _) hg rfl rfl
end
section
/-! Arrays.copyOf, IntArrays.mergeSort. printed by gen_merge.py -/
section HM
variable {l : Launch} {R : Room} {D : va_G} {dA : ClassId} {own : String} {cc : ByteArray} {nL : Nat} {J : hj_JT} {cells slots pc : Nat} {ws : va_W} {lv : hj_L} {st : List Value}
theorem hj_clone {a n ix : Nat} {f : Nat → Int32} (o : hj_Ok l R D dA own cc nL J) (d : decode cc pc = .ok (.invokevirtual ix, 3)) (q : Cond.methodLink own ix ⟨"[I", "clone", "()Ljava/lang/Object;"⟩ ∈ lw_all) (q0 : Nat) (ha : ws[q0]? = some (hj_ar dA a n f)) (hf : 1 ≤ R.frames) (hlo : (st.map fun v => v.category).sum + 14 ≤ R.locals) (hc : cells + 1 ≤ R.cells) (hs : slots + n ≤ R.slots) (kk : ∀ q : Nat, J (cells + 1) (slots + n) (ws ++ [hj_ar dA q n f]) (pc + 3) lv (.ref q :: st)) : J cells slots ws pc lv (.ref a :: st) := by
  obtain ⟨p, e, s, m, args, below, meth, c, A, Q, rfl, ⟨hx, hb, hml, hown, hts⟩, hK, hA, hX⟩ := o
  intro H locs ls hP hD hS hl
  exact va_clone (ad := "[I") (ty := .int) hx hb (hml.trans hl.1.symm) hown (hts _ q) (hts _ q261) (hts _ q262) (hts _ q263) (hts _ q264) hX.2.2.2.2.2.2.2 hK hP hD hS hA q0 0 ha rfl (va_nm_int (hK.2 0 _ rfl).2) (fun i v hv => va_fit (cA := dA) (n := n) (F := fun j => .int (f j)) (fun _ _ => rfl) i v hv) hf hlo hc hs d (fun q H _ hP hD hS => kk q H locs ls hP hD hS hl)
theorem hj_castA {a n ix : Nat} {f : Nat → Int32} (o : hj_Ok l R D dA own cc nL J) (d : decode cc pc = .ok (.checkcast ix, 3)) (q : Cond.classLink own ix "[I" ∈ lw_all) (q0 : Nat) (ha : ws[q0]? = some (hj_ar dA a n f)) (kk : J cells slots ws (pc + 3) lv (.ref a :: st)) : J cells slots ws pc lv (.ref a :: st) := by
  obtain ⟨p, e, s, m, args, below, meth, c, A, Q, rfl, ⟨hx, hb, hml, hown, hts⟩, hK, hA, hX⟩ := o
  intro H locs ls hP hD hS hl
  exact va_castA hx hb hown (hts _ q) hP q0 ha (va_nm_int (hK.2 0 _ rfl).2) d (kk H locs ls hP hD hS hl)
end HM
set_option maxHeartbeats 8000000 in
set_option maxRecDepth 100000 in
/-- Arrays.copyOf(a, m), m at most its length: a new array with its first m places -/
theorem k_copyOf (l : Launch) (D : va_G) (dA : ClassId) (h n m : Nat) (f : Nat → Int32) (hn : n < 2 ^ 26) (hm : m ≤ n) : hj_KR l yJ6_copyOf cJ6_copyOf 3 (hj_rm 1 64 1 m) D dA [.ref h, .int (nI m)] [hj_ar dA h n f] (fun g : Nat → Int32 => ∀ k, k < m → g k = f k) (fun g a => [hj_ar dA h n f, hj_ar dA a m g]) := by
  refine hj_introR (by decide) (Nat.le_of_ble_eq_true rfl) (fun J o hret => ?_)
  show J 0 0 [hj_ar dA h n f] 0 [(0, .ref h), (1, .int (nI m))] []
  refine hj_iload_n o dJ6_copyOf_0 1 rfl rfl ?_
  refine hj_aload_n o dJ6_copyOf_1 0 rfl rfl ?_
  refine hj_alen o dJ6_copyOf_2 0 rfl ?_
  refine hj_n_ne 14 o dJ6_copyOf_3 (by decide) (by omega) (by omega) (fun c1 => ?_) (fun c1 => ?_)
  · refine hj_iload_n o dJ6_copyOf_14 1 rfl rfl ?_
    refine hj_newa o dJ6_copyOf_15 (by omega) (Nat.le_refl _) (by dsimp only [hj_rm]; omega) (fun q => ?_)
    show J 1 (0 + m) [hj_ar dA h n f, hj_ar dA q m (fun _ => 0)] 17 [(0, .ref h), (1, .int (nI m))] [.ref q]
    refine hj_astore_n [(0, .ref h), (1, .int (nI m)), (2, .ref q)] o dJ6_copyOf_17 rfl (by decide) rfl ?_
    refine hj_aload_n o dJ6_copyOf_18 0 rfl rfl ?_
    refine hj_iconst (nI 0) o dJ6_copyOf_19 (by decide) ?_
    refine hj_aload_n o dJ6_copyOf_20 2 rfl rfl ?_
    refine hj_iconst (nI 0) o dJ6_copyOf_21 (by decide) ?_
    refine hj_aload_n o dJ6_copyOf_22 0 rfl rfl ?_
    refine hj_alen o dJ6_copyOf_23 0 rfl ?_
    refine hj_iload_n o dJ6_copyOf_24 1 rfl rfl ?_
    refine hj_min_n o dJ6_copyOf_25 q267 (Nat.le_refl _) (Nat.le_of_ble_eq_true rfl) (Nat.le_refl _) (by dsimp only [hj_rm]; omega) (by omega) (by omega) ?_
    rw [Nat.min_eq_right hm]
    refine hj_copyi [hj_ar dA h n f, hj_ar dA q m (va_cpy f (fun _ => 0) 0 0 m)] o dJ6_copyOf_28 q268 0 1 rfl rfl (by omega) (by omega) (by omega) (by omega) (Nat.le_refl _) (Nat.le_of_ble_eq_true rfl) rfl ?_
    refine hj_aload_n o dJ6_copyOf_31 2 rfl rfl ?_
    exact hret _ _ _ 32 _ q _ [0, 1] dJ6_copyOf_32 (Nat.le_refl _) (by dsimp only [hj_rm]; omega) (fun k hk => by rw [sb_cpy0 hk]) rfl rfl
  · subst c1
    refine hj_aload_n o dJ6_copyOf_6 0 rfl rfl ?_
    refine hj_clone o dJ6_copyOf_7 q260 0 rfl (Nat.le_refl _) (Nat.le_of_ble_eq_true rfl) (Nat.le_refl _) (by dsimp only [hj_rm]; omega) (fun q => ?_)
    show J 1 (0 + m) [hj_ar dA h m f, hj_ar dA q m f] 10 [(0, .ref h), (1, .int (nI m))] [.ref q]
    refine hj_castA o dJ6_copyOf_10 q266 1 rfl ?_
    exact hret _ _ _ 13 _ q _ [0, 1] dJ6_copyOf_13 (Nat.le_refl _) (by dsimp only [hj_rm]; omega) (fun _ _ => rfl) rfl rfl
set_option maxHeartbeats 8000000 in
set_option maxRecDepth 100000 in
theorem k_mg_loop {l : Launch} {D : va_G} {dA : ClassId} {J : hj_JT} {R : Room} {h hs n ns lo mid hi cells slots : Nat} {f g : Nat → Int32} (o : hj_Ok l R D dA RX3 cX3_mergeSort_2 9 J) (hn : n < 2 ^ 30) (hns : ns < 2 ^ 30) (h1 : hi ≤ n) (h2 : hi ≤ ns) (hm1 : lo ≤ mid) (hm2 : mid ≤ hi) (s1 : hz_so g lo mid) (s2 : hz_so g mid hi)
    (kont : ∀ (a : Nat → Int32) (p q : Nat), hz_mg f g a lo mid hi hi p q → J cells slots [hj_ar dA h n a, hj_ar dA hs ns g] 146 [(0, .ref h), (1, .int (nI lo)), (2, .int (nI hi)), (3, .ref hs), (5, .int (nI mid)), (6, .int (nI hi)), (7, .int (nI p)), (8, .int (nI q))] []) : ∀ (t i p q : Nat) (a : Nat → Int32), i ≤ hi → hi - i < t → hz_mg f g a lo mid hi i p q → J cells slots [hj_ar dA h n a, hj_ar dA hs ns g] 85 [(0, .ref h), (1, .int (nI lo)), (2, .int (nI hi)), (3, .ref hs), (5, .int (nI mid)), (6, .int (nI i)), (7, .int (nI p)), (8, .int (nI q))] [] := by
  intro t
  induction t with
  | zero => intro i p q a hi1 ht; omega
  | succ t ih =>
    intro i p q a hi1 ht hm
    obtain ⟨e1, e2, e3, e4, e5⟩ := hm.1
    refine hj_iload o dX3_mergeSort_2_85 5 rfl ?_
    refine hj_iload_n o dX3_mergeSort_2_87 2 rfl rfl ?_
    refine hj_n_ge 146 o dX3_mergeSort_2_88 (by decide) (by omega) (by omega) (fun c1 => ?_) (fun c1 => ?_)
    · have e : i = hi := by omega
      subst e
      exact kont a p q hm
    · have kp : p < mid → (q < hi → (g p).toInt ≤ (g q).toInt) → J cells slots [hj_ar dA h n a, hj_ar dA hs ns g] 115 [(0, .ref h), (1, .int (nI lo)), (2, .int (nI hi)), (3, .ref hs), (5, .int (nI mid)), (6, .int (nI i)), (7, .int (nI p)), (8, .int (nI q))] [] := by
        intro b1 b2
        refine hj_aload_n o dX3_mergeSort_2_115 0 rfl rfl ?_
        refine hj_iload o dX3_mergeSort_2_116 5 rfl ?_
        refine hj_aload_n o dX3_mergeSort_2_118 3 rfl rfl ?_
        refine hj_iload o dX3_mergeSort_2_119 6 rfl ?_
        refine hj_iinc_n [(0, .ref h), (1, .int (nI lo)), (2, .int (nI hi)), (3, .ref hs), (5, .int (nI mid)), (6, .int (nI i)), (7, .int (nI (p + 1))), (8, .int (nI q))] o dX3_mergeSort_2_121 6 rfl (by decide) rfl ?_
        refine hj_iald o dX3_mergeSort_2_124 1 rfl (by omega) (by omega) ?_
        refine hj_iast [hj_ar dA h n (upd a i ((g p))), hj_ar dA hs ns g] o dX3_mergeSort_2_125 0 rfl (by omega) (by omega) rfl ?_
        refine hj_goto 140 o dX3_mergeSort_2_126 (by decide) ?_
        refine hj_iinc_n [(0, .ref h), (1, .int (nI lo)), (2, .int (nI hi)), (3, .ref hs), (5, .int (nI mid)), (6, .int (nI (i + 1))), (7, .int (nI (p + 1))), (8, .int (nI q))] o dX3_mergeSort_2_140 5 rfl (by decide) rfl ?_
        refine hj_goto 85 o dX3_mergeSort_2_143 (by decide) ?_
        exact ih (i + 1) (p + 1) q _ (by omega) (by omega) (hz_mg_p hm s1 b1 b2 s2)
      have kq : q < hi → (p < mid → (g q).toInt ≤ (g p).toInt) → J cells slots [hj_ar dA h n a, hj_ar dA hs ns g] 129 [(0, .ref h), (1, .int (nI lo)), (2, .int (nI hi)), (3, .ref hs), (5, .int (nI mid)), (6, .int (nI i)), (7, .int (nI p)), (8, .int (nI q))] [] := by
        intro b1 b2
        refine hj_aload_n o dX3_mergeSort_2_129 0 rfl rfl ?_
        refine hj_iload o dX3_mergeSort_2_130 5 rfl ?_
        refine hj_aload_n o dX3_mergeSort_2_132 3 rfl rfl ?_
        refine hj_iload o dX3_mergeSort_2_133 7 rfl ?_
        refine hj_iinc_n [(0, .ref h), (1, .int (nI lo)), (2, .int (nI hi)), (3, .ref hs), (5, .int (nI mid)), (6, .int (nI i)), (7, .int (nI p)), (8, .int (nI (q + 1)))] o dX3_mergeSort_2_135 7 rfl (by decide) rfl ?_
        refine hj_iald o dX3_mergeSort_2_138 1 rfl (by omega) (by omega) ?_
        refine hj_iast [hj_ar dA h n (upd a i ((g q))), hj_ar dA hs ns g] o dX3_mergeSort_2_139 0 rfl (by omega) (by omega) rfl ?_
        refine hj_iinc_n [(0, .ref h), (1, .int (nI lo)), (2, .int (nI hi)), (3, .ref hs), (5, .int (nI mid)), (6, .int (nI (i + 1))), (7, .int (nI p)), (8, .int (nI (q + 1)))] o dX3_mergeSort_2_140 5 rfl (by decide) rfl ?_
        refine hj_goto 85 o dX3_mergeSort_2_143 (by decide) ?_
        exact ih (i + 1) p (q + 1) _ (by omega) (by omega) (hz_mg_q hm s2 b1 b2 s1)
      refine hj_iload o dX3_mergeSort_2_91 7 rfl ?_
      refine hj_iload_n o dX3_mergeSort_2_93 2 rfl rfl ?_
      refine hj_n_ge 115 o dX3_mergeSort_2_94 (by decide) (by omega) (by omega) (fun c2 => ?_) (fun c2 => ?_)
      · exact kp (by omega) (fun z => absurd z (by omega))
      · refine hj_iload o dX3_mergeSort_2_97 6 rfl ?_
        refine hj_iload o dX3_mergeSort_2_99 4 rfl ?_
        refine hj_n_ge 129 o dX3_mergeSort_2_101 (by decide) (by omega) (by omega) (fun c3 => ?_) (fun c3 => ?_)
        · exact kq c2 (fun z => absurd z (by omega))
        · refine hj_aload_n o dX3_mergeSort_2_104 3 rfl rfl ?_
          refine hj_iload o dX3_mergeSort_2_105 6 rfl ?_
          refine hj_iald o dX3_mergeSort_2_107 1 rfl (by omega) (by omega) ?_
          refine hj_aload_n o dX3_mergeSort_2_108 3 rfl rfl ?_
          refine hj_iload o dX3_mergeSort_2_109 7 rfl ?_
          refine hj_iald o dX3_mergeSort_2_111 1 rfl (by omega) (by omega) ?_
          refine hj_icmp_gt 129 o dX3_mergeSort_2_112 (by decide) (fun c4 => ?_) (fun c4 => ?_)
          · exact kq c2 (fun _ => by rw [hz_lt] at c4; omega)
          · exact kp c3 (fun _ => by rw [hz_lt] at c4; omega)
set_option maxHeartbeats 8000000 in
set_option maxRecDepth 100000 in
theorem k_ms_29 {l : Launch} {D : va_G} {dA : ClassId} {J : hj_JT} {R : Room} {h hs n ns lo hi d cells slots : Nat} {f g : Nat → Int32} (o : hj_Ok l R D dA RX3 cX3_mergeSort_2 9 J) (hn : n < 2 ^ 30) (hns : ns < 2 ^ 30) (h1 : hi ≤ n) (h2 : hi ≤ ns) (hlo : lo + 16 ≤ hi) (hd : hi - lo ≤ 2 * (d + 1) + 15) (hg : ∀ k, lo ≤ k → k < hi → g k = f k) (hR : d + 3 ≤ R.frames ∧ 32 * d + 160 ≤ R.locals) (hc : cells ≤ R.cells ∧ slots ≤ R.slots)
    (rec : ∀ (x y : Nat) (f g : Nat → Int32), x ≤ y → y ≤ n → y ≤ ns → y - x ≤ 2 * d + 15 → (∀ k, x ≤ k → k < y → g k = f k) → hj_KV l yX3_mergeSort_2 cX3_mergeSort_2 9 (hj_rm (d + 2) (32 * d + 128) 0 0) D dA [.ref hs, .int (nI x), .int (nI y), .ref h] [hj_ar dA hs ns f, hj_ar dA h n g] (fun u : (Nat → Int32) × (Nat → Int32) => (hz_sm f u.1 x y ∧ hz_so u.1 x y) ∧ ∀ k, (k < x ∨ y ≤ k) → u.2 k = g k) (fun u => [hj_ar dA hs ns u.1, hj_ar dA h n u.2]))
    (kont : ∀ (pc : Nat) (lv : hj_L) (a g2 : Nat → Int32), decode cX3_mergeSort_2 pc = .ok (.return_, 1) → hz_sm f a lo hi → hz_so a lo hi → (∀ k, (k < lo ∨ hi ≤ k) → g2 k = g k) → J cells slots [hj_ar dA h n a, hj_ar dA hs ns g2] pc lv []) : J cells slots [hj_ar dA h n f, hj_ar dA hs ns g] 29 [(0, .ref h), (1, .int (nI lo)), (2, .int (nI hi)), (3, .ref hs), (4, .int (nI (hi - lo)))] [] := by
  refine hj_iload_n o dX3_mergeSort_2_29 1 rfl rfl ?_
  refine hj_iload_n o dX3_mergeSort_2_30 2 rfl rfl ?_
  refine hj_iadd_n o dX3_mergeSort_2_31 ?_
  refine hj_iconst (nI 1) o dX3_mergeSort_2_32 (by decide) ?_
  refine hj_iushr_1 o dX3_mergeSort_2_33 (by omega) ?_
  obtain ⟨mid, hmd⟩ : ∃ mid, mid = (lo + hi) / 2 := ⟨_, rfl⟩
  rw [← hmd]
  refine hj_istore [(0, .ref h), (1, .int (nI lo)), (2, .int (nI hi)), (3, .ref hs), (4, .int (nI (hi - lo))), (5, .int (nI mid))] o dX3_mergeSort_2_34 (by decide) rfl ?_
  refine hj_aload_n o dX3_mergeSort_2_36 3 rfl rfl ?_
  refine hj_iload_n o dX3_mergeSort_2_37 1 rfl rfl ?_
  refine hj_iload o dX3_mergeSort_2_38 5 rfl ?_
  refine hj_aload_n o dX3_mergeSort_2_40 0 rfl rfl ?_
  refine hj_callSv [] [1, 0] [] 4 o dX3_mergeSort_2_41 (rec lo mid g f (by omega) (by omega) (by omega) (by omega) (fun k k1 k2 => (hg k k1 (by omega)).symm)) (lw_S q251 q252 q7 q253) (by decide +kernel) rfl ⟨by dsimp only [hj_rm]; omega, by dsimp only [hj_rm]; omega⟩ ⟨hc.1, hc.2⟩ rfl rfl (by decide) (by decide) (by decide) rfl (Nat.le_of_ble_eq_true rfl) (fun u1 hu1 => ?_)
  show J cells slots [hj_ar dA hs ns u1.1, hj_ar dA h n u1.2] 44 [(0, .ref h), (1, .int (nI lo)), (2, .int (nI hi)), (3, .ref hs), (4, .int (nI (hi - lo))), (5, .int (nI mid))] []
  obtain ⟨g1, f1⟩ := u1
  obtain ⟨⟨m1, o1⟩, x1⟩ := hu1
  dsimp only at m1 o1 x1
  
  show J cells slots [hj_ar dA hs ns g1, hj_ar dA h n f1] 44 [(0, .ref h), (1, .int (nI lo)), (2, .int (nI hi)), (3, .ref hs), (4, .int (nI (hi - lo))), (5, .int (nI mid))] []
  refine hj_aload_n o dX3_mergeSort_2_44 3 rfl rfl ?_
  refine hj_iload o dX3_mergeSort_2_45 5 rfl ?_
  refine hj_iload_n o dX3_mergeSort_2_47 2 rfl rfl ?_
  refine hj_aload_n o dX3_mergeSort_2_48 0 rfl rfl ?_
  refine hj_callSv [] [0, 1] [] 4 o dX3_mergeSort_2_49 (rec mid hi g1 f1 (by omega) (by omega) (by omega) (by omega) (fun k k1 k2 => by rw [x1 k (Or.inr k1), m1.1 k (Or.inr k1)]; exact (hg k (by omega) k2).symm)) (lw_S q251 q252 q7 q253) (by decide +kernel) rfl ⟨by dsimp only [hj_rm]; omega, by dsimp only [hj_rm]; omega⟩ ⟨hc.1, hc.2⟩ rfl rfl (by decide) (by decide) (by decide) rfl (Nat.le_of_ble_eq_true rfl) (fun u2 hu2 => ?_)
  show J cells slots [hj_ar dA hs ns u2.1, hj_ar dA h n u2.2] 52 [(0, .ref h), (1, .int (nI lo)), (2, .int (nI hi)), (3, .ref hs), (4, .int (nI (hi - lo))), (5, .int (nI mid))] []
  obtain ⟨g2, f2⟩ := u2
  obtain ⟨⟨m2, o2⟩, x2⟩ := hu2
  dsimp only at m2 o2 x2
  refine hj_pick [hj_ar dA h n f2, hj_ar dA hs ns g2] [1, 0] o rfl rfl ?_
  have hsm : hz_sm g g2 lo hi := hz_sm_tr (hz_sm_wide m1 (Nat.le_refl _) (by omega)) (hz_sm_wide m2 (by omega) (Nat.le_refl _))
  have oo1 : hz_so g2 lo mid := hz_so_cong o1 (fun k k1 k2 => m2.1 k (Or.inl k2))
  have hf2 : ∀ k, (k < lo ∨ hi ≤ k) → f2 k = f k := fun k hk => by
    rw [x2 k (by omega), x1 k (by omega)]
  have hg2 : ∀ k, (k < lo ∨ hi ≤ k) → g2 k = g k := hsm.1
  refine hj_aload_n o dX3_mergeSort_2_52 3 rfl rfl ?_
  refine hj_iload o dX3_mergeSort_2_53 5 rfl ?_
  refine hj_iconst (nI 1) o dX3_mergeSort_2_55 (by decide) ?_
  refine hj_isub_n o dX3_mergeSort_2_56 (by omega) ?_
  refine hj_iald o dX3_mergeSort_2_57 1 rfl (by omega) (by omega) ?_
  refine hj_aload_n o dX3_mergeSort_2_58 3 rfl rfl ?_
  refine hj_iload o dX3_mergeSort_2_59 5 rfl ?_
  refine hj_iald o dX3_mergeSort_2_61 1 rfl (by omega) (by omega) ?_
  refine hj_icmp_gt 75 o dX3_mergeSort_2_62 (by decide) (fun c1 => ?_) (fun c1 => ?_)
  · refine hj_iload_n o dX3_mergeSort_2_75 1 rfl rfl ?_
    refine hj_istore [(0, .ref h), (1, .int (nI lo)), (2, .int (nI hi)), (3, .ref hs), (4, .int (nI (hi - lo))), (5, .int (nI mid)), (6, .int (nI lo))] o dX3_mergeSort_2_76 (by decide) rfl ?_
    refine hj_iload_n o dX3_mergeSort_2_78 1 rfl rfl ?_
    refine hj_istore [(0, .ref h), (1, .int (nI lo)), (2, .int (nI hi)), (3, .ref hs), (4, .int (nI (hi - lo))), (5, .int (nI mid)), (6, .int (nI lo)), (7, .int (nI lo))] o dX3_mergeSort_2_79 (by decide) rfl ?_
    refine hj_iload o dX3_mergeSort_2_81 5 rfl ?_
    refine hj_istore [(0, .ref h), (1, .int (nI lo)), (2, .int (nI hi)), (3, .ref hs), (4, .int (nI (hi - lo))), (5, .int (nI mid)), (6, .int (nI lo)), (7, .int (nI lo)), (8, .int (nI mid))] o dX3_mergeSort_2_83 (by decide) rfl ?_
    refine hj_lv [(0, .ref h), (1, .int (nI lo)), (2, .int (nI hi)), (3, .ref hs), (5, .int (nI mid)), (6, .int (nI lo)), (7, .int (nI lo)), (8, .int (nI mid))] [0, 1, 2, 3, 5, 6, 7, 8] o rfl ?_
    refine k_mg_loop (f := f) (g := g2) o hn hns h1 h2 (by omega) (by omega) oo1 o2 (fun a p q hm => ?_) (hi - lo + 1) lo lo mid f2 (by omega) (by omega) (hz_mg_0 (by omega) (by omega) hf2)
    obtain ⟨r1, r2⟩ := hz_mg_done hm hsm hg (by omega)
    exact kont 146 _ a g2 dX3_mergeSort_2_146 r1 r2 hg2
  · refine hj_aload_n o dX3_mergeSort_2_65 3 rfl rfl ?_
    refine hj_iload_n o dX3_mergeSort_2_66 1 rfl rfl ?_
    refine hj_aload_n o dX3_mergeSort_2_67 0 rfl rfl ?_
    refine hj_iload_n o dX3_mergeSort_2_68 1 rfl rfl ?_
    refine hj_iload o dX3_mergeSort_2_69 4 rfl ?_
    refine hj_copyi [hj_ar dA h n (va_cpy g2 f2 lo lo (hi - lo)), hj_ar dA hs ns g2] o dX3_mergeSort_2_71 q87 1 0 rfl rfl (by omega) (by omega) (by omega) (by omega) (by omega) (by simp; have := hR.2; exact Nat.le_trans (by decide) (Nat.le_trans (show 128 ≤ 32 * d + 160 by omega) this)) rfl ?_
    have c2 : (g2 (mid - 1)).toInt ≤ (g2 mid).toInt := by rw [hz_lt] at c1; omega
    obtain ⟨r1, r2⟩ := hz_cp_done (f := f) (f1 := f) (h := va_cpy g2 f2 lo lo (hi - lo)) (fun k k1 k2 => by rw [pk_cpy_in k1 (by omega)]; exact congrArg g2 (by omega)) (fun k hk => by rw [pk_cpy_out (by omega)]; exact hf2 k hk) hsm hg (by omega) (hz_so_cat oo1 o2 (by omega) (by omega) c2)
    exact kont 74 _ _ g2 dX3_mergeSort_2_74 r1 r2 hg2
set_option maxHeartbeats 8000000 in
set_option maxRecDepth 100000 in
/-- IntArrays.mergeSort(a, lo, hi, supp) with an array supp that has a's values in the range -/
theorem k_ms2 (l : Launch) (D : va_G) (dA : ClassId) : ∀ (d h hs n ns lo hi : Nat) (f g : Nat → Int32), n < 2 ^ 30 → ns < 2 ^ 30 → lo ≤ hi → hi ≤ n → hi ≤ ns → hi - lo ≤ 2 * d + 15 → (∀ k, lo ≤ k → k < hi → g k = f k) → hj_KV l yX3_mergeSort_2 cX3_mergeSort_2 9 (hj_rm (d + 2) (32 * d + 128) 0 0) D dA [.ref h, .int (nI lo), .int (nI hi), .ref hs] [hj_ar dA h n f, hj_ar dA hs ns g] (fun u : (Nat → Int32) × (Nat → Int32) => (hz_sm f u.1 lo hi ∧ hz_so u.1 lo hi) ∧ ∀ k, (k < lo ∨ hi ≤ k) → u.2 k = g k) (fun u => [hj_ar dA h n u.1, hj_ar dA hs ns u.2]) := by
  intro d
  induction d with
  | zero =>
    intro h hs n ns lo hi f g hn hns hlo h1 h2 hd hg
    refine hj_introV (by decide) (Nat.le_of_ble_eq_true rfl) (fun J o hret => ?_)
    show J 0 0 [hj_ar dA h n f, hj_ar dA hs ns g] 0 [(0, .ref h), (1, .int (nI lo)), (2, .int (nI hi)), (3, .ref hs)] []
    refine hj_iload_n o dX3_mergeSort_2_0 2 rfl rfl ?_
    refine hj_iload_n o dX3_mergeSort_2_1 1 rfl rfl ?_
    refine hj_isub_n o dX3_mergeSort_2_2 (by omega) ?_
    refine hj_istore [(0, .ref h), (1, .int (nI lo)), (2, .int (nI hi)), (3, .ref hs), (4, .int (nI (hi - lo)))] o dX3_mergeSort_2_3 (by decide) rfl ?_
    refine hj_iload o dX3_mergeSort_2_5 4 rfl ?_
    refine hj_bipush (nI 16) o dX3_mergeSort_2_7 (by decide) ?_
    refine hj_n_ge 19 o dX3_mergeSort_2_9 (by decide) (by omega) (by omega) (fun c1 => ?_) (fun c1 => ?_)
    · omega
    · refine hj_aload_n o dX3_mergeSort_2_12 0 rfl rfl ?_
      refine hj_iload_n o dX3_mergeSort_2_13 1 rfl rfl ?_
      refine hj_iload_n o dX3_mergeSort_2_14 2 rfl rfl ?_
      refine hj_callSv [hj_ar dA hs ns g] [0] [1] 3 o dX3_mergeSort_2_15 (k_ins l D dA h n lo hi f hn hlo h1) (lw_S q254 q255 q7 q256) (by decide +kernel) rfl ⟨by dsimp only [hj_rm]; omega, by dsimp only [hj_rm]; omega⟩ ⟨Nat.le_of_ble_eq_true rfl, Nat.le_of_ble_eq_true rfl⟩ rfl rfl (by decide) (by decide) (by decide) rfl (Nat.le_of_ble_eq_true rfl) (fun a ha => ?_)
      show J 0 0 [hj_ar dA hs ns g, hj_ar dA h n a] 18 [(0, .ref h), (1, .int (nI lo)), (2, .int (nI hi)), (3, .ref hs), (4, .int (nI (hi - lo)))] []
      exact hret 0 0 _ 18 _ (a, g) [1, 0] dX3_mergeSort_2_18 (Nat.le_refl _) (Nat.le_refl _) ⟨ha, fun _ _ => rfl⟩ rfl rfl
  | succ d ih =>
    intro h hs n ns lo hi f g hn hns hlo h1 h2 hd hg
    refine hj_introV (by decide) (Nat.le_of_ble_eq_true rfl) (fun J o hret => ?_)
    show J 0 0 [hj_ar dA h n f, hj_ar dA hs ns g] 0 [(0, .ref h), (1, .int (nI lo)), (2, .int (nI hi)), (3, .ref hs)] []
    refine hj_iload_n o dX3_mergeSort_2_0 2 rfl rfl ?_
    refine hj_iload_n o dX3_mergeSort_2_1 1 rfl rfl ?_
    refine hj_isub_n o dX3_mergeSort_2_2 (by omega) ?_
    refine hj_istore [(0, .ref h), (1, .int (nI lo)), (2, .int (nI hi)), (3, .ref hs), (4, .int (nI (hi - lo)))] o dX3_mergeSort_2_3 (by decide) rfl ?_
    refine hj_iload o dX3_mergeSort_2_5 4 rfl ?_
    refine hj_bipush (nI 16) o dX3_mergeSort_2_7 (by decide) ?_
    refine hj_n_ge 19 o dX3_mergeSort_2_9 (by decide) (by omega) (by omega) (fun c1 => ?_) (fun c1 => ?_)
    · refine hj_aload_n o dX3_mergeSort_2_19 3 rfl rfl ?_
      refine hj_ifnonnull 29 o dX3_mergeSort_2_20 (by decide) ?_
      exact k_ms_29 o hn hns h1 h2 (by omega) hd hg ⟨by dsimp only [hj_rm]; omega, by dsimp only [hj_rm]; omega⟩ ⟨Nat.le_refl _, Nat.le_refl _⟩ (fun x y f g a1 a2 a3 a4 a5 => ih hs h ns n x y f g hns hn a1 a3 a2 a4 a5) (fun pc lv a g2 dd r1 r2 r3 => hret 0 0 _ pc _ (a, g2) [0, 1] dd (Nat.le_refl _) (Nat.le_refl _) ⟨⟨r1, r2⟩, r3⟩ rfl rfl)
    · refine hj_aload_n o dX3_mergeSort_2_12 0 rfl rfl ?_
      refine hj_iload_n o dX3_mergeSort_2_13 1 rfl rfl ?_
      refine hj_iload_n o dX3_mergeSort_2_14 2 rfl rfl ?_
      refine hj_callSv [hj_ar dA hs ns g] [0] [1] 3 o dX3_mergeSort_2_15 (k_ins l D dA h n lo hi f hn hlo h1) (lw_S q254 q255 q7 q256) (by decide +kernel) rfl ⟨by dsimp only [hj_rm]; omega, by dsimp only [hj_rm]; omega⟩ ⟨Nat.le_of_ble_eq_true rfl, Nat.le_of_ble_eq_true rfl⟩ rfl rfl (by decide) (by decide) (by decide) rfl (Nat.le_of_ble_eq_true rfl) (fun a ha => ?_)
      show J 0 0 [hj_ar dA hs ns g, hj_ar dA h n a] 18 [(0, .ref h), (1, .int (nI lo)), (2, .int (nI hi)), (3, .ref hs), (4, .int (nI (hi - lo)))] []
      exact hret 0 0 _ 18 _ (a, g) [1, 0] dX3_mergeSort_2_18 (Nat.le_refl _) (Nat.le_refl _) ⟨ha, fun _ _ => rfl⟩ rfl rfl
set_option maxHeartbeats 8000000 in
set_option maxRecDepth 100000 in
/-- IntArrays.mergeSort(a, lo, hi, null) -/
theorem k_ms_null (l : Launch) (D : va_G) (dA : ClassId) (d h n lo hi : Nat) (f : Nat → Int32) (hn : n < 2 ^ 26) (hlo : lo ≤ hi) (h1 : hi ≤ n) (hd : hi - lo ≤ 2 * (d + 1) + 15) : hj_KV l yX3_mergeSort_2 cX3_mergeSort_2 9 (hj_rm (d + 3) (32 * d + 192) 1 hi) D dA [.ref h, .int (nI lo), .int (nI hi), .null] [hj_ar dA h n f] (fun g : Nat → Int32 => hz_sm f g lo hi ∧ hz_so g lo hi) (fun g => [hj_ar dA h n g]) := by
  refine hj_introV (by decide) (Nat.le_of_ble_eq_true rfl) (fun J o hret => ?_)
  show J 0 0 [hj_ar dA h n f] 0 [(0, .ref h), (1, .int (nI lo)), (2, .int (nI hi)), (3, .null)] []
  refine hj_iload_n o dX3_mergeSort_2_0 2 rfl rfl ?_
  refine hj_iload_n o dX3_mergeSort_2_1 1 rfl rfl ?_
  refine hj_isub_n o dX3_mergeSort_2_2 (by omega) ?_
  refine hj_istore [(0, .ref h), (1, .int (nI lo)), (2, .int (nI hi)), (3, .null), (4, .int (nI (hi - lo)))] o dX3_mergeSort_2_3 (by decide) rfl ?_
  refine hj_iload o dX3_mergeSort_2_5 4 rfl ?_
  refine hj_bipush (nI 16) o dX3_mergeSort_2_7 (by decide) ?_
  refine hj_n_ge 19 o dX3_mergeSort_2_9 (by decide) (by omega) (by omega) (fun c1 => ?_) (fun c1 => ?_)
  · refine hj_aload_nN o dX3_mergeSort_2_19 3 rfl rfl ?_
    refine hj_ifnonnullN o dX3_mergeSort_2_20 ?_
    refine hj_aload_n o dX3_mergeSort_2_23 0 rfl rfl ?_
    refine hj_iload_n o dX3_mergeSort_2_24 2 rfl rfl ?_
    refine hj_callSr [] [0] [] 2 o dX3_mergeSort_2_25 (k_copyOf l D dA h n hi f hn h1) (lw_S q257 q258 q17 q259) (by decide +kernel) rfl ⟨by dsimp only [hj_rm]; omega, by dsimp only [hj_rm]; omega⟩ ⟨by dsimp only [hj_rm]; omega, by dsimp only [hj_rm]; omega⟩ rfl rfl (by decide) (by decide) (by decide) rfl (Nat.le_of_ble_eq_true rfl) (fun g hs hg => ?_)
    show J (0 + 1) (0 + hi) [hj_ar dA h n f, hj_ar dA hs hi g] 28 [(0, .ref h), (1, .int (nI lo)), (2, .int (nI hi)), (3, .null), (4, .int (nI (hi - lo)))] [.ref hs]
    refine hj_astore_n [(0, .ref h), (1, .int (nI lo)), (2, .int (nI hi)), (3, .ref hs), (4, .int (nI (hi - lo)))] o dX3_mergeSort_2_28 rfl (by decide) rfl ?_
    exact k_ms_29 o (by omega) (by omega) h1 (Nat.le_refl _) (by omega) hd (fun k _ k2 => hg k k2) ⟨by dsimp only [hj_rm]; omega, by dsimp only [hj_rm]; omega⟩ ⟨by dsimp only [hj_rm]; omega, by dsimp only [hj_rm]; omega⟩ (fun x y f g a1 a2 a3 a4 a5 => k_ms2 l D dA d hs h hi n x y f g (by omega) (by omega) a1 a3 a2 a4 a5) (fun pc lv a g2 dd r1 r2 r3 => hret _ _ _ pc _ a [0] dd (by dsimp only [hj_rm]; omega) (by dsimp only [hj_rm]; omega) ⟨r1, r2⟩ rfl rfl)
  · refine hj_aload_n o dX3_mergeSort_2_12 0 rfl rfl ?_
    refine hj_iload_n o dX3_mergeSort_2_13 1 rfl rfl ?_
    refine hj_iload_n o dX3_mergeSort_2_14 2 rfl rfl ?_
    refine hj_callSv [] [0] [] 3 o dX3_mergeSort_2_15 (k_ins l D dA h n lo hi f (by omega) hlo h1) (lw_S q254 q255 q7 q256) (by decide +kernel) rfl ⟨by dsimp only [hj_rm]; omega, by dsimp only [hj_rm]; omega⟩ ⟨by dsimp only [hj_rm]; omega, by dsimp only [hj_rm]; omega⟩ rfl rfl (by decide) (by decide) (by decide) rfl (Nat.le_of_ble_eq_true rfl) (fun a ha => ?_)
    show J 0 0 [hj_ar dA h n a] 18 [(0, .ref h), (1, .int (nI lo)), (2, .int (nI hi)), (3, .null), (4, .int (nI (hi - lo)))] []
    exact hret 0 0 _ 18 _ a [0] dX3_mergeSort_2_18 (Nat.zero_le _) (Nat.zero_le _) ha rfl rfl
set_option maxHeartbeats 8000000 in
set_option maxRecDepth 100000 in
/-- IntArrays.mergeSort(a, lo, hi) -/
theorem k_merge (l : Launch) (D : va_G) (dA : ClassId) (d h n lo hi : Nat) (f : Nat → Int32) (hn : n < 2 ^ 26) (hlo : lo ≤ hi) (h1 : hi ≤ n) (hd : hi - lo ≤ 2 * (d + 1) + 15) : hj_KV l yX3_mergeSort cX3_mergeSort 3 (hj_rm (d + 4) (32 * d + 224) 1 hi) D dA [.ref h, .int (nI lo), .int (nI hi)] [hj_ar dA h n f] (fun g : Nat → Int32 => hz_sm f g lo hi ∧ hz_so g lo hi) (fun g => [hj_ar dA h n g]) := by
  refine hj_introV (by decide) (Nat.le_of_ble_eq_true rfl) (fun J o hret => ?_)
  show J 0 0 [hj_ar dA h n f] 0 [(0, .ref h), (1, .int (nI lo)), (2, .int (nI hi))] []
  refine hj_aload_n o dX3_mergeSort_0 0 rfl rfl ?_
  refine hj_iload_n o dX3_mergeSort_1 1 rfl rfl ?_
  refine hj_iload_n o dX3_mergeSort_2 2 rfl rfl ?_
  refine hj_null o dX3_mergeSort_3 ?_
  refine hj_castN o dX3_mergeSort_4 ?_
  refine hj_callSv [] [0] [] 4 o dX3_mergeSort_7 (k_ms_null l D dA d h n lo hi f hn hlo h1 hd) (lw_S q251 q252 q7 q253) (by decide +kernel) rfl ⟨by dsimp only [hj_rm]; omega, by dsimp only [hj_rm]; omega⟩ ⟨by dsimp only [hj_rm]; omega, by dsimp only [hj_rm]; omega⟩ rfl rfl (by decide) (by decide) (by decide) rfl (Nat.le_of_ble_eq_true rfl) (fun g hg => ?_)
  show J (0 + 1) (0 + hi) [hj_ar dA h n g] 10 [(0, .ref h), (1, .int (nI lo)), (2, .int (nI hi))] []
  exact hret _ _ _ 10 _ g [0] dX3_mergeSort_10 (by dsimp only [hj_rm]; omega) (by dsimp only [hj_rm]; omega) hg rfl rfl
end
section
/-! HeapLine$Order.compare, IntHeaps, IntArrays.grow. printed by gen_heap.py -/
theorem hj_lwF {own : String} {idx : Nat} {C : String} {x y : MethodName} {b : ByteArray} {L : Nat} {r : Option FieldType} (h1 : Cond.methodLink own idx x ∈ lw_all) (h2 : Cond.selects C x y ∈ lw_all) (h3 : Cond.instanceMethod y ∈ lw_all) (h4 : Cond.initialized y.cls ∈ lw_all) (h5 : Cond.code y b L r ∈ lw_all) : GoodIn lw_all (va_wsF own idx C x y (ws_ y b L r)) := by
  refine lw_app ?_ (lw_meth h5)
  intro w hw
  simp only [List.mem_cons, List.not_mem_nil, or_false] at hw
  rcases hw with e | e | e | e
  · rw [e]; exact h1
  · rw [e]; exact h2
  · rw [e]; exact h3
  · rw [e]; exact h4
section HG
variable {l : Launch} {R : Room} {D : va_G} {dA : ClassId} {own : String} {cc : ByteArray} {nL : Nat} {J : hj_JT} {cells slots pc : Nat} {ws : va_W} {lv : hj_L} {st : List Value}
theorem hj_minl {x y : Int64} {ix : Nat} (v : Int64) (o : hj_Ok l R D dA own cc nL J) (d : decode cc pc = .ok (.invokestatic ix, 3)) (q : Cond.methodLink own ix Lib.MathLoose.min_long.x ∈ lw_all) (hf : 1 ≤ R.frames) (hlo : (st.map fun v => v.category).sum + 15 ≤ R.locals) (hc : cells ≤ R.cells) (hs : slots ≤ R.slots) (hv : (if y < x then y else x) = v) (kk : J cells slots ws (pc + 3) lv (.long v :: st)) : J cells slots ws pc lv (.long y :: .long x :: st) := by
  obtain ⟨p, e, s, m, args, below, meth, c, A, Q, rfl, ⟨hx, hb, hml, hown, hts⟩, hK, hA, hX⟩ := o
  intro H locs ls hP hD hS hl
  subst hv
  exact va_mmin_long hx hb (hml.trans hl.1.symm) hown (hts _ q) (hts _ q82) (hts _ q9) (hts _ q83) hf hlo hc hs d (kk H locs ls hP hD hS hl)
theorem hj_maxl {x y : Int64} {ix : Nat} (v : Int64) (o : hj_Ok l R D dA own cc nL J) (d : decode cc pc = .ok (.invokestatic ix, 3)) (q : Cond.methodLink own ix Lib.MathLoose.max_long.x ∈ lw_all) (hf : 1 ≤ R.frames) (hlo : (st.map fun v => v.category).sum + 15 ≤ R.locals) (hc : cells ≤ R.cells) (hs : slots ≤ R.slots) (hv : (if y < x then x else y) = v) (kk : J cells slots ws (pc + 3) lv (.long v :: st)) : J cells slots ws pc lv (.long y :: .long x :: st) := by
  obtain ⟨p, e, s, m, args, below, meth, c, A, Q, rfl, ⟨hx, hb, hml, hown, hts⟩, hK, hA, hX⟩ := o
  intro H locs ls hP hD hS hl
  subst hv
  exact va_mmax_long hx hb (hml.trans hl.1.symm) hown (hts _ q) (hts _ q85) (hts _ q9) (hts _ q86) hf hlo hc hs d (kk H locs ls hP hD hS hl)
end HG
set_option maxHeartbeats 8000000 in
set_option maxRecDepth 100000 in
/-- HeapLine$Order.compare(x, y) -/
theorem k_ocmp (l : Launch) (D : va_G) (dA : ClassId) (ho : Nat) (x y : Int32) : hj_KI l yX2_compare cX2_compare 3 .int (hj_rm 0 0 0 0) D dA [.ref ho, .int x, .int y] [(ho, .inr (2, []))] (fun (r : Int32) (_ : Unit) => r = hz_cmp x y) (fun _ => [(ho, .inr (2, []))]) := by
  refine hj_introI (by decide) (Nat.le_of_ble_eq_true rfl) (fun J o hret => ?_)
  show J 0 0 [(ho, .inr (2, []))] 0 [(0, .ref ho), (1, .int x), (2, .int y)] []
  refine hj_iload_n o dX2_compare_0 1 rfl rfl ?_
  refine hj_iload_n o dX2_compare_1 2 rfl rfl ?_
  refine hj_icmp_ge 9 o dX2_compare_2 (by decide) (fun c1 => ?_) (fun c1 => ?_)
  · refine hj_iload_n o dX2_compare_9 1 rfl rfl ?_
    refine hj_iload_n o dX2_compare_10 2 rfl rfl ?_
    refine hj_icmp_le 18 o dX2_compare_11 (by decide) (fun c2 => ?_) (fun c2 => ?_)
    · refine hj_iconst (nI 0) o dX2_compare_18 (by decide) ?_
      exact hret 0 0 _ 19 _ _ () [0] dX2_compare_19 (Nat.le_refl _) (Nat.le_refl _) rfl (by unfold hz_cmp; rw [hz_le] at c1 c2; rw [if_neg (by rw [hz_lt]; omega), if_pos (Int32.toInt_inj.mp (by omega))]; rfl) rfl rfl
    · refine hj_iconst (nI 1) o dX2_compare_14 (by decide) ?_
      refine hj_goto 19 o dX2_compare_15 (by decide) ?_
      exact hret 0 0 _ 19 _ _ () [0] dX2_compare_19 (Nat.le_refl _) (Nat.le_refl _) rfl (by unfold hz_cmp; rw [hz_le] at c1 c2; rw [if_neg (by rw [hz_lt]; omega), if_neg (fun e => by rw [e] at c2; omega)]; rfl) rfl rfl
  · refine hj_iconst (-1) o dX2_compare_5 (by decide) ?_
    refine hj_goto 19 o dX2_compare_6 (by decide) ?_
    exact hret 0 0 _ 19 _ _ () [0] dX2_compare_19 (Nat.le_refl _) (Nat.le_refl _) rfl (by unfold hz_cmp; rw [if_pos (by rw [hz_lt]; rw [hz_le] at c1; omega)]) rfl rfl
set_option maxHeartbeats 8000000 in
set_option maxRecDepth 100000 in
theorem k_up_loop {l : Launch} {D : va_G} {dA : ClassId} {J : hj_JT} {R : Room} {hh ho n sz cells slots : Nat} {g0 : Nat → Int32} {e : Int32} (o : hj_Ok l R D dA RX5 cX5_upHeap 7 J) (hn : n < 2 ^ 30) (hz : sz ≤ n) (hR : 1 ≤ R.frames ∧ 22 ≤ R.locals) (hc : cells ≤ R.cells ∧ slots ≤ R.slots)
    (kont : ∀ (i : Nat) (g : Nat → Int32), i < sz → hz_sm g0 (upd g i e) 0 sz → hz_hp (upd g i e) sz → J cells slots [hj_ar dA hh n g, (ho, .inr (2, []))] 91 [(0, .ref hh), (1, .int (nI sz)), (2, .int (nI i)), (3, .ref ho), (4, .int e)] []) : ∀ (t i : Nat) (g : Nat → Int32), i < t → i < sz → hz_sm g0 (upd g i e) 0 sz → hz_up (upd g i e) sz i → J cells slots [hj_ar dA hh n g, (ho, .inr (2, []))] 47 [(0, .ref hh), (1, .int (nI sz)), (2, .int (nI i)), (3, .ref ho), (4, .int e)] [] := by
  intro t
  induction t with
  | zero => intro i g h1; omega
  | succ t ih =>
    intro i g ht hi hs hu
    refine hj_iload_n o dX5_upHeap_47 2 rfl rfl ?_
    refine hj_if_eq 91 o dX5_upHeap_48 (by decide) (fun c1 => ?_) (fun c1 => ?_)
    · have c1 : i = 0 := (nI_eq (b := 0) (by omega) (by decide)).mp c1
      exact kont i g hi hs (hz_up_done hu (Or.inl c1))
    · have c1 : 0 < i := Nat.pos_of_ne_zero (fun z => c1 (by rw [z]; exact nI_0))
      refine hj_iload_n o dX5_upHeap_51 2 rfl rfl ?_
      refine hj_iconst (nI 1) o dX5_upHeap_52 (by decide) ?_
      refine hj_isub_n o dX5_upHeap_53 (by omega) ?_
      refine hj_iconst (nI 1) o dX5_upHeap_54 (by decide) ?_
      refine hj_iushr_1 o dX5_upHeap_55 (by omega) ?_
      obtain ⟨p, hp⟩ : ∃ p, p = (i - 1) / 2 := ⟨_, rfl⟩
      rw [← hp]
      have e1 : upd g i e i = e := pk_us
      have e2 : upd g i e p = g p := pk_un (by omega)
      refine hj_istore [(0, .ref hh), (1, .int (nI sz)), (2, .int (nI i)), (3, .ref ho), (4, .int e), (5, .int (nI p))] o dX5_upHeap_56 (by decide) rfl ?_
      refine hj_aload_n o dX5_upHeap_58 0 rfl rfl ?_
      refine hj_iload o dX5_upHeap_59 5 rfl ?_
      refine hj_iald o dX5_upHeap_61 0 rfl (by omega) (by omega) ?_
      refine hj_istore [(0, .ref hh), (1, .int (nI sz)), (2, .int (nI i)), (3, .ref ho), (4, .int e), (5, .int (nI p)), (6, .int (g p))] o dX5_upHeap_62 (by decide) rfl ?_
      refine hj_aload_n o dX5_upHeap_64 3 rfl rfl ?_
      refine hj_iload o dX5_upHeap_65 6 rfl ?_
      refine hj_iload o dX5_upHeap_67 4 rfl ?_
      refine hj_callFi [hj_ar dA hh n g] [1] [0] 2 o dX5_upHeap_69 (k_ocmp l D dA ho (g p) (e)) (fun _ hX => hX.1) (hj_lwF q94 q98 q100 q6 q102) (by decide +kernel) rfl 1 rfl rfl ⟨hR.1, hR.2⟩ ⟨hc.1, hc.2⟩ rfl rfl (by decide) (by decide) (by decide) rfl (Nat.le_of_ble_eq_true rfl) (fun r _ er => ?_)
      show J cells slots [hj_ar dA hh n g, (ho, .inr (2, []))] 74 [(0, .ref hh), (1, .int (nI sz)), (2, .int (nI i)), (3, .ref ho), (4, .int e), (5, .int (nI p)), (6, .int (g p))] [.int r]
      refine hj_if_gt 80 o dX5_upHeap_74 (by decide) (fun c2 => ?_) (fun c2 => ?_)
      · rw [er] at c2
        have c2 := hz_cmp_gt c2
        refine hj_aload_n o dX5_upHeap_80 0 rfl rfl ?_
        refine hj_iload_n o dX5_upHeap_81 2 rfl rfl ?_
        refine hj_iload o dX5_upHeap_82 6 rfl ?_
        refine hj_iast [hj_ar dA hh n (upd g i ((g p))), (ho, .inr (2, []))] o dX5_upHeap_84 0 rfl (by omega) (by omega) rfl ?_
        refine hj_iload o dX5_upHeap_85 5 rfl ?_
        refine hj_istore_n [(0, .ref hh), (1, .int (nI sz)), (2, .int (nI p)), (3, .ref ho), (4, .int e), (5, .int (nI p)), (6, .int (g p))] o dX5_upHeap_87 rfl (by decide) rfl ?_
        refine hj_goto 47 o dX5_upHeap_88 (by decide) ?_
        refine hj_lv [(0, .ref hh), (1, .int (nI sz)), (2, .int (nI p)), (3, .ref ho), (4, .int e)] [0, 1, 2, 3, 4] o rfl ?_
        have hu2 := hz_up_step hu c1 hi hp.symm (by rw [e1, e2]; omega)
        rw [← hz_hole_eq (g := g) (i := p) (j := i) (t := e) (by omega)] at hu2
        exact ih p _ (by omega) (by omega) (hz_hole (by omega) (by omega) (by omega) (by omega) (by omega) hs) hu2
      · rw [er] at c2
        have c2 := hz_cmp_le c2
        refine hj_goto 91 o dX5_upHeap_77 (by decide) ?_
        refine hj_lv [(0, .ref hh), (1, .int (nI sz)), (2, .int (nI i)), (3, .ref ho), (4, .int e)] [0, 1, 2, 3, 4] o rfl ?_
        exact kont i g hi hs (hz_up_done hu (Or.inr (by rw [← hp, e1, e2]; exact c2)))
set_option maxHeartbeats 8000000 in
set_option maxRecDepth 100000 in
/-- IntHeaps.upHeap(heap, sz, i, c) -/
theorem k_up (l : Launch) (D : va_G) (dA : ClassId) (hh ho n sz i : Nat) (g : Nat → Int32) (hn : n < 2 ^ 30) (hz : sz ≤ n) (hi : i < sz) (hu : hz_up g sz i) : hj_KI l yX5_upHeap cX5_upHeap 7 .int (hj_rm 1 22 0 0) D dA [.ref hh, .int (nI sz), .int (nI i), .ref ho] [hj_ar dA hh n g, (ho, .inr (2, []))] (fun (_ : Int32) (u : Nat → Int32) => hz_sm g u 0 sz ∧ hz_hp u sz) (fun u => [hj_ar dA hh n u, (ho, .inr (2, []))]) := by
  refine hj_introI (by decide) (Nat.le_of_ble_eq_true rfl) (fun J o hret => ?_)
  show J 0 0 [hj_ar dA hh n g, (ho, .inr (2, []))] 0 [(0, .ref hh), (1, .int (nI sz)), (2, .int (nI i)), (3, .ref ho)] []
  refine hj_aload_n o dX5_upHeap_0 0 rfl rfl ?_
  refine hj_iload_n o dX5_upHeap_1 2 rfl rfl ?_
  refine hj_iald o dX5_upHeap_2 0 rfl (by omega) (by omega) ?_
  refine hj_istore [(0, .ref hh), (1, .int (nI sz)), (2, .int (nI i)), (3, .ref ho), (4, .int (g i))] o dX5_upHeap_3 (by decide) rfl ?_
  refine hj_aload_n o dX5_upHeap_5 3 rfl rfl ?_
  refine hj_ifnonnull 47 o dX5_upHeap_6 (by decide) ?_
  have e0 : upd g i (g i) = g := hz_upd_self g i
  refine k_up_loop (g0 := g) o hn hz ⟨Nat.le_of_ble_eq_true rfl, Nat.le_of_ble_eq_true rfl⟩ ⟨Nat.le_refl _, Nat.le_refl _⟩ (fun j u hj hs hp => ?_) (i + 1) i g (by omega) hi (by rw [e0]; exact hz_sm_rf _ _ _) (by rw [e0]; exact hu)
  refine hj_aload_n o dX5_upHeap_91 0 rfl rfl ?_
  refine hj_iload_n o dX5_upHeap_92 2 rfl rfl ?_
  refine hj_iload o dX5_upHeap_93 4 rfl ?_
  refine hj_iast [hj_ar dA hh n (upd u j ((g i))), (ho, .inr (2, []))] o dX5_upHeap_95 0 rfl (by omega) (by omega) rfl ?_
  refine hj_iload_n o dX5_upHeap_96 2 rfl rfl ?_
  exact hret 0 0 _ 97 _ _ _ [0, 1] dX5_upHeap_97 (Nat.le_refl _) (Nat.le_refl _) rfl ⟨hs, hp⟩ rfl rfl
set_option maxHeartbeats 8000000 in
set_option maxRecDepth 100000 in
theorem k_dn_loop {l : Launch} {D : va_G} {dA : ClassId} {J : hj_JT} {R : Room} {hh ho n sz cells slots : Nat} {g0 : Nat → Int32} {e : Int32} (o : hj_Ok l R D dA RX5 cX5_downHeap 8 J) (hn : n < 2 ^ 30) (hz : sz ≤ n) (hR : 1 ≤ R.frames ∧ 22 ≤ R.locals) (hc : cells ≤ R.cells ∧ slots ≤ R.slots)
    (kont : ∀ (i : Nat) (g : Nat → Int32), i < sz → hz_sm g0 (upd g i e) 0 sz → hz_hp (upd g i e) sz → J cells slots [hj_ar dA hh n g, (ho, .inr (2, []))] 159 [(0, .ref hh), (1, .int (nI sz)), (2, .int (nI i)), (3, .ref ho), (4, .int e)] []) : ∀ (t i : Nat) (g : Nat → Int32), sz - i < t → i < sz → hz_sm g0 (upd g i e) 0 sz → hz_dn (upd g i e) sz i → J cells slots [hj_ar dA hh n g, (ho, .inr (2, []))] 78 [(0, .ref hh), (1, .int (nI sz)), (2, .int (nI i)), (3, .ref ho), (4, .int e)] [] := by
  intro t
  induction t with
  | zero => intro i g h1; omega
  | succ t ih =>
    intro i g ht hi hs hu
    have e1 : upd g i e i = e := pk_us
    have e2 : ∀ k, k ≠ i → upd g i e k = g k := fun k hk => pk_un hk
    refine hj_iload_n o dX5_downHeap_78 2 rfl rfl ?_
    refine hj_iconst (nI 1) o dX5_downHeap_79 (by decide) ?_
    refine hj_ishl_1 o dX5_downHeap_80 (by omega) ?_
    refine hj_iconst (nI 1) o dX5_downHeap_81 (by decide) ?_
    refine hj_iadd_n o dX5_downHeap_82 ?_
    refine hj_dup o dX5_downHeap_83 rfl ?_
    refine hj_istore [(0, .ref hh), (1, .int (nI sz)), (2, .int (nI i)), (3, .ref ho), (4, .int e), (5, .int (nI ((2 * i) + 1)))] o dX5_downHeap_84 (by decide) rfl ?_
    refine hj_iload_n o dX5_downHeap_86 1 rfl rfl ?_
    refine hj_n_ge 159 o dX5_downHeap_87 (by decide) (by omega) (by omega) (fun c1 => ?_) (fun c1 => ?_)
    · refine hj_lv [(0, .ref hh), (1, .int (nI sz)), (2, .int (nI i)), (3, .ref ho), (4, .int e)] [0, 1, 2, 3, 4] o rfl ?_
      exact kont i g hi hs (hz_dn_done hu (fun k k1 k2 k3 => by omega))
    · have k132 : ∀ c : Nat, (c = 2 * i + 1 ∨ c = 2 * i + 2) → c < sz → (∀ k, 0 < k → k < sz → (k - 1) / 2 = i → (g c).toInt ≤ (g k).toInt) → J cells slots [hj_ar dA hh n g, (ho, .inr (2, []))] 132 [(0, .ref hh), (1, .int (nI sz)), (2, .int (nI i)), (3, .ref ho), (4, .int e), (5, .int (nI c)), (6, .int (g c))] [] := by
        intro c hc1 hc2 hc3
        refine hj_aload_n o dX5_downHeap_132 3 rfl rfl ?_
        refine hj_iload o dX5_downHeap_133 4 rfl ?_
        refine hj_iload o dX5_downHeap_135 6 rfl ?_
        refine hj_callFi [hj_ar dA hh n g] [1] [0] 2 o dX5_downHeap_137 (k_ocmp l D dA ho (e) (g c)) (fun _ hX => hX.1) (hj_lwF q94 q98 q100 q6 q102) (by decide +kernel) rfl 1 rfl rfl ⟨hR.1, hR.2⟩ ⟨hc.1, hc.2⟩ rfl rfl (by decide) (by decide) (by decide) rfl (Nat.le_of_ble_eq_true rfl) (fun r _ er => ?_)
        show J cells slots [hj_ar dA hh n g, (ho, .inr (2, []))] 142 [(0, .ref hh), (1, .int (nI sz)), (2, .int (nI i)), (3, .ref ho), (4, .int e), (5, .int (nI c)), (6, .int (g c))] [.int r]
        refine hj_if_gt 148 o dX5_downHeap_142 (by decide) (fun c2 => ?_) (fun c2 => ?_)
        · rw [er] at c2
          have c2 := hz_cmp_gt c2
          refine hj_aload_n o dX5_downHeap_148 0 rfl rfl ?_
          refine hj_iload_n o dX5_downHeap_149 2 rfl rfl ?_
          refine hj_iload o dX5_downHeap_150 6 rfl ?_
          refine hj_iast [hj_ar dA hh n (upd g i ((g c))), (ho, .inr (2, []))] o dX5_downHeap_152 0 rfl (by omega) (by omega) rfl ?_
          refine hj_iload o dX5_downHeap_153 5 rfl ?_
          refine hj_istore_n [(0, .ref hh), (1, .int (nI sz)), (2, .int (nI c)), (3, .ref ho), (4, .int e), (5, .int (nI c)), (6, .int (g c))] o dX5_downHeap_155 rfl (by decide) rfl ?_
          refine hj_goto 78 o dX5_downHeap_156 (by decide) ?_
          refine hj_lv [(0, .ref hh), (1, .int (nI sz)), (2, .int (nI c)), (3, .ref ho), (4, .int e)] [0, 1, 2, 3, 4] o rfl ?_
          have hu2 := hz_dn_step hu hc1 hc2 (fun k k1 k2 k3 => by rw [e2 c (by omega), e2 k (by omega)]; exact hc3 k k1 k2 k3) (by rw [e1, e2 c (by omega)]; omega)
          rw [← hz_hole_eq (g := g) (i := c) (j := i) (t := e) (by omega)] at hu2
          exact ih c _ (by omega) (by omega) (hz_hole (by omega) (by omega) (by omega) (by omega) (by omega) hs) hu2
        · rw [er] at c2
          have c2 := hz_cmp_le c2
          refine hj_goto 159 o dX5_downHeap_145 (by decide) ?_
          refine hj_lv [(0, .ref hh), (1, .int (nI sz)), (2, .int (nI i)), (3, .ref ho), (4, .int e)] [0, 1, 2, 3, 4] o rfl ?_
          exact kont i g hi hs (hz_dn_done hu (fun k k1 k2 k3 => by
            have := hc3 k k1 k2 k3
            rw [e1, e2 k (by omega)]
            omega))
      refine hj_aload_n o dX5_downHeap_90 0 rfl rfl ?_
      refine hj_iload o dX5_downHeap_91 5 rfl ?_
      refine hj_iald o dX5_downHeap_93 0 rfl (by omega) (by omega) ?_
      refine hj_istore [(0, .ref hh), (1, .int (nI sz)), (2, .int (nI i)), (3, .ref ho), (4, .int e), (5, .int (nI ((2 * i) + 1))), (6, .int (g ((2 * i) + 1)))] o dX5_downHeap_94 (by decide) rfl ?_
      refine hj_iload o dX5_downHeap_96 5 rfl ?_
      refine hj_iconst (nI 1) o dX5_downHeap_98 (by decide) ?_
      refine hj_iadd_n o dX5_downHeap_99 ?_
      refine hj_istore [(0, .ref hh), (1, .int (nI sz)), (2, .int (nI i)), (3, .ref ho), (4, .int e), (5, .int (nI ((2 * i) + 1))), (6, .int (g ((2 * i) + 1))), (7, .int (nI (((2 * i) + 1) + 1)))] o dX5_downHeap_100 (by decide) rfl ?_
      refine hj_iload o dX5_downHeap_102 7 rfl ?_
      refine hj_iload_n o dX5_downHeap_104 1 rfl rfl ?_
      refine hj_n_ge 132 o dX5_downHeap_105 (by decide) (by omega) (by omega) (fun c2 => ?_) (fun c2 => ?_)
      · refine hj_lv [(0, .ref hh), (1, .int (nI sz)), (2, .int (nI i)), (3, .ref ho), (4, .int e), (5, .int (nI ((2 * i) + 1))), (6, .int (g ((2 * i) + 1)))] [0, 1, 2, 3, 4, 5, 6] o rfl ?_
        exact k132 (2 * i + 1) (by omega) (by omega) (fun k k1 k2 k3 => by rw [show k = 2 * i + 1 by omega]; exact Int.le_refl _)
      · refine hj_aload_n o dX5_downHeap_108 3 rfl rfl ?_
        refine hj_aload_n o dX5_downHeap_109 0 rfl rfl ?_
        refine hj_iload o dX5_downHeap_110 7 rfl ?_
        refine hj_iald o dX5_downHeap_112 0 rfl (by omega) (by omega) ?_
        refine hj_iload o dX5_downHeap_113 6 rfl ?_
        refine hj_callFi [hj_ar dA hh n g] [1] [0] 2 o dX5_downHeap_115 (k_ocmp l D dA ho (g (2 * i + 1 + 1)) (g (2 * i + 1))) (fun _ hX => hX.1) (hj_lwF q94 q98 q100 q6 q102) (by decide +kernel) rfl 1 rfl rfl ⟨hR.1, hR.2⟩ ⟨hc.1, hc.2⟩ rfl rfl (by decide) (by decide) (by decide) rfl (Nat.le_of_ble_eq_true rfl) (fun r _ er => ?_)
        show J cells slots [hj_ar dA hh n g, (ho, .inr (2, []))] 120 [(0, .ref hh), (1, .int (nI sz)), (2, .int (nI i)), (3, .ref ho), (4, .int e), (5, .int (nI ((2 * i) + 1))), (6, .int (g ((2 * i) + 1))), (7, .int (nI (((2 * i) + 1) + 1)))] [.int r]
        refine hj_if_ge 132 o dX5_downHeap_120 (by decide) (fun c3 => ?_) (fun c3 => ?_)
        · rw [er, hz_cmp_nn, hz_lt] at c3
          refine hj_lv [(0, .ref hh), (1, .int (nI sz)), (2, .int (nI i)), (3, .ref ho), (4, .int e), (5, .int (nI ((2 * i) + 1))), (6, .int (g ((2 * i) + 1)))] [0, 1, 2, 3, 4, 5, 6] o rfl ?_
          exact k132 (2 * i + 1) (by omega) (by omega) (fun k k1 k2 k3 => by
            rcases (show k = 2 * i + 1 ∨ k = 2 * i + 1 + 1 by omega) with q | q
            · rw [q]; exact Int.le_refl _
            · rw [q]; omega)
        · rw [er, hz_cmp_nn, Classical.not_not, hz_lt] at c3
          refine hj_aload_n o dX5_downHeap_123 0 rfl rfl ?_
          refine hj_iload o dX5_downHeap_124 7 rfl ?_
          refine hj_dup o dX5_downHeap_126 rfl ?_
          refine hj_istore [(0, .ref hh), (1, .int (nI sz)), (2, .int (nI i)), (3, .ref ho), (4, .int e), (5, .int (nI (((2 * i) + 1) + 1))), (6, .int (g ((2 * i) + 1))), (7, .int (nI (((2 * i) + 1) + 1)))] o dX5_downHeap_127 (by decide) rfl ?_
          refine hj_iald o dX5_downHeap_129 0 rfl (by omega) (by omega) ?_
          refine hj_istore [(0, .ref hh), (1, .int (nI sz)), (2, .int (nI i)), (3, .ref ho), (4, .int e), (5, .int (nI (((2 * i) + 1) + 1))), (6, .int (g (((2 * i) + 1) + 1))), (7, .int (nI (((2 * i) + 1) + 1)))] o dX5_downHeap_130 (by decide) rfl ?_
          refine hj_lv [(0, .ref hh), (1, .int (nI sz)), (2, .int (nI i)), (3, .ref ho), (4, .int e), (5, .int (nI (((2 * i) + 1) + 1))), (6, .int (g (((2 * i) + 1) + 1)))] [0, 1, 2, 3, 4, 5, 6] o rfl ?_
          exact k132 (2 * i + 1 + 1) (by omega) (by omega) (fun k k1 k2 k3 => by
            rcases (show k = 2 * i + 1 ∨ k = 2 * i + 1 + 1 by omega) with q | q
            · rw [q]; omega
            · rw [q]; exact Int.le_refl _)
set_option maxHeartbeats 8000000 in
set_option maxRecDepth 100000 in
/-- IntHeaps.downHeap(heap, sz, i, c) -/
theorem k_dn (l : Launch) (D : va_G) (dA : ClassId) (hh ho n sz i : Nat) (g : Nat → Int32) (hn : n < 2 ^ 30) (hz : sz ≤ n) (hi : i < sz) (hu : hz_dn g sz i) : hj_KI l yX5_downHeap cX5_downHeap 8 .int (hj_rm 1 22 0 0) D dA [.ref hh, .int (nI sz), .int (nI i), .ref ho] [hj_ar dA hh n g, (ho, .inr (2, []))] (fun (_ : Int32) (u : Nat → Int32) => hz_sm g u 0 sz ∧ hz_hp u sz) (fun u => [hj_ar dA hh n u, (ho, .inr (2, []))]) := by
  refine hj_introI (by decide) (Nat.le_of_ble_eq_true rfl) (fun J o hret => ?_)
  show J 0 0 [hj_ar dA hh n g, (ho, .inr (2, []))] 0 [(0, .ref hh), (1, .int (nI sz)), (2, .int (nI i)), (3, .ref ho)] []
  refine hj_aload_n o dX5_downHeap_0 0 rfl rfl ?_
  refine hj_iload_n o dX5_downHeap_1 2 rfl rfl ?_
  refine hj_iald o dX5_downHeap_2 0 rfl (by omega) (by omega) ?_
  refine hj_istore [(0, .ref hh), (1, .int (nI sz)), (2, .int (nI i)), (3, .ref ho), (4, .int (g i))] o dX5_downHeap_3 (by decide) rfl ?_
  refine hj_aload_n o dX5_downHeap_5 3 rfl rfl ?_
  refine hj_ifnonnull 78 o dX5_downHeap_6 (by decide) ?_
  have e0 : upd g i (g i) = g := hz_upd_self g i
  refine k_dn_loop (g0 := g) o hn hz ⟨Nat.le_of_ble_eq_true rfl, Nat.le_of_ble_eq_true rfl⟩ ⟨Nat.le_refl _, Nat.le_refl _⟩ (fun j u hj hs hp => ?_) (sz - i + 1) i g (by omega) hi (by rw [e0]; exact hz_sm_rf _ _ _) (by rw [e0]; exact hu)
  refine hj_aload_n o dX5_downHeap_159 0 rfl rfl ?_
  refine hj_iload_n o dX5_downHeap_160 2 rfl rfl ?_
  refine hj_iload o dX5_downHeap_161 4 rfl ?_
  refine hj_iast [hj_ar dA hh n (upd u j ((g i))), (ho, .inr (2, []))] o dX5_downHeap_163 0 rfl (by omega) (by omega) rfl ?_
  refine hj_iload_n o dX5_downHeap_164 2 rfl rfl ?_
  exact hret 0 0 _ 165 _ _ _ [0, 1] dX5_downHeap_165 (Nat.le_refl _) (Nat.le_refl _) rfl ⟨hs, hp⟩ rfl rfl
/-- the length that grow gives -/
def hz_gl (n m : Nat) : Nat := if m < n + n / 2 then n + n / 2 else m
set_option maxHeartbeats 8000000 in
set_option maxRecDepth 100000 in
/-- IntArrays.grow(a, m, a.length), m above its length -/
theorem k_grow2 (l : Launch) (D : va_G) (dA : ClassId) (h n m : Nat) (f : Nat → Int32) (hm : m < 2 ^ 20) (hnm : n < m) : hj_KR l yX3_grow_2 cX3_grow_2 5 (hj_rm 1 64 1 (hz_gl n m)) D dA [.ref h, .int (nI m), .int (nI n)] [hj_ar dA h n f] (fun g : Nat → Int32 => ∀ k, k < n → g k = f k) (fun g a => [hj_ar dA h n f, hj_ar dA a (hz_gl n m) g]) := by
  refine hj_introR (by decide) (Nat.le_of_ble_eq_true rfl) (fun J o hret => ?_)
  have hg : n < hz_gl n m ∧ hz_gl n m < 2 ^ 21 := by unfold hz_gl; split <;> omega
  show J 0 0 [hj_ar dA h n f] 0 [(0, .ref h), (1, .int (nI m)), (2, .int (nI n))] []
  refine hj_iload_n o dX3_grow_2_0 1 rfl rfl ?_
  refine hj_aload_n o dX3_grow_2_1 0 rfl rfl ?_
  refine hj_alen o dX3_grow_2_2 0 rfl ?_
  refine hj_n_le 45 o dX3_grow_2_3 (by decide) (by omega) (by omega) (fun c1 => ?_) (fun c1 => ?_)
  · omega
  · refine hj_aload_n o dX3_grow_2_6 0 rfl rfl ?_
    refine hj_alen o dX3_grow_2_7 0 rfl ?_
    refine hj_i2l (lN n) o dX3_grow_2_8 (nI_l (by omega)) ?_
    refine hj_aload_n o dX3_grow_2_9 0 rfl rfl ?_
    refine hj_alen o dX3_grow_2_10 0 rfl ?_
    refine hj_iconst (nI 1) o dX3_grow_2_11 (by decide) ?_
    refine hj_ishr_1 o dX3_grow_2_12 (by omega) ?_
    refine hj_i2l (lN (n / 2)) o dX3_grow_2_13 (nI_l (by omega)) ?_
    refine hj_ladd_e (lN (n + n / 2)) o dX3_grow_2_14 (lN_add _ _) ?_
    refine hj_ldc2 o dX3_grow_2_15 q80 ?_
    refine hj_minl (lN (n + n / 2)) o dX3_grow_2_18 q81 (Nat.le_refl _) (Nat.le_of_ble_eq_true rfl) (Nat.zero_le _) (Nat.zero_le _) (if_neg (fun q => by have q1 := (pk_lLT (a := 2147483639) (by decide) (by omega)).mp q; omega)) ?_
    refine hj_iload_n o dX3_grow_2_21 1 rfl rfl ?_
    refine hj_i2l (lN m) o dX3_grow_2_22 (nI_l (by omega)) ?_
    refine hj_maxl (lN (hz_gl n m)) o dX3_grow_2_23 q84 (Nat.le_refl _) (Nat.le_of_ble_eq_true rfl) (Nat.zero_le _) (Nat.zero_le _) (by
      unfold hz_gl
      by_cases c : m < n + n / 2
      · rw [if_pos c, if_pos ((lN_lt (by omega) (by omega)).mpr c)]
      · rw [if_neg c, if_neg (fun q => c ((lN_lt (by omega) (by omega)).mp q))]) ?_
    refine hj_l2i (nI (hz_gl n m)) o dX3_grow_2_26 (lN_i _) ?_
    refine hj_istore_n [(0, .ref h), (1, .int (nI m)), (2, .int (nI n)), (3, .int (nI (hz_gl n m)))] o dX3_grow_2_27 rfl (by decide) rfl ?_
    refine hj_iload_n o dX3_grow_2_28 3 rfl rfl ?_
    refine hj_newa o dX3_grow_2_29 (by omega) (Nat.le_refl _) (by dsimp only [hj_rm]; omega) (fun q => ?_)
    show J 1 (0 + hz_gl n m) [hj_ar dA h n f, hj_ar dA q (hz_gl n m) (fun _ => 0)] 31 [(0, .ref h), (1, .int (nI m)), (2, .int (nI n)), (3, .int (nI (hz_gl n m)))] [.ref q]
    refine hj_astore [(0, .ref h), (1, .int (nI m)), (2, .int (nI n)), (3, .int (nI (hz_gl n m))), (4, .ref q)] o dX3_grow_2_31 (by decide) rfl ?_
    refine hj_aload_n o dX3_grow_2_33 0 rfl rfl ?_
    refine hj_iconst (nI 0) o dX3_grow_2_34 (by decide) ?_
    refine hj_aload o dX3_grow_2_35 4 rfl ?_
    refine hj_iconst (nI 0) o dX3_grow_2_37 (by decide) ?_
    refine hj_iload_n o dX3_grow_2_38 2 rfl rfl ?_
    refine hj_copyi [hj_ar dA h n f, hj_ar dA q (hz_gl n m) (va_cpy f (fun _ => 0) 0 0 n)] o dX3_grow_2_39 q87 0 1 rfl rfl (by omega) (by omega) (by omega) (by omega) (Nat.le_refl _) (Nat.le_of_ble_eq_true rfl) rfl ?_
    refine hj_aload o dX3_grow_2_42 4 rfl ?_
    exact hret _ _ _ 44 _ q _ [0, 1] dX3_grow_2_44 (Nat.le_refl _) (by dsimp only [hj_rm]; omega) (fun k hk => by rw [sb_cpy0 hk]) rfl rfl
set_option maxHeartbeats 8000000 in
set_option maxRecDepth 100000 in
/-- IntArrays.grow(a, m), m above its length -/
theorem k_grow (l : Launch) (D : va_G) (dA : ClassId) (h n m : Nat) (f : Nat → Int32) (hm : m < 2 ^ 20) (hnm : n < m) : hj_KR l yX3_grow cX3_grow 2 (hj_rm 2 96 1 (hz_gl n m)) D dA [.ref h, .int (nI m)] [hj_ar dA h n f] (fun g : Nat → Int32 => ∀ k, k < n → g k = f k) (fun g a => [hj_ar dA h n f, hj_ar dA a (hz_gl n m) g]) := by
  refine hj_introR (by decide) (Nat.le_of_ble_eq_true rfl) (fun J o hret => ?_)
  show J 0 0 [hj_ar dA h n f] 0 [(0, .ref h), (1, .int (nI m))] []
  refine hj_aload_n o dX3_grow_0 0 rfl rfl ?_
  refine hj_iload_n o dX3_grow_1 1 rfl rfl ?_
  refine hj_aload_n o dX3_grow_2 0 rfl rfl ?_
  refine hj_alen o dX3_grow_3 0 rfl ?_
  refine hj_callSr [] [0] [] 3 o dX3_grow_4 (k_grow2 l D dA h n m f hm hnm) (lw_S q77 q78 q7 q79) (by decide +kernel) rfl ⟨by dsimp only [hj_rm]; omega, by dsimp only [hj_rm]; omega⟩ ⟨by dsimp only [hj_rm]; omega, by dsimp only [hj_rm]; omega⟩ rfl rfl (by decide) (by decide) (by decide) rfl (Nat.le_of_ble_eq_true rfl) (fun g q hg => ?_)
  show J (0 + 1) (0 + hz_gl n m) [hj_ar dA h n f, hj_ar dA q (hz_gl n m) g] 7 [(0, .ref h), (1, .int (nI m))] [.ref q]
  exact hret _ _ _ 7 _ q g [0, 1] dX3_grow_7 (by dsimp only [hj_rm]; omega) (by dsimp only [hj_rm]; omega) hg rfl rfl
end
section
/-! IntHeapPriorityQueue, OwnPriorityQueue.isEmpty. printed by gen_queue.py -/
section HD
variable {p : Program} {l : Launch} {e : Env} {R : Room} {s : State} {m : MethodId} {args : Array Value} {below : List Frame} {meth : Method} {c : Code} {H : Heap} {locs : List Loc} {cells slots : Nat}
/-- invokevirtual of a method that is an interface's default -/
theorem hj_runD {x y : MethodName} {bytes cc : ByteArray} {maxL nL mc ms n index : Nat} {ret : Option FieldType} {ws : List Cond} {rm : Room} {Pc : Array Value → State → Prop} {Qc : Array Value → State → Outcome → State → Prop} {free : Addr → Prop} {Ts : List Cond} {own C owner : String} {b : Addr} {As rest : List Value} {g : JFrame}
    (S : CallFix p m c cc nL s args Ts own) (hM : Met l y ws rm Pc Qc mc ms free) (hrc : rm.cells = mc) (hrs : rm.slots = ms) (hfr : rm.frames + 1 ≤ R.frames) (hlo : 8 + (maxL + 11) + rm.locals ≤ R.locals) (hws : ∀ w ∈ ws, ∀ (a' : Array Value) (U : State), s.WarmedH U.vm → w.before a' U = true) (hcw : Cond.code y bytes maxL ret ∈ ws) (hini : (Cond.initialized y.cls).before args s = true)
    (hlink : (Cond.methodLink own index x).before args s = true) (hsame : (Cond.sameMethod x.cls owner x.name x.desc).before args s = true) (hdecl : (Cond.declares ⟨owner, x.name, x.desc⟩).before args s = true) (howner : owner ≠ "java/lang/invoke/MethodHandle" ∧ owner ≠ "java/lang/invoke/VarHandle") (hsel : (Cond.landsInDefault C x y).before args s = true) (hinst : (Cond.instanceMethod y).before args s = true)
    (hlen : ∀ sig, parseMethodDescriptor x.desc = some sig → n = sig.parameters.length) (hp : PreV s H C b Pc As)
    (hg : g.method = m) (hn : As.length = n) (hsize : g.locals.size = nL) (hstack : g.stack = As.reverse ++ .ref b :: rest) (hW : 2 * g.monitorRoom + (rest.map fun v => v.category).sum ≤ 8) (hdg : decode cc g.pc = .ok (.invokevirtual index, 3)) (hf : cells + mc ≤ R.cells ∧ slots + ms ≤ R.slots) :
    va_Run p l e R s m args below meth c H locs cells slots mc ms g rest (Qc (Value.ref b :: As).toArray) (free) := by
  have hK : Back l R p e below s args y 3 8 (PreOf R mc ms Pc) (PostOf Qc mc ms free) := back_of (bytes := bytes) (maxL := maxL) (ret := ret) hM hp.1 hrc hrs hfr hlo hws hcw (fun a' U hW => word_at hW (Or.inl (by first | rfl | simp [Cond.onTables, Cond.keeps, Cond.steady])) hini)
  obtain ⟨hx, hb, hml, ho, -⟩ := S
  obtain ⟨-, ⟨cellB, hcB, hoB, hclB⟩, hPc⟩ := hp
  intro T hT X
  obtain ⟨v, vm₁, ⟨U', l2, c2, s2⟩, hW₁, X', ⟨g', mk, t, L, e1, e2, hq, h1, hL, h2, h3⟩, st⟩ := X.virtualBackUpD hx (C := C) (owner := owner) ho hlink hsame hdecl howner hsel hinst hK hclB ⟨cellB, by rw [hT]; exact hcB, rfl, hoB⟩ hg (hsize.trans hml.symm) (s₀ := T.setTop g) (Steps.refl _) (argsL := As) (rest := rest) (fun sig h => hn.trans (hlen sig h)) hstack hW (by rw [hb]; exact hdg)
    (fun vm₁ hW₁ => ⟨hf.1, hf.2, hPc (T.setVm vm₁) hT hW₁⟩)
  dsimp only [Pt.U, Pt.locs, Pt.cells, Pt.slots] at X' e1 e2 h1 h2 h3 st
  subst h1; subst h2; subst h3
  exact ⟨v, (T.setVm vm₁).calling g' mk (Value.ref b :: As).toArray, t, U', L, hT, X', hL, e1, e2, hq, fun target h => st.trans h⟩
end HD
section HE
variable {l : Launch} {R : Room} {D : va_G} {dA : ClassId} {cc : ByteArray} {nL : Nat} {J : hj_JT} {cells slots pc : Nat} {ws : va_W} {lv : hj_L} {st : List Value}
/-- HeapLine's call of isEmpty on its queue -/
theorem hj_callE {b : Nat} {fs : List Value} {r0 : Int32} {rm : Room} {rest : List Value} (wr : va_W) (isC isR : List Nat) (o : hj_Ok l R D dA RX0 cc nL J) (d : decode cc pc = .ok (.invokevirtual 33, 3)) (hM : hj_KI l yX6_isEmpty cX6_isEmpty 1 .boolean rm D dA [.ref b] [(b, .inr (1, fs))] (fun (r : Int32) (_ : Unit) => r = r0) (fun _ => [(b, .inr (1, fs))])) (q0 : Nat) (hb0 : ws[q0]? = some (b, .inr (1, fs)))
    (hR : rm.frames + 1 ≤ R.frames ∧ 8 + (1 + 11) + rm.locals ≤ R.locals) (hf : cells + rm.cells ≤ R.cells ∧ slots + rm.slots ≤ R.slots) (hC : isC.map (fun i => ws[i]?) = ([(b, .inr (1, fs))] : va_W).map some) (hRr : isR.map (fun i => ws[i]?) = wr.map some) (hnC : va_nd isC = true) (hnR : va_nd isR = true) (hdis : ∀ i ∈ isR, i ∉ isC) (hrm : (rest.map fun v => v.category).sum ≤ 8) (kk : J (cells + rm.cells) (slots + rm.slots) (wr ++ [(b, .inr (1, fs))]) (pc + 3) lv (.int r0 :: rest)) : J cells slots ws pc lv (.ref b :: rest) := by
  obtain ⟨p, e, s, m, args, below, meth, c, A, Q, rfl, ⟨hx, hb, hml, hown, hts⟩, hK, hA, hX⟩ := o
  intro H locs ls hP hD hS hl
  have hPc := hP.sub isC (hj_fm hC)
  have hDc := hD.sub isC hnC hC
  have hFc := va_free (wc := [(b, .inr (1, fs))]) hD hS hA isC hC
  have hX2 := hX
  obtain ⟨-, -, w3, w4, w5, w6, -⟩ := hX2
  have hlen : ∀ sig, parseMethodDescriptor hj_xE.desc = some sig → 0 = sig.parameters.length := by
    intro sig h
    have h2 : (parseMethodDescriptor hj_xE.desc).map (fun d => d.parameters.length) = some 0 := by decide +kernel
    rw [h] at h2
    exact (Option.some.inj h2).symm
  refine va_calli (hj_runD (x := hj_xE) (owner := "OwnPriorityQueue") (C := RX1) (bytes := cX6_isEmpty) (maxL := 1) (ret := some .boolean) (n := 0) (ws := ws_ yX6_isEmpty cX6_isEmpty 1 (some .boolean)) (As := []) (rest := rest) ⟨hx, hb, hml, hown, hts⟩ (hM H.size) rfl rfl hR.1 hR.2 (pay_in hts (lw_meth q111)) List.mem_cons_self (hts _ q354) (va_Nw.use rfl w3) (va_Nw.use rfl w4) (va_Nw.use rfl w6) (by decide) (by have h1 : (Cond.landsInDefault RX1 hj_xE hj_yE).before #[] s = true := w5; exact h1) (hts _ q109) hlen ⟨hj_blind, va_recv hK hP (ci := 1) (q0 := q0) rfl hb0, fun U hU hW => ⟨rfl, by rw [hU], by rw [hU]; exact hPc, va_K.moved hW.alike hK, hDc.weaken (fun _ _ _ _ => trivial), hj_XX_warm hW hX⟩⟩ rfl rfl hl.1 rfl (lv_room hrm) d hf) hS (fun q _ h => hFc q h) hFc (fun r u t H1 locs ht hvm hp hB hz1 hk1 hS => ?_)
  subst hp
  obtain ⟨hP1, hK1, hD1⟩ := hB
  rw [ht] at hP1
  obtain ⟨hP, hD⟩ := va_join (wr := wr) (w1 := [(b, .inr (1, fs))]) hP hD isC isR hC hRr hnR hdis hk1 hFc hP1 hD1
  exact kk H1 locs ls hP hD hS hl
end HE
set_option maxHeartbeats 8000000 in
set_option maxRecDepth 100000 in
/-- IntHeapPriorityQueue.size() -/
theorem k_qsize (l : Launch) (D : va_G) (dA : ClassId) (hq hh ho n : Nat) : hj_KI l yX1_size cX1_size 1 .int (hj_rm 0 0 0 0) D dA [.ref hq] [(hq, .inr (1, [.ref hh, .int (nI n), .ref ho]))] (fun (r : Int32) (_ : Unit) => r = nI n) (fun _ => [(hq, .inr (1, [.ref hh, .int (nI n), .ref ho]))]) := by
  refine hj_introI (by decide) (Nat.le_of_ble_eq_true rfl) (fun J o hret => ?_)
  show J 0 0 [(hq, .inr (1, [.ref hh, .int (nI n), .ref ho]))] 0 [(0, .ref hq)] []
  refine hj_aload_n o dX1_size_0 0 rfl rfl ?_
  refine hj_get o dX1_size_1 in_X1 1 q42 0 rfl rfl (by decide) rfl ?_
  exact hret 0 0 _ 4 _ _ () [0] dX1_size_4 (Nat.le_refl _) (Nat.le_refl _) rfl rfl rfl rfl
set_option maxHeartbeats 8000000 in
set_option maxRecDepth 100000 in
/-- IntHeapPriorityQueue.clear() -/
theorem k_qclear (l : Launch) (D : va_G) (dA : ClassId) (hq hh ho n : Nat) : hj_KV l yX1_clear cX1_clear 1 (hj_rm 0 0 0 0) D dA [.ref hq] [(hq, .inr (1, [.ref hh, .int (nI n), .ref ho]))] (fun _ : Unit => True) (fun _ => [(hq, .inr (1, [.ref hh, .int (nI 0), .ref ho]))]) := by
  refine hj_introV (by decide) (Nat.le_of_ble_eq_true rfl) (fun J o hret => ?_)
  show J 0 0 [(hq, .inr (1, [.ref hh, .int (nI n), .ref ho]))] 0 [(0, .ref hq)] []
  refine hj_aload_n o dX1_clear_0 0 rfl rfl ?_
  refine hj_iconst (nI 0) o dX1_clear_1 (by decide) ?_
  refine hj_putf (ty := .int) [(hq, .inr (1, [.ref hh, .int (nI 0), .ref ho]))] tyX1 o dX1_clear_2 in_X1 tyX1_ok nmX1 1 q42 0 rfl rfl (by decide) rfl (by decide +kernel) rfl rfl (Nat.le_of_ble_eq_true rfl) rfl ?_
  exact hret 0 0 _ 5 _ () [0] dX1_clear_5 (Nat.le_refl _) (Nat.le_refl _) trivial rfl rfl
set_option maxHeartbeats 8000000 in
set_option maxRecDepth 100000 in
/-- OwnPriorityQueue.isEmpty() on a queue -/
theorem k_qempty (l : Launch) (D : va_G) (dA : ClassId) (hq hh ho n : Nat) (hn : n < 2 ^ 31) : hj_KI l yX6_isEmpty cX6_isEmpty 1 .boolean (hj_rm 1 20 0 0) D dA [.ref hq] [(hq, .inr (1, [.ref hh, .int (nI n), .ref ho]))] (fun (r : Int32) (_ : Unit) => r = if n = 0 then 1 else 0) (fun _ => [(hq, .inr (1, [.ref hh, .int (nI n), .ref ho]))]) := by
  refine hj_introI (by decide) (Nat.le_of_ble_eq_true rfl) (fun J o hret => ?_)
  show J 0 0 [(hq, .inr (1, [.ref hh, .int (nI n), .ref ho]))] 0 [(0, .ref hq)] []
  refine hj_aload_n o dX6_isEmpty_0 0 rfl rfl ?_
  refine hj_callFi [] [0] [] 0 o dX6_isEmpty_1 (k_qsize l D dA hq hh ho n) (fun _ hX => hX.2.1) (hj_lwF q113 q117 q67 q5 q69) (by decide +kernel) rfl 0 rfl rfl ⟨Nat.le_of_ble_eq_true rfl, Nat.le_of_ble_eq_true rfl⟩ ⟨Nat.le_of_ble_eq_true rfl, Nat.le_of_ble_eq_true rfl⟩ rfl rfl (by decide) (by decide) (by decide) rfl (Nat.le_of_ble_eq_true rfl) (fun r _ er => ?_)
  show J 0 0 [(hq, .inr (1, [.ref hh, .int (nI n), .ref ho]))] 6 [(0, .ref hq)] [.int r]
  subst er
  refine hj_if_ne 13 o dX6_isEmpty_6 (by decide) (fun c1 => ?_) (fun c1 => ?_)
  · refine hj_iconst (nI 0) o dX6_isEmpty_13 (by decide) ?_
    exact hret 0 0 _ 14 _ _ () [0] dX6_isEmpty_14 (Nat.le_refl _) (Nat.le_refl _) rfl (by rw [if_neg (fun z => c1 (by rw [z]; exact nI_0))]; rfl) rfl rfl
  · refine hj_iconst (nI 1) o dX6_isEmpty_9 (by decide) ?_
    refine hj_goto 14 o dX6_isEmpty_10 (by decide) ?_
    exact hret 0 0 _ 14 _ _ () [0] dX6_isEmpty_14 (Nat.le_refl _) (Nat.le_refl _) rfl (by rw [if_pos ((nI_eq (b := 0) hn (by decide)).mp c1)]; rfl) rfl rfl
set_option maxHeartbeats 8000000 in
set_option maxRecDepth 100000 in
/-- IntHeapPriorityQueue.firstInt() of a queue that isn't empty -/
theorem k_qfirst (l : Launch) (D : va_G) (dA : ClassId) (hq hh ho n len : Nat) (g : Nat → Int32) (h0 : 0 < n) (hn : n ≤ len) (hl : len < 2 ^ 30) : hj_KI l yX1_firstInt cX1_firstInt 1 .int (hj_rm 0 0 0 0) D dA [.ref hq] [(hq, .inr (1, [.ref hh, .int (nI n), .ref ho])), hj_ar dA hh len g] (fun (r : Int32) (_ : Unit) => r = g 0) (fun _ => [(hq, .inr (1, [.ref hh, .int (nI n), .ref ho])), hj_ar dA hh len g]) := by
  refine hj_introI (by decide) (Nat.le_of_ble_eq_true rfl) (fun J o hret => ?_)
  show J 0 0 [(hq, .inr (1, [.ref hh, .int (nI n), .ref ho])), hj_ar dA hh len g] 0 [(0, .ref hq)] []
  refine hj_aload_n o dX1_firstInt_0 0 rfl rfl ?_
  refine hj_get o dX1_firstInt_1 in_X1 1 q42 0 rfl rfl (by decide) rfl ?_
  refine hj_if_ne 15 o dX1_firstInt_4 (by decide) (fun c1 => ?_) (fun c1 => ?_)
  · refine hj_aload_n o dX1_firstInt_15 0 rfl rfl ?_
    refine hj_get o dX1_firstInt_16 in_X1 0 q41 0 rfl rfl (by decide) rfl ?_
    refine hj_iconst (nI 0) o dX1_firstInt_19 (by decide) ?_
    refine hj_iald o dX1_firstInt_20 1 rfl (by omega) (by omega) ?_
    exact hret 0 0 _ 21 _ _ () [0, 1] dX1_firstInt_21 (Nat.le_refl _) (Nat.le_refl _) rfl rfl rfl rfl
  · exact absurd c1 (nI_ne0 h0 (by omega))
set_option maxHeartbeats 8000000 in
set_option maxRecDepth 100000 in
/-- IntHeapPriorityQueue.dequeueInt() of a queue with m + 1 values -/
theorem k_qdeq (l : Launch) (D : va_G) (dA : ClassId) (hq hh ho m len : Nat) (g : Nat → Int32) (hn : m + 1 ≤ len) (hl : len < 2 ^ 30) (hp : hz_hp g (m + 1)) : hj_KI l yX1_dequeueInt cX1_dequeueInt 2 .int (hj_rm 2 49 0 0) D dA [.ref hq] [(hq, .inr (1, [.ref hh, .int (nI (m + 1)), .ref ho])), hj_ar dA hh len g, (ho, .inr (2, []))] (fun (r : Int32) (u : Nat → Int32) => r = g 0 ∧ hz_hp u m ∧ ∀ P : Int32 → Bool, hz_ct P u m + (if P (g 0) then 1 else 0) = hz_ct P g (m + 1)) (fun u => [(hq, .inr (1, [.ref hh, .int (nI m), .ref ho])), hj_ar dA hh len u, (ho, .inr (2, []))]) := by
  refine hj_introI (by decide) (Nat.le_of_ble_eq_true rfl) (fun J o hret => ?_)
  have hct := hz_ct_take (f := g) (n := m) (b := 0) (by omega)
  show J 0 0 [(hq, .inr (1, [.ref hh, .int (nI (m + 1)), .ref ho])), hj_ar dA hh len g, (ho, .inr (2, []))] 0 [(0, .ref hq)] []
  refine hj_aload_n o dX1_dequeueInt_0 0 rfl rfl ?_
  refine hj_get o dX1_dequeueInt_1 in_X1 1 q42 0 rfl rfl (by decide) rfl ?_
  refine hj_if_ne 15 o dX1_dequeueInt_4 (by decide) (fun c1 => ?_) (fun c1 => ?_)
  · refine hj_aload_n o dX1_dequeueInt_15 0 rfl rfl ?_
    refine hj_get o dX1_dequeueInt_16 in_X1 0 q41 0 rfl rfl (by decide) rfl ?_
    refine hj_iconst (nI 0) o dX1_dequeueInt_19 (by decide) ?_
    refine hj_iald o dX1_dequeueInt_20 1 rfl (by omega) (by omega) ?_
    refine hj_istore_n [(0, .ref hq), (1, .int (g 0))] o dX1_dequeueInt_21 rfl (by decide) rfl ?_
    refine hj_aload_n o dX1_dequeueInt_22 0 rfl rfl ?_
    refine hj_get o dX1_dequeueInt_23 in_X1 0 q41 0 rfl rfl (by decide) rfl ?_
    refine hj_iconst (nI 0) o dX1_dequeueInt_26 (by decide) ?_
    refine hj_aload_n o dX1_dequeueInt_27 0 rfl rfl ?_
    refine hj_get o dX1_dequeueInt_28 in_X1 0 q41 0 rfl rfl (by decide) rfl ?_
    refine hj_aload_n o dX1_dequeueInt_31 0 rfl rfl ?_
    refine hj_dup o dX1_dequeueInt_32 rfl ?_
    refine hj_get o dX1_dequeueInt_33 in_X1 1 q42 0 rfl rfl (by decide) rfl ?_
    refine hj_iconst (nI 1) o dX1_dequeueInt_36 (by decide) ?_
    refine hj_isub_e (nI m) o dX1_dequeueInt_37  (nI_pred m) ?_
    refine hj_dup_x1 o dX1_dequeueInt_38 rfl rfl ?_
    refine hj_putf (ty := .int) [(hq, .inr (1, [.ref hh, .int (nI m), .ref ho])), hj_ar dA hh len g, (ho, .inr (2, []))] tyX1 o dX1_dequeueInt_39 in_X1 tyX1_ok nmX1 1 q42 0 rfl rfl (by decide) rfl (by decide +kernel) rfl rfl (Nat.le_of_ble_eq_true rfl) rfl ?_
    refine hj_iald o dX1_dequeueInt_42 1 rfl (by omega) (by omega) ?_
    refine hj_iast [(hq, .inr (1, [.ref hh, .int (nI m), .ref ho])), hj_ar dA hh len (upd g 0 ((g m))), (ho, .inr (2, []))] o dX1_dequeueInt_43 1 rfl (by omega) (by omega) rfl ?_
    refine hj_aload_n o dX1_dequeueInt_44 0 rfl rfl ?_
    refine hj_get o dX1_dequeueInt_45 in_X1 1 q42 0 rfl rfl (by decide) rfl ?_
    refine hj_if_eq 68 o dX1_dequeueInt_48 (by decide) (fun c2 => ?_) (fun c2 => ?_)
    · have c2 : m = 0 := (nI_eq (b := 0) (by omega) (by decide)).mp c2
      refine hj_iload_n o dX1_dequeueInt_68 1 rfl rfl ?_
      exact hret 0 0 _ 69 _ _ (upd g 0 (g m)) [0, 1, 2] dX1_dequeueInt_69 (Nat.le_refl _) (Nat.le_refl _) rfl ⟨rfl, fun k k1 k2 => by omega, hct⟩ rfl rfl
    · have c2 : 0 < m := Nat.pos_of_ne_zero (fun z => c2 (by rw [z]; exact nI_0))
      refine hj_aload_n o dX1_dequeueInt_51 0 rfl rfl ?_
      refine hj_get o dX1_dequeueInt_52 in_X1 0 q41 0 rfl rfl (by decide) rfl ?_
      refine hj_aload_n o dX1_dequeueInt_55 0 rfl rfl ?_
      refine hj_get o dX1_dequeueInt_56 in_X1 1 q42 0 rfl rfl (by decide) rfl ?_
      refine hj_iconst (nI 0) o dX1_dequeueInt_59 (by decide) ?_
      refine hj_aload_n o dX1_dequeueInt_60 0 rfl rfl ?_
      refine hj_get o dX1_dequeueInt_61 in_X1 2 q43 0 rfl rfl (by decide) rfl ?_
      refine hj_callSi [(hq, .inr (1, [.ref hh, .int (nI m), .ref ho]))] [1, 2] [0] 4 o dX1_dequeueInt_64 (k_dn l D dA hh ho len m 0 (upd g 0 (g m)) hl (by omega) c2 (hz_dn_0 _ (fun k k1 k2 => hp k k1 (by omega)))) (lw_S q185 q186 q11 q187) (by decide +kernel) rfl ⟨Nat.le_of_ble_eq_true rfl, Nat.le_of_ble_eq_true rfl⟩ ⟨Nat.le_of_ble_eq_true rfl, Nat.le_of_ble_eq_true rfl⟩ rfl rfl (by decide) (by decide) (by decide) rfl (Nat.le_of_ble_eq_true rfl) (fun r u hu => ?_)
      show J 0 0 [(hq, .inr (1, [.ref hh, .int (nI m), .ref ho])), hj_ar dA hh len u, (ho, .inr (2, []))] 67 [(0, .ref hq), (1, .int (g 0))] [.int r]
      refine hj_pop o dX1_dequeueInt_67 rfl ?_
      refine hj_iload_n o dX1_dequeueInt_68 1 rfl rfl ?_
      exact hret 0 0 _ 69 _ _ u [0, 1, 2] dX1_dequeueInt_69 (Nat.le_refl _) (Nat.le_refl _) rfl ⟨rfl, hu.2, fun P => by rw [hu.1.2 P]; exact hct P⟩ rfl rfl
  · exact absurd c1 (nI_ne0 (by omega) (by omega))
set_option maxHeartbeats 8000000 in
set_option maxRecDepth 100000 in
/-- IntHeapPriorityQueue.enqueue(x), below 4096 values -/
theorem k_qenq (l : Launch) (D : va_G) (dA : ClassId) (hq hh ho n len : Nat) (g : Nat → Int32) (x : Int32) (h4 : n < 4096) (hn : n ≤ len) (hl : len ≤ 6144) (hp : hz_hp g n) : hj_KV l yX1_enqueue cX1_enqueue 2 (hj_rm 3 128 1 6144) D dA [.ref hq, .int x] [(hq, .inr (1, [.ref hh, .int (nI n), .ref ho])), hj_ar dA hh len g, (ho, .inr (2, []))] (fun u : Nat × Nat × (Nat → Int32) => n + 1 ≤ u.2.1 ∧ u.2.1 ≤ 6144 ∧ hz_hp u.2.2 (n + 1) ∧ ∀ P : Int32 → Bool, hz_ct P u.2.2 (n + 1) = hz_ct P g n + (if P x then 1 else 0)) (fun u => [(hq, .inr (1, [.ref u.1, .int (nI (n + 1)), .ref ho])), hj_ar dA u.1 u.2.1 u.2.2, (ho, .inr (2, []))]) := by
  refine hj_introV (by decide) (Nat.le_of_ble_eq_true rfl) (fun J o hret => ?_)
  have k29 : ∀ (h1 len1 : Nat) (g1 : Nat → Int32), n < len1 → len1 ≤ 6144 → (∀ k, k < n → g1 k = g k) → J 1 6144 [(hq, .inr (1, [.ref h1, .int (nI n), .ref ho])), hj_ar dA h1 len1 g1, (ho, .inr (2, []))] 29 [(0, .ref hq), (1, .int x)] [] := by
    intro h1 len1 g1 q1 q2 q3
    refine hj_aload_n o dX1_enqueue_29 0 rfl rfl ?_
    refine hj_get o dX1_enqueue_30 in_X1 0 q41 0 rfl rfl (by decide) rfl ?_
    refine hj_aload_n o dX1_enqueue_33 0 rfl rfl ?_
    refine hj_dup o dX1_enqueue_34 rfl ?_
    refine hj_get o dX1_enqueue_35 in_X1 1 q42 0 rfl rfl (by decide) rfl ?_
    refine hj_dup_x1 o dX1_enqueue_38 rfl rfl ?_
    refine hj_iconst (nI 1) o dX1_enqueue_39 (by decide) ?_
    refine hj_iadd_n o dX1_enqueue_40 ?_
    refine hj_putf (ty := .int) [(hq, .inr (1, [.ref h1, .int (nI (n + 1)), .ref ho])), hj_ar dA h1 len1 g1, (ho, .inr (2, []))] tyX1 o dX1_enqueue_41 in_X1 tyX1_ok nmX1 1 q42 0 rfl rfl (by decide) rfl (by decide +kernel) rfl rfl (Nat.le_of_ble_eq_true rfl) rfl ?_
    refine hj_iload_n o dX1_enqueue_44 1 rfl rfl ?_
    refine hj_iast [(hq, .inr (1, [.ref h1, .int (nI (n + 1)), .ref ho])), hj_ar dA h1 len1 (upd g1 n x), (ho, .inr (2, []))] o dX1_enqueue_45 1 rfl (by omega) (by omega) rfl ?_
    refine hj_aload_n o dX1_enqueue_46 0 rfl rfl ?_
    refine hj_get o dX1_enqueue_47 in_X1 0 q41 0 rfl rfl (by decide) rfl ?_
    refine hj_aload_n o dX1_enqueue_50 0 rfl rfl ?_
    refine hj_get o dX1_enqueue_51 in_X1 1 q42 0 rfl rfl (by decide) rfl ?_
    refine hj_aload_n o dX1_enqueue_54 0 rfl rfl ?_
    refine hj_get o dX1_enqueue_55 in_X1 1 q42 0 rfl rfl (by decide) rfl ?_
    refine hj_iconst (nI 1) o dX1_enqueue_58 (by decide) ?_
    refine hj_isub_e (nI n) o dX1_enqueue_59  (nI_pred n) ?_
    refine hj_aload_n o dX1_enqueue_60 0 rfl rfl ?_
    refine hj_get o dX1_enqueue_61 in_X1 2 q43 0 rfl rfl (by decide) rfl ?_
    refine hj_callSi [(hq, .inr (1, [.ref h1, .int (nI (n + 1)), .ref ho]))] [1, 2] [0] 4 o dX1_enqueue_64 (k_up l D dA h1 ho len1 (n + 1) n (upd g1 n x) (by omega) (by omega) (by omega) (hz_up_0 x (hz_hp_cong hp q3))) (lw_S q90 q91 q11 q92) (by decide +kernel) rfl ⟨Nat.le_of_ble_eq_true rfl, Nat.le_of_ble_eq_true rfl⟩ ⟨Nat.le_of_ble_eq_true rfl, Nat.le_of_ble_eq_true rfl⟩ rfl rfl (by decide) (by decide) (by decide) rfl (Nat.le_of_ble_eq_true rfl) (fun r u hu => ?_)
    show J 1 6144 [(hq, .inr (1, [.ref h1, .int (nI (n + 1)), .ref ho])), hj_ar dA h1 len1 u, (ho, .inr (2, []))] 67 [(0, .ref hq), (1, .int x)] [.int r]
    refine hj_pop o dX1_enqueue_67 rfl ?_
    exact hret _ _ _ 68 _ (h1, len1, u) [0, 1, 2] dX1_enqueue_68 (Nat.le_refl _) (Nat.le_refl _) ⟨q1, q2, hu.2, fun P => by
      rw [hu.1.2 P, hz_ct_succ, hz_ct_updo (Nat.le_refl n), pk_us, hz_ct_cong q3]⟩ rfl rfl
  show J 0 0 [(hq, .inr (1, [.ref hh, .int (nI n), .ref ho])), hj_ar dA hh len g, (ho, .inr (2, []))] 0 [(0, .ref hq), (1, .int x)] []
  refine hj_aload_n o dX1_enqueue_0 0 rfl rfl ?_
  refine hj_get o dX1_enqueue_1 in_X1 1 q42 0 rfl rfl (by decide) rfl ?_
  refine hj_aload_n o dX1_enqueue_4 0 rfl rfl ?_
  refine hj_get o dX1_enqueue_5 in_X1 0 q41 0 rfl rfl (by decide) rfl ?_
  refine hj_alen o dX1_enqueue_8 1 rfl ?_
  refine hj_n_ne 29 o dX1_enqueue_9 (by decide) (by omega) (by omega) (fun c1 => ?_) (fun c1 => ?_)
  · refine hj_widen (k := 1) (n := 6144) o (Nat.zero_le _) (Nat.zero_le _) ?_
    exact k29 hh len g (by omega) hl (fun _ _ => rfl)
  · subst c1
    have hgl : hz_gl n (n + 1) ≤ 6144 ∧ n < hz_gl n (n + 1) := by unfold hz_gl; split <;> omega
    refine hj_aload_n o dX1_enqueue_12 0 rfl rfl ?_
    refine hj_aload_n o dX1_enqueue_13 0 rfl rfl ?_
    refine hj_get o dX1_enqueue_14 in_X1 0 q41 0 rfl rfl (by decide) rfl ?_
    refine hj_aload_n o dX1_enqueue_17 0 rfl rfl ?_
    refine hj_get o dX1_enqueue_18 in_X1 1 q42 0 rfl rfl (by decide) rfl ?_
    refine hj_iconst (nI 1) o dX1_enqueue_21 (by decide) ?_
    refine hj_iadd_n o dX1_enqueue_22 ?_
    refine hj_callSr [(hq, .inr (1, [.ref hh, .int (nI n), .ref ho])), (ho, .inr (2, []))] [1] [0, 2] 2 o dX1_enqueue_23 (k_grow l D dA hh n (n + 1) g (by omega) (by omega)) (lw_S q74 q75 q7 q76) (by decide +kernel) rfl ⟨by dsimp only [hj_rm]; omega, by dsimp only [hj_rm]; omega⟩ ⟨by dsimp only [hj_rm]; omega, by dsimp only [hj_rm]; omega⟩ rfl rfl (by decide) (by decide) (by decide) rfl (Nat.le_of_ble_eq_true rfl) (fun g1 h1 hg1 => ?_)
    show J (0 + 1) (0 + hz_gl n (n + 1)) [(hq, .inr (1, [.ref hh, .int (nI n), .ref ho])), (ho, .inr (2, [])), hj_ar dA hh n g, hj_ar dA h1 (hz_gl n (n + 1)) g1] 26 [(0, .ref hq), (1, .int x)] [.ref h1, .ref hq]
    refine hj_putf (ty := (.array .int)) [(hq, .inr (1, [.ref h1, .int (nI n), .ref ho])), (ho, .inr (2, [])), hj_ar dA hh n g, hj_ar dA h1 (hz_gl n (n + 1)) g1] tyX1 o dX1_enqueue_26 in_X1 tyX1_ok nmX1 0 q41 0 rfl rfl (by decide) rfl (by decide +kernel) rfl rfl (Nat.le_of_ble_eq_true rfl) rfl ?_
    refine hj_pick [(hq, .inr (1, [.ref h1, .int (nI n), .ref ho])), hj_ar dA h1 (hz_gl n (n + 1)) g1, (ho, .inr (2, []))] [0, 3, 1] o rfl rfl ?_
    refine hj_widen (k := 1) (n := 6144) o (Nat.le_refl _) (by omega) ?_
    exact k29 h1 _ g1 hgl.2 hgl.1 hg1
end
section
/-! HeapLineModel. printed by gen_model.py -/
/-- x & 2147483647 -/
def hz_p (x : Int32) : Nat := x.toBitVec.toNat % 2 ^ 31
theorem hz_p_lt (x : Int32) : hz_p x < 2 ^ 31 := Nat.mod_lt _ (by decide)
theorem hz_p_and (x : Int32) : x &&& 2147483647 = nI (hz_p x) := pk_and x 31 (by decide)
/-- how many rows a ramp lays -/
def hz_rn (many : Int32) (sz : Nat) : Nat := min (hz_p many % 257) (4096 - sz)
/-- the rows behind a ramp's first i -/
def hz_rp (r : Nat → Int32) (sz i : Nat) (first step : Int32) : Nat → Int32 := fun k => if sz ≤ k ∧ k < sz + i then first + nI (k - sz) * step else r k
theorem hz_rp_0 (r : Nat → Int32) (sz : Nat) (first step : Int32) : hz_rp r sz 0 first step = r := funext fun k => if_neg (by omega)
theorem hz_rp_succ (r : Nat → Int32) (sz i : Nat) (first step : Int32) : upd (hz_rp r sz i first step) (sz + i) (first + nI i * step) = hz_rp r sz (i + 1) first step := by
  funext k
  rw [hz_upd_eq]
  unfold hz_rp
  by_cases e : k = sz + i
  · rw [if_pos e, if_pos (by omega), e, show sz + i - sz = i by omega]
  · rw [if_neg e]
    by_cases c : sz ≤ k ∧ k < sz + i
    · rw [if_pos c, if_pos (by omega)]
    · rw [if_neg c, if_neg (by omega)]
theorem hz_rp_v (first step : Int32) (i : Nat) : first + nI i * step + step = first + nI (i + 1) * step := by
  rw [nI_succ]; grind
/-- where a sort begins, how many it sorts -/
def hz_of (at_ : Int32) (sz : Nat) : Nat := hz_p at_ % (sz + 1)
def hz_on (many : Int32) (sz f : Nat) : Nat := hz_p many % (sz - f + 1)
theorem hz_of_le (at_ : Int32) (sz : Nat) : hz_of at_ sz ≤ sz := Nat.le_of_lt_succ (Nat.mod_lt _ (by omega))
theorem hz_on_le (many : Int32) (sz f : Nat) : hz_on many sz f ≤ sz - f := Nat.le_of_lt_succ (Nat.mod_lt _ (by omega))
set_option maxHeartbeats 8000000 in
set_option maxRecDepth 100000 in
theorem k_best_loop {l : Launch} {D : va_G} {dA : ClassId} {J : hj_JT} {R : Room} {hm hk hr cnt sz cells slots : Nat} {k : Nat → Int32} (o : hj_Ok l R D dA RX4 cX4_best 3 J) (hc : cnt ≤ 4096)
    (kont : ∀ b, hz_min k 0 cnt b → J cells slots [(hm, .inr (3, [.ref hk, .int (nI cnt), .ref hr, .int (nI sz)])), hj_ar dA hk 4096 k] 35 [(0, .ref hm), (1, .int (nI b)), (2, .int (nI cnt))] []) : ∀ (t i b : Nat), cnt - i < t → i ≤ cnt → hz_min k 0 i b → J cells slots [(hm, .inr (3, [.ref hk, .int (nI cnt), .ref hr, .int (nI sz)])), hj_ar dA hk 4096 k] 4 [(0, .ref hm), (1, .int (nI b)), (2, .int (nI i))] [] := by
  intro t
  induction t with
  | zero => intro i b h1; omega
  | succ t ih =>
    intro i b ht hi hb
    have hb2 := hb.2.1
    refine hj_iload_n o dX4_best_4 2 rfl rfl ?_
    refine hj_aload_n o dX4_best_5 0 rfl rfl ?_
    refine hj_get o dX4_best_6 in_X4 1 q287 0 rfl rfl (by decide) rfl ?_
    refine hj_n_ge 35 o dX4_best_9 (by decide) (by omega) (by omega) (fun c1 => ?_) (fun c1 => ?_)
    · have e : i = cnt := by omega
      subst e
      exact kont b hb
    · refine hj_aload_n o dX4_best_12 0 rfl rfl ?_
      refine hj_get o dX4_best_13 in_X4 0 q286 0 rfl rfl (by decide) rfl ?_
      refine hj_iload_n o dX4_best_16 2 rfl rfl ?_
      refine hj_iald o dX4_best_17 1 rfl (by omega) (by omega) ?_
      refine hj_aload_n o dX4_best_18 0 rfl rfl ?_
      refine hj_get o dX4_best_19 in_X4 0 q286 0 rfl rfl (by decide) rfl ?_
      refine hj_iload_n o dX4_best_22 1 rfl rfl ?_
      refine hj_iald o dX4_best_23 1 rfl (by omega) (by omega) ?_
      refine hj_icmp_ge 29 o dX4_best_24 (by decide) (fun c2 => ?_) (fun c2 => ?_)
      · refine hj_iinc_n [(0, .ref hm), (1, .int (nI b)), (2, .int (nI (i + 1)))] o dX4_best_29 2 rfl (by decide) rfl ?_
        refine hj_goto 4 o dX4_best_32 (by decide) ?_
        exact ih (i + 1) b (by omega) (by omega) (hz_min_n hb (by rw [hz_lt]; rw [hz_le] at c2; omega))
      · refine hj_iload_n o dX4_best_27 2 rfl rfl ?_
        refine hj_istore_n [(0, .ref hm), (1, .int (nI i)), (2, .int (nI i))] o dX4_best_28 rfl (by decide) rfl ?_
        refine hj_iinc_n [(0, .ref hm), (1, .int (nI i)), (2, .int (nI (i + 1)))] o dX4_best_29 2 rfl (by decide) rfl ?_
        refine hj_goto 4 o dX4_best_32 (by decide) ?_
        exact ih (i + 1) i (by omega) (by omega) (hz_min_y hb (by rw [hz_lt]; rw [hz_le] at c2; omega))
set_option maxHeartbeats 8000000 in
set_option maxRecDepth 100000 in
/-- HeapLineModel.best(), with keys in it -/
theorem k_best (l : Launch) (D : va_G) (dA : ClassId) (hm hk hr cnt sz : Nat) (k : Nat → Int32) (h0 : 0 < cnt) (hc : cnt ≤ 4096) : hj_KI l yX4_best cX4_best 3 .int (hj_rm 0 0 0 0) D dA [.ref hm] [(hm, .inr (3, [.ref hk, .int (nI cnt), .ref hr, .int (nI sz)])), hj_ar dA hk 4096 k] (fun (r : Int32) (u : Nat) => r = nI u ∧ hz_min k 0 cnt u) (fun _ => [(hm, .inr (3, [.ref hk, .int (nI cnt), .ref hr, .int (nI sz)])), hj_ar dA hk 4096 k]) := by
  refine hj_introI (by decide) (Nat.le_of_ble_eq_true rfl) (fun J o hret => ?_)
  show J 0 0 [(hm, .inr (3, [.ref hk, .int (nI cnt), .ref hr, .int (nI sz)])), hj_ar dA hk 4096 k] 0 [(0, .ref hm)] []
  refine hj_iconst (nI 0) o dX4_best_0 (by decide) ?_
  refine hj_istore_n [(0, .ref hm), (1, .int (nI 0))] o dX4_best_1 rfl (by decide) rfl ?_
  refine hj_iconst (nI 1) o dX4_best_2 (by decide) ?_
  refine hj_istore_n [(0, .ref hm), (1, .int (nI 0)), (2, .int (nI 1))] o dX4_best_3 rfl (by decide) rfl ?_
  refine k_best_loop o hc (fun b hb => ?_) (cnt + 1) 1 0 (by omega) (by omega) (hz_min_0 k 0)
  refine hj_iload_n o dX4_best_35 1 rfl rfl ?_
  exact hret 0 0 _ 36 _ _ b [0, 1] dX4_best_36 (Nat.le_refl _) (Nat.le_refl _) rfl ⟨rfl, hb⟩ rfl rfl
set_option maxHeartbeats 8000000 in
set_option maxRecDepth 100000 in
/-- HeapLineModel.add(x), not full -/
theorem k_madd (l : Launch) (D : va_G) (dA : ClassId) (hm hk hr cnt sz : Nat) (k : Nat → Int32) (x : Int32) (hc : cnt < 4096) : hj_KI l yX4_add cX4_add 2 .boolean (hj_rm 0 0 0 0) D dA [.ref hm, .int x] [(hm, .inr (3, [.ref hk, .int (nI cnt), .ref hr, .int (nI sz)])), hj_ar dA hk 4096 k] (fun (r : Int32) (_ : Unit) => r = 1) (fun _ => [(hm, .inr (3, [.ref hk, .int (nI (cnt + 1)), .ref hr, .int (nI sz)])), hj_ar dA hk 4096 (upd k cnt x)]) := by
  refine hj_introI (by decide) (Nat.le_of_ble_eq_true rfl) (fun J o hret => ?_)
  show J 0 0 [(hm, .inr (3, [.ref hk, .int (nI cnt), .ref hr, .int (nI sz)])), hj_ar dA hk 4096 k] 0 [(0, .ref hm), (1, .int x)] []
  refine hj_aload_n o dX4_add_0 0 rfl rfl ?_
  refine hj_get o dX4_add_1 in_X4 1 q287 0 rfl rfl (by decide) rfl ?_
  refine hj_sipush (nI 4096) o dX4_add_4 (by decide) ?_
  refine hj_n_lt 12 o dX4_add_7 (by decide) (by omega) (by omega) (fun c1 => ?_) (fun c1 => ?_)
  · refine hj_aload_n o dX4_add_12 0 rfl rfl ?_
    refine hj_get o dX4_add_13 in_X4 0 q286 0 rfl rfl (by decide) rfl ?_
    refine hj_aload_n o dX4_add_16 0 rfl rfl ?_
    refine hj_get o dX4_add_17 in_X4 1 q287 0 rfl rfl (by decide) rfl ?_
    refine hj_iload_n o dX4_add_20 1 rfl rfl ?_
    refine hj_iast [(hm, .inr (3, [.ref hk, .int (nI cnt), .ref hr, .int (nI sz)])), hj_ar dA hk 4096 (upd k cnt x)] o dX4_add_21 1 rfl (by omega) (by omega) rfl ?_
    refine hj_aload_n o dX4_add_22 0 rfl rfl ?_
    refine hj_aload_n o dX4_add_23 0 rfl rfl ?_
    refine hj_get o dX4_add_24 in_X4 1 q287 0 rfl rfl (by decide) rfl ?_
    refine hj_iconst (nI 1) o dX4_add_27 (by decide) ?_
    refine hj_iadd_n o dX4_add_28 ?_
    refine hj_putf (ty := .int) [(hm, .inr (3, [.ref hk, .int (nI (cnt + 1)), .ref hr, .int (nI sz)])), hj_ar dA hk 4096 (upd k cnt x)] tyX4 o dX4_add_29 in_X4 tyX4_ok nmX4 1 q287 0 rfl rfl (by decide) rfl (by decide +kernel) rfl rfl (Nat.le_of_ble_eq_true rfl) rfl ?_
    refine hj_iconst (nI 1) o dX4_add_32 (by decide) ?_
    exact hret 0 0 _ 33 _ _ () [0, 1] dX4_add_33 (Nat.le_refl _) (Nat.le_refl _) rfl rfl rfl rfl
  · omega
set_option maxHeartbeats 8000000 in
set_option maxRecDepth 100000 in
/-- HeapLineModel.add(x), full -/
theorem k_madd_full (l : Launch) (D : va_G) (dA : ClassId) (hm hk hr cnt sz : Nat) (x : Int32) (hc : 4096 ≤ cnt) (hc2 : cnt < 2 ^ 30) : hj_KI l yX4_add cX4_add 2 .boolean (hj_rm 0 0 0 0) D dA [.ref hm, .int x] [(hm, .inr (3, [.ref hk, .int (nI cnt), .ref hr, .int (nI sz)]))] (fun (r : Int32) (_ : Unit) => r = 0) (fun _ => [(hm, .inr (3, [.ref hk, .int (nI cnt), .ref hr, .int (nI sz)]))]) := by
  refine hj_introI (by decide) (Nat.le_of_ble_eq_true rfl) (fun J o hret => ?_)
  show J 0 0 [(hm, .inr (3, [.ref hk, .int (nI cnt), .ref hr, .int (nI sz)]))] 0 [(0, .ref hm), (1, .int x)] []
  refine hj_aload_n o dX4_add_0 0 rfl rfl ?_
  refine hj_get o dX4_add_1 in_X4 1 q287 0 rfl rfl (by decide) rfl ?_
  refine hj_sipush (nI 4096) o dX4_add_4 (by decide) ?_
  refine hj_n_lt 12 o dX4_add_7 (by decide) (by omega) (by omega) (fun c1 => ?_) (fun c1 => ?_)
  · omega
  · refine hj_iconst (nI 0) o dX4_add_10 (by decide) ?_
    exact hret 0 0 _ 11 _ _ () [0] dX4_add_11 (Nat.le_refl _) (Nat.le_refl _) rfl rfl rfl rfl
set_option maxHeartbeats 8000000 in
set_option maxRecDepth 100000 in
/-- HeapLineModel.take(), empty -/
theorem k_mtake0 (l : Launch) (D : va_G) (dA : ClassId) (hm hk hr sz : Nat) : hj_KI l yX4_take cX4_take 3 .int (hj_rm 1 22 0 0) D dA [.ref hm] [(hm, .inr (3, [.ref hk, .int (nI 0), .ref hr, .int (nI sz)]))] (fun (r : Int32) (_ : Unit) => r = 0) (fun _ => [(hm, .inr (3, [.ref hk, .int (nI 0), .ref hr, .int (nI sz)]))]) := by
  refine hj_introI (by decide) (Nat.le_of_ble_eq_true rfl) (fun J o hret => ?_)
  show J 0 0 [(hm, .inr (3, [.ref hk, .int (nI 0), .ref hr, .int (nI sz)]))] 0 [(0, .ref hm)] []
  refine hj_aload_n o dX4_take_0 0 rfl rfl ?_
  refine hj_get o dX4_take_1 in_X4 1 q287 0 rfl rfl (by decide) rfl ?_
  refine hj_if_ne 9 o dX4_take_4 (by decide) (fun c1 => ?_) (fun c1 => ?_)
  · exact absurd nI_0 c1
  · refine hj_iconst (nI 0) o dX4_take_7 (by decide) ?_
    exact hret 0 0 _ 8 _ _ () [0] dX4_take_8 (Nat.le_refl _) (Nat.le_refl _) rfl rfl rfl rfl
set_option maxHeartbeats 8000000 in
set_option maxRecDepth 100000 in
/-- HeapLineModel.take() of c + 1 keys -/
theorem k_mtake (l : Launch) (D : va_G) (dA : ClassId) (hm hk hr c sz : Nat) (k : Nat → Int32) (hc : c + 1 ≤ 4096) : hj_KI l yX4_take cX4_take 3 .int (hj_rm 1 22 0 0) D dA [.ref hm] [(hm, .inr (3, [.ref hk, .int (nI (c + 1)), .ref hr, .int (nI sz)])), hj_ar dA hk 4096 k] (fun (r : Int32) (u : Nat) => r = k u ∧ hz_min k 0 (c + 1) u) (fun u => [(hm, .inr (3, [.ref hk, .int (nI c), .ref hr, .int (nI sz)])), hj_ar dA hk 4096 (upd k u (k c))]) := by
  refine hj_introI (by decide) (Nat.le_of_ble_eq_true rfl) (fun J o hret => ?_)
  show J 0 0 [(hm, .inr (3, [.ref hk, .int (nI (c + 1)), .ref hr, .int (nI sz)])), hj_ar dA hk 4096 k] 0 [(0, .ref hm)] []
  refine hj_aload_n o dX4_take_0 0 rfl rfl ?_
  refine hj_get o dX4_take_1 in_X4 1 q287 0 rfl rfl (by decide) rfl ?_
  refine hj_if_ne 9 o dX4_take_4 (by decide) (fun c1 => ?_) (fun c1 => ?_)
  · refine hj_aload_n o dX4_take_9 0 rfl rfl ?_
    refine hj_callVi [] [0, 1] [] 0 o dX4_take_10 (k_best l D dA hm hk hr (c + 1) sz k (by omega) hc) (lw_V q307 q309 qs1 q8 q310) (by decide +kernel) rfl 0 rfl rfl ⟨Nat.le_of_ble_eq_true rfl, Nat.le_of_ble_eq_true rfl⟩ ⟨Nat.le_of_ble_eq_true rfl, Nat.le_of_ble_eq_true rfl⟩ rfl rfl (by decide) (by decide) (by decide) rfl (Nat.le_of_ble_eq_true rfl) (fun r u hu => ?_)
    show J 0 0 [(hm, .inr (3, [.ref hk, .int (nI (c + 1)), .ref hr, .int (nI sz)])), hj_ar dA hk 4096 k] 13 [(0, .ref hm)] [.int r]
    obtain ⟨rfl, hu⟩ := hu
    have hu2 := hu.2.1
    refine hj_istore_n [(0, .ref hm), (1, .int (nI u))] o dX4_take_13 rfl (by decide) rfl ?_
    refine hj_aload_n o dX4_take_14 0 rfl rfl ?_
    refine hj_get o dX4_take_15 in_X4 0 q286 0 rfl rfl (by decide) rfl ?_
    refine hj_iload_n o dX4_take_18 1 rfl rfl ?_
    refine hj_iald o dX4_take_19 1 rfl (by omega) (by omega) ?_
    refine hj_istore_n [(0, .ref hm), (1, .int (nI u)), (2, .int (k u))] o dX4_take_20 rfl (by decide) rfl ?_
    refine hj_aload_n o dX4_take_21 0 rfl rfl ?_
    refine hj_aload_n o dX4_take_22 0 rfl rfl ?_
    refine hj_get o dX4_take_23 in_X4 1 q287 0 rfl rfl (by decide) rfl ?_
    refine hj_iconst (nI 1) o dX4_take_26 (by decide) ?_
    refine hj_isub_e (nI c) o dX4_take_27  (nI_pred c) ?_
    refine hj_putf (ty := .int) [(hm, .inr (3, [.ref hk, .int (nI c), .ref hr, .int (nI sz)])), hj_ar dA hk 4096 k] tyX4 o dX4_take_28 in_X4 tyX4_ok nmX4 1 q287 0 rfl rfl (by decide) rfl (by decide +kernel) rfl rfl (Nat.le_of_ble_eq_true rfl) rfl ?_
    refine hj_aload_n o dX4_take_31 0 rfl rfl ?_
    refine hj_get o dX4_take_32 in_X4 0 q286 0 rfl rfl (by decide) rfl ?_
    refine hj_iload_n o dX4_take_35 1 rfl rfl ?_
    refine hj_aload_n o dX4_take_36 0 rfl rfl ?_
    refine hj_get o dX4_take_37 in_X4 0 q286 0 rfl rfl (by decide) rfl ?_
    refine hj_aload_n o dX4_take_40 0 rfl rfl ?_
    refine hj_get o dX4_take_41 in_X4 1 q287 0 rfl rfl (by decide) rfl ?_
    refine hj_iald o dX4_take_44 1 rfl (by omega) (by omega) ?_
    refine hj_iast [(hm, .inr (3, [.ref hk, .int (nI c), .ref hr, .int (nI sz)])), hj_ar dA hk 4096 (upd k u ((k c)))] o dX4_take_45 1 rfl (by omega) (by omega) rfl ?_
    refine hj_iload_n o dX4_take_46 2 rfl rfl ?_
    exact hret 0 0 _ 47 _ _ u [0, 1] dX4_take_47 (Nat.le_refl _) (Nat.le_refl _) rfl ⟨rfl, hu⟩ rfl rfl
  · exact absurd c1 (nI_ne0 (by omega) (by omega))
set_option maxHeartbeats 8000000 in
set_option maxRecDepth 100000 in
/-- HeapLineModel.least(), empty -/
theorem k_mleast0 (l : Launch) (D : va_G) (dA : ClassId) (hm hk hr sz : Nat) : hj_KI l yX4_least cX4_least 1 .int (hj_rm 1 22 0 0) D dA [.ref hm] [(hm, .inr (3, [.ref hk, .int (nI 0), .ref hr, .int (nI sz)]))] (fun (r : Int32) (_ : Unit) => r = 0) (fun _ => [(hm, .inr (3, [.ref hk, .int (nI 0), .ref hr, .int (nI sz)]))]) := by
  refine hj_introI (by decide) (Nat.le_of_ble_eq_true rfl) (fun J o hret => ?_)
  show J 0 0 [(hm, .inr (3, [.ref hk, .int (nI 0), .ref hr, .int (nI sz)]))] 0 [(0, .ref hm)] []
  refine hj_aload_n o dX4_least_0 0 rfl rfl ?_
  refine hj_get o dX4_least_1 in_X4 1 q287 0 rfl rfl (by decide) rfl ?_
  refine hj_if_ne 11 o dX4_least_4 (by decide) (fun c1 => ?_) (fun c1 => ?_)
  · exact absurd nI_0 c1
  · refine hj_iconst (nI 0) o dX4_least_7 (by decide) ?_
    refine hj_goto 20 o dX4_least_8 (by decide) ?_
    exact hret 0 0 _ 20 _ _ () [0] dX4_least_20 (Nat.le_refl _) (Nat.le_refl _) rfl rfl rfl rfl
set_option maxHeartbeats 8000000 in
set_option maxRecDepth 100000 in
/-- HeapLineModel.least(), with keys in it -/
theorem k_mleast (l : Launch) (D : va_G) (dA : ClassId) (hm hk hr cnt sz : Nat) (k : Nat → Int32) (h0 : 0 < cnt) (hc : cnt ≤ 4096) : hj_KI l yX4_least cX4_least 1 .int (hj_rm 1 22 0 0) D dA [.ref hm] [(hm, .inr (3, [.ref hk, .int (nI cnt), .ref hr, .int (nI sz)])), hj_ar dA hk 4096 k] (fun (r : Int32) (u : Nat) => r = k u ∧ hz_min k 0 cnt u) (fun _ => [(hm, .inr (3, [.ref hk, .int (nI cnt), .ref hr, .int (nI sz)])), hj_ar dA hk 4096 k]) := by
  refine hj_introI (by decide) (Nat.le_of_ble_eq_true rfl) (fun J o hret => ?_)
  show J 0 0 [(hm, .inr (3, [.ref hk, .int (nI cnt), .ref hr, .int (nI sz)])), hj_ar dA hk 4096 k] 0 [(0, .ref hm)] []
  refine hj_aload_n o dX4_least_0 0 rfl rfl ?_
  refine hj_get o dX4_least_1 in_X4 1 q287 0 rfl rfl (by decide) rfl ?_
  refine hj_if_ne 11 o dX4_least_4 (by decide) (fun c1 => ?_) (fun c1 => ?_)
  · refine hj_aload_n o dX4_least_11 0 rfl rfl ?_
    refine hj_get o dX4_least_12 in_X4 0 q286 0 rfl rfl (by decide) rfl ?_
    refine hj_aload_n o dX4_least_15 0 rfl rfl ?_
    refine hj_callVi [] [0, 1] [] 0 o dX4_least_16 (k_best l D dA hm hk hr cnt sz k h0 hc) (lw_V q307 q309 qs1 q8 q310) (by decide +kernel) rfl 0 rfl rfl ⟨Nat.le_of_ble_eq_true rfl, Nat.le_of_ble_eq_true rfl⟩ ⟨Nat.le_of_ble_eq_true rfl, Nat.le_of_ble_eq_true rfl⟩ rfl rfl (by decide) (by decide) (by decide) rfl (Nat.le_of_ble_eq_true rfl) (fun r u hu => ?_)
    show J 0 0 [(hm, .inr (3, [.ref hk, .int (nI cnt), .ref hr, .int (nI sz)])), hj_ar dA hk 4096 k] 19 [(0, .ref hm)] [.int r, .ref hk]
    obtain ⟨rfl, hu⟩ := hu
    have hu2 := hu.2.1
    refine hj_iald o dX4_least_19 1 rfl (by omega) (by omega) ?_
    exact hret 0 0 _ 20 _ _ u [0, 1] dX4_least_20 (Nat.le_refl _) (Nat.le_refl _) rfl ⟨rfl, hu⟩ rfl rfl
  · exact absurd c1 (nI_ne0 h0 (by omega))
set_option maxHeartbeats 8000000 in
set_option maxRecDepth 100000 in
theorem k_mwait (l : Launch) (D : va_G) (dA : ClassId) (hm hk hr cnt sz : Nat) : hj_KI l yX4_waiting cX4_waiting 1 .int (hj_rm 0 0 0 0) D dA [.ref hm] [(hm, .inr (3, [.ref hk, .int (nI cnt), .ref hr, .int (nI sz)]))] (fun (r : Int32) (_ : Unit) => r = nI cnt) (fun _ => [(hm, .inr (3, [.ref hk, .int (nI cnt), .ref hr, .int (nI sz)]))]) := by
  refine hj_introI (by decide) (Nat.le_of_ble_eq_true rfl) (fun J o hret => ?_)
  show J 0 0 [(hm, .inr (3, [.ref hk, .int (nI cnt), .ref hr, .int (nI sz)]))] 0 [(0, .ref hm)] []
  refine hj_aload_n o dX4_waiting_0 0 rfl rfl ?_
  refine hj_get o dX4_waiting_1 in_X4 1 q287 0 rfl rfl (by decide) rfl ?_
  exact hret 0 0 _ 4 _ _ () [0] dX4_waiting_4 (Nat.le_refl _) (Nat.le_refl _) rfl rfl rfl rfl
set_option maxHeartbeats 8000000 in
set_option maxRecDepth 100000 in
theorem k_mdrain (l : Launch) (D : va_G) (dA : ClassId) (hm hk hr cnt sz : Nat) : hj_KV l yX4_drain cX4_drain 1 (hj_rm 0 0 0 0) D dA [.ref hm] [(hm, .inr (3, [.ref hk, .int (nI cnt), .ref hr, .int (nI sz)]))] (fun _ : Unit => True) (fun _ => [(hm, .inr (3, [.ref hk, .int (nI 0), .ref hr, .int (nI sz)]))]) := by
  refine hj_introV (by decide) (Nat.le_of_ble_eq_true rfl) (fun J o hret => ?_)
  show J 0 0 [(hm, .inr (3, [.ref hk, .int (nI cnt), .ref hr, .int (nI sz)]))] 0 [(0, .ref hm)] []
  refine hj_aload_n o dX4_drain_0 0 rfl rfl ?_
  refine hj_iconst (nI 0) o dX4_drain_1 (by decide) ?_
  refine hj_putf (ty := .int) [(hm, .inr (3, [.ref hk, .int (nI 0), .ref hr, .int (nI sz)]))] tyX4 o dX4_drain_2 in_X4 tyX4_ok nmX4 1 q287 0 rfl rfl (by decide) rfl (by decide +kernel) rfl rfl (Nat.le_of_ble_eq_true rfl) rfl ?_
  exact hret 0 0 _ 5 _ () [0] dX4_drain_5 (Nat.le_refl _) (Nat.le_refl _) trivial rfl rfl
set_option maxHeartbeats 8000000 in
set_option maxRecDepth 100000 in
theorem k_mclear (l : Launch) (D : va_G) (dA : ClassId) (hm hk hr cnt sz : Nat) : hj_KV l yX4_empty cX4_empty 1 (hj_rm 0 0 0 0) D dA [.ref hm] [(hm, .inr (3, [.ref hk, .int (nI cnt), .ref hr, .int (nI sz)]))] (fun _ : Unit => True) (fun _ => [(hm, .inr (3, [.ref hk, .int (nI cnt), .ref hr, .int (nI 0)]))]) := by
  refine hj_introV (by decide) (Nat.le_of_ble_eq_true rfl) (fun J o hret => ?_)
  show J 0 0 [(hm, .inr (3, [.ref hk, .int (nI cnt), .ref hr, .int (nI sz)]))] 0 [(0, .ref hm)] []
  refine hj_aload_n o dX4_empty_0 0 rfl rfl ?_
  refine hj_iconst (nI 0) o dX4_empty_1 (by decide) ?_
  refine hj_putf (ty := .int) [(hm, .inr (3, [.ref hk, .int (nI cnt), .ref hr, .int (nI 0)]))] tyX4 o dX4_empty_2 in_X4 tyX4_ok nmX4 3 q289 0 rfl rfl (by decide) rfl (by decide +kernel) rfl rfl (Nat.le_of_ble_eq_true rfl) rfl ?_
  exact hret 0 0 _ 5 _ () [0] dX4_empty_5 (Nat.le_refl _) (Nat.le_refl _) trivial rfl rfl
set_option maxHeartbeats 8000000 in
set_option maxRecDepth 100000 in
theorem k_mrow0 (l : Launch) (D : va_G) (dA : ClassId) (hm hk hr cnt : Nat) (at_ : Int32) : hj_KI l yX4_row cX4_row 2 .int (hj_rm 0 0 0 0) D dA [.ref hm, .int at_] [(hm, .inr (3, [.ref hk, .int (nI cnt), .ref hr, .int (nI 0)]))] (fun (r : Int32) (_ : Unit) => r = 0) (fun _ => [(hm, .inr (3, [.ref hk, .int (nI cnt), .ref hr, .int (nI 0)]))]) := by
  refine hj_introI (by decide) (Nat.le_of_ble_eq_true rfl) (fun J o hret => ?_)
  show J 0 0 [(hm, .inr (3, [.ref hk, .int (nI cnt), .ref hr, .int (nI 0)]))] 0 [(0, .ref hm), (1, .int at_)] []
  refine hj_aload_n o dX4_row_0 0 rfl rfl ?_
  refine hj_get o dX4_row_1 in_X4 3 q289 0 rfl rfl (by decide) rfl ?_
  refine hj_if_ne 11 o dX4_row_4 (by decide) (fun c1 => ?_) (fun c1 => ?_)
  · exact absurd nI_0 c1
  · refine hj_iconst (nI 0) o dX4_row_7 (by decide) ?_
    refine hj_goto 25 o dX4_row_8 (by decide) ?_
    exact hret 0 0 _ 25 _ _ () [0] dX4_row_25 (Nat.le_refl _) (Nat.le_refl _) rfl rfl rfl rfl
set_option maxHeartbeats 8000000 in
set_option maxRecDepth 100000 in
theorem k_mrow (l : Launch) (D : va_G) (dA : ClassId) (hm hk hr cnt sz : Nat) (r : Nat → Int32) (at_ : Int32) (h0 : 0 < sz) (hs : sz ≤ 4096) : hj_KI l yX4_row cX4_row 2 .int (hj_rm 0 0 0 0) D dA [.ref hm, .int at_] [(hm, .inr (3, [.ref hk, .int (nI cnt), .ref hr, .int (nI sz)])), hj_ar dA hr 4096 r] (fun (z : Int32) (_ : Unit) => z = r (hz_p at_ % sz)) (fun _ => [(hm, .inr (3, [.ref hk, .int (nI cnt), .ref hr, .int (nI sz)])), hj_ar dA hr 4096 r]) := by
  refine hj_introI (by decide) (Nat.le_of_ble_eq_true rfl) (fun J o hret => ?_)
  have hp := hz_p_lt at_
  have hpz := Nat.mod_lt (hz_p at_) h0
  show J 0 0 [(hm, .inr (3, [.ref hk, .int (nI cnt), .ref hr, .int (nI sz)])), hj_ar dA hr 4096 r] 0 [(0, .ref hm), (1, .int at_)] []
  refine hj_aload_n o dX4_row_0 0 rfl rfl ?_
  refine hj_get o dX4_row_1 in_X4 3 q289 0 rfl rfl (by decide) rfl ?_
  refine hj_if_ne 11 o dX4_row_4 (by decide) (fun c1 => ?_) (fun c1 => ?_)
  · refine hj_aload_n o dX4_row_11 0 rfl rfl ?_
    refine hj_get o dX4_row_12 in_X4 2 q288 0 rfl rfl (by decide) rfl ?_
    refine hj_iload_n o dX4_row_15 1 rfl rfl ?_
    refine hj_ldc o dX4_row_16 q327 ?_
    refine hj_iand_e (nI (hz_p at_)) o dX4_row_18  (hz_p_and at_) ?_
    refine hj_aload_n o dX4_row_19 0 rfl rfl ?_
    refine hj_get o dX4_row_20 in_X4 3 q289 0 rfl rfl (by decide) rfl ?_
    refine hj_irem_n o dX4_row_23 (by omega) (by omega) (by omega) ?_
    refine hj_iald o dX4_row_24 1 rfl (by omega) (by omega) ?_
    exact hret 0 0 _ 25 _ _ () [0, 1] dX4_row_25 (Nat.le_refl _) (Nat.le_refl _) rfl rfl rfl rfl
  · exact absurd c1 (nI_ne0 h0 (by omega))
set_option maxHeartbeats 8000000 in
set_option maxRecDepth 100000 in
theorem k_mramp_loop {l : Launch} {D : va_G} {dA : ClassId} {J : hj_JT} {R : Room} {hm hk hr cnt sz n cells slots : Nat} {r : Nat → Int32} {many first step : Int32} (o : hj_Ok l R D dA RX4 cX4_ramp 7 J) (hs : sz + n ≤ 4096)
    (kont : J cells slots [(hm, .inr (3, [.ref hk, .int (nI cnt), .ref hr, .int (nI (sz + n))])), hj_ar dA hr 4096 (hz_rp r sz (n) first step)] 79 [(0, .ref hm), (1, .int many), (2, .int first), (3, .int step), (4, .int (nI n)), (5, .int (first + nI (n) * step)), (6, .int (nI n))] []) : ∀ (t i : Nat), n - i < t → i ≤ n → J cells slots [(hm, .inr (3, [.ref hk, .int (nI cnt), .ref hr, .int (nI (sz + i))])), hj_ar dA hr 4096 (hz_rp r sz (i) first step)] 39 [(0, .ref hm), (1, .int many), (2, .int first), (3, .int step), (4, .int (nI n)), (5, .int (first + nI (i) * step)), (6, .int (nI i))] [] := by
  intro t
  induction t with
  | zero => intro i h1; omega
  | succ t ih =>
    intro i ht hi
    refine hj_iload o dX4_ramp_39 6 rfl ?_
    refine hj_iload o dX4_ramp_41 4 rfl ?_
    refine hj_n_ge 79 o dX4_ramp_43 (by decide) (by omega) (by omega) (fun c1 => ?_) (fun c1 => ?_)
    · have e : i = n := by omega
      subst e
      exact kont
    · refine hj_aload_n o dX4_ramp_46 0 rfl rfl ?_
      refine hj_get o dX4_ramp_47 in_X4 2 q288 0 rfl rfl (by decide) rfl ?_
      refine hj_aload_n o dX4_ramp_50 0 rfl rfl ?_
      refine hj_get o dX4_ramp_51 in_X4 3 q289 0 rfl rfl (by decide) rfl ?_
      refine hj_iload o dX4_ramp_54 5 rfl ?_
      refine hj_iast [(hm, .inr (3, [.ref hk, .int (nI cnt), .ref hr, .int (nI (sz + i))])), hj_ar dA hr 4096 (upd (hz_rp r sz (i) first step) (sz + i) ((first + nI (i) * step)))] o dX4_ramp_56 1 rfl (by omega) (by omega) rfl ?_
      rw [hz_rp_succ]
      refine hj_aload_n o dX4_ramp_57 0 rfl rfl ?_
      refine hj_aload_n o dX4_ramp_58 0 rfl rfl ?_
      refine hj_get o dX4_ramp_59 in_X4 3 q289 0 rfl rfl (by decide) rfl ?_
      refine hj_iconst (nI 1) o dX4_ramp_62 (by decide) ?_
      refine hj_iadd_n o dX4_ramp_63 ?_
      refine hj_putf (ty := .int) [(hm, .inr (3, [.ref hk, .int (nI cnt), .ref hr, .int (nI ((sz + i) + 1))])), hj_ar dA hr 4096 (hz_rp r sz (i + 1) first step)] tyX4 o dX4_ramp_64 in_X4 tyX4_ok nmX4 3 q289 0 rfl rfl (by decide) rfl (by decide +kernel) rfl rfl (Nat.le_of_ble_eq_true rfl) rfl ?_
      refine hj_iload o dX4_ramp_67 5 rfl ?_
      refine hj_iload_n o dX4_ramp_69 3 rfl rfl ?_
      refine hj_iadd_e (first + nI (i + 1) * step) o dX4_ramp_70  (hz_rp_v first step i) ?_
      refine hj_istore [(0, .ref hm), (1, .int many), (2, .int first), (3, .int step), (4, .int (nI n)), (5, .int (first + nI (i + 1) * step)), (6, .int (nI i))] o dX4_ramp_71 (by decide) rfl ?_
      refine hj_iinc_n [(0, .ref hm), (1, .int many), (2, .int first), (3, .int step), (4, .int (nI n)), (5, .int (first + nI (i + 1) * step)), (6, .int (nI (i + 1)))] o dX4_ramp_73 6 rfl (by decide) rfl ?_
      refine hj_goto 39 o dX4_ramp_76 (by decide) ?_
      exact ih (i + 1) (by omega) (by omega)
set_option maxHeartbeats 8000000 in
set_option maxRecDepth 100000 in
/-- HeapLineModel.ramp(many, first, step) -/
theorem k_mramp (l : Launch) (D : va_G) (dA : ClassId) (hm hk hr cnt sz : Nat) (r : Nat → Int32) (many first step : Int32) (hs : sz ≤ 4096) : hj_KI l yX4_ramp cX4_ramp 7 .int (hj_rm 0 0 0 0) D dA [.ref hm, .int many, .int first, .int step] [(hm, .inr (3, [.ref hk, .int (nI cnt), .ref hr, .int (nI sz)])), hj_ar dA hr 4096 r] (fun (z : Int32) (_ : Unit) => z = nI (hz_rn many sz)) (fun _ => [(hm, .inr (3, [.ref hk, .int (nI cnt), .ref hr, .int (nI (sz + hz_rn many sz))])), hj_ar dA hr 4096 (hz_rp r sz (hz_rn many sz) first step)]) := by
  refine hj_introI (by decide) (Nat.le_of_ble_eq_true rfl) (fun J o hret => ?_)
  have hp := hz_p_lt many
  have hp2 := Nat.mod_lt (hz_p many) (show 257 > 0 by decide)
  have k33 : ∀ n : Nat, n = hz_rn many sz → J 0 0 [(hm, .inr (3, [.ref hk, .int (nI cnt), .ref hr, .int (nI sz)])), hj_ar dA hr 4096 r] 33 [(0, .ref hm), (1, .int many), (2, .int first), (3, .int step), (4, .int (nI n))] [] := by
    intro n hn
    have hn2 : sz + n ≤ 4096 := by rw [hn]; unfold hz_rn; omega
    refine hj_iload_n o dX4_ramp_33 2 rfl rfl ?_
    refine hj_istore [(0, .ref hm), (1, .int many), (2, .int first), (3, .int step), (4, .int (nI n)), (5, .int first)] o dX4_ramp_34 (by decide) rfl ?_
    refine hj_iconst (nI 0) o dX4_ramp_36 (by decide) ?_
    refine hj_istore [(0, .ref hm), (1, .int many), (2, .int first), (3, .int step), (4, .int (nI n)), (5, .int first), (6, .int (nI 0))] o dX4_ramp_37 (by decide) rfl ?_
    have k := k_mramp_loop (cells := 0) (slots := 0) (r := r) (many := many) (first := first) (step := step) (cnt := cnt) (hk := hk) (hm := hm) (hr := hr) o hn2 ?_ (n + 1) 0 (by omega) (by omega)
    · rw [hz_rp_0] at k
      have e0 : first + nI 0 * step = first := by rw [nI_0]; grind
      rw [e0] at k
      exact k
    · refine hj_iload o dX4_ramp_79 4 rfl ?_
      rw [← hn] at hret
      exact hret 0 0 _ 81 _ _ () [0, 1] dX4_ramp_81 (Nat.le_refl _) (Nat.le_refl _) rfl rfl rfl rfl
  show J 0 0 [(hm, .inr (3, [.ref hk, .int (nI cnt), .ref hr, .int (nI sz)])), hj_ar dA hr 4096 r] 0 [(0, .ref hm), (1, .int many), (2, .int first), (3, .int step)] []
  refine hj_iload_n o dX4_ramp_0 1 rfl rfl ?_
  refine hj_ldc o dX4_ramp_1 q327 ?_
  refine hj_iand_e (nI (hz_p many)) o dX4_ramp_3  (hz_p_and many) ?_
  refine hj_sipush (nI 257) o dX4_ramp_4 (by decide) ?_
  refine hj_irem_n o dX4_ramp_7 (by omega) (by omega) (by omega) ?_
  refine hj_istore [(0, .ref hm), (1, .int many), (2, .int first), (3, .int step), (4, .int (nI ((hz_p many) % 257)))] o dX4_ramp_8 (by decide) rfl ?_
  refine hj_aload_n o dX4_ramp_10 0 rfl rfl ?_
  refine hj_get o dX4_ramp_11 in_X4 3 q289 0 rfl rfl (by decide) rfl ?_
  refine hj_iload o dX4_ramp_14 4 rfl ?_
  refine hj_iadd_n o dX4_ramp_16 ?_
  refine hj_sipush (nI 4096) o dX4_ramp_17 (by decide) ?_
  refine hj_n_le 33 o dX4_ramp_20 (by decide) (by omega) (by omega) (fun c1 => ?_) (fun c1 => ?_)
  · exact k33 _ (by unfold hz_rn; omega)
  · refine hj_sipush (nI 4096) o dX4_ramp_23 (by decide) ?_
    refine hj_aload_n o dX4_ramp_26 0 rfl rfl ?_
    refine hj_get o dX4_ramp_27 in_X4 3 q289 0 rfl rfl (by decide) rfl ?_
    refine hj_isub_n o dX4_ramp_30 (by omega) ?_
    refine hj_istore [(0, .ref hm), (1, .int many), (2, .int first), (3, .int step), (4, .int (nI (4096 - sz)))] o dX4_ramp_31 (by decide) rfl ?_
    exact k33 _ (by unfold hz_rn; omega)
set_option maxHeartbeats 8000000 in
set_option maxRecDepth 100000 in
theorem k_ord_in {l : Launch} {D : va_G} {dA : ClassId} {J : hj_JT} {R : Room} {hm hk hr cnt sz f n i cells slots : Nat} {g0 : Nat → Int32} {t at_ many : Int32} (o : hj_Ok l R D dA RX4 cX4_order 8 J) (hs : f + n ≤ 4096) (hi : i < f + n)
    (kont : ∀ (j : Nat) (g : Nat → Int32), f ≤ j → j ≤ i → hz_sm g0 (upd g j t) f (f + n) → hz_so (upd g j t) f (i + 1) → J cells slots [(hm, .inr (3, [.ref hk, .int (nI cnt), .ref hr, .int (nI sz)])), hj_ar dA hr 4096 g] 99 [(0, .ref hm), (1, .int at_), (2, .int many), (3, .int (nI f)), (4, .int (nI n)), (5, .int (nI i)), (6, .int t), (7, .int (nI j))] []) : ∀ (c j : Nat) (g : Nat → Int32), j - f < c → f ≤ j → j ≤ i → hz_sm g0 (upd g j t) f (f + n) → hz_ins (upd g j t) f i j → J cells slots [(hm, .inr (3, [.ref hk, .int (nI cnt), .ref hr, .int (nI sz)])), hj_ar dA hr 4096 g] 54 [(0, .ref hm), (1, .int at_), (2, .int many), (3, .int (nI f)), (4, .int (nI n)), (5, .int (nI i)), (6, .int t), (7, .int (nI j))] [] := by
  intro c
  induction c with
  | zero => intro j g h1; omega
  | succ c ih =>
    intro j g hc hj hji hs1 hz
    refine hj_iload o dX4_order_54 7 rfl ?_
    refine hj_iload_n o dX4_order_56 3 rfl rfl ?_
    refine hj_n_le 99 o dX4_order_57 (by decide) (by omega) (by omega) (fun c1 => ?_) (fun c1 => ?_)
    · exact kont j g hj hji hs1 (hz_ins_done hz (Or.inl (by omega)))
    · obtain ⟨j, rfl⟩ : ∃ j2, j = j2 + 1 := ⟨j - 1, by omega⟩
      refine hj_aload_n o dX4_order_60 0 rfl rfl ?_
      refine hj_get o dX4_order_61 in_X4 2 q288 0 rfl rfl (by decide) rfl ?_
      refine hj_iload o dX4_order_64 7 rfl ?_
      refine hj_iconst (nI 1) o dX4_order_66 (by decide) ?_
      refine hj_isub_e (nI j) o dX4_order_67  (nI_pred j) ?_
      refine hj_iald o dX4_order_68 1 rfl (by omega) (by omega) ?_
      refine hj_iload o dX4_order_69 6 rfl ?_
      refine hj_icmp_le 99 o dX4_order_71 (by decide) (fun c2 => ?_) (fun c2 => ?_)
      · exact kont (j + 1) g hj hji hs1 (hz_ins_done hz (Or.inr (by show (upd g (j + 1) t j).toInt ≤ (upd g (j + 1) t (j + 1)).toInt; rw [pk_us, pk_un (by omega), ← hz_le]; exact c2)))
      · have c2 : t.toInt ≤ (g j).toInt := by rw [hz_le] at c2; omega
        refine hj_aload_n o dX4_order_74 0 rfl rfl ?_
        refine hj_get o dX4_order_75 in_X4 2 q288 0 rfl rfl (by decide) rfl ?_
        refine hj_iload o dX4_order_78 7 rfl ?_
        refine hj_aload_n o dX4_order_80 0 rfl rfl ?_
        refine hj_get o dX4_order_81 in_X4 2 q288 0 rfl rfl (by decide) rfl ?_
        refine hj_iload o dX4_order_84 7 rfl ?_
        refine hj_iconst (nI 1) o dX4_order_86 (by decide) ?_
        refine hj_isub_e (nI j) o dX4_order_87  (nI_pred j) ?_
        refine hj_iald o dX4_order_88 1 rfl (by omega) (by omega) ?_
        refine hj_iast [(hm, .inr (3, [.ref hk, .int (nI cnt), .ref hr, .int (nI sz)])), hj_ar dA hr 4096 (upd g (j + 1) ((g j)))] o dX4_order_89 1 rfl (by omega) (by omega) rfl ?_
        refine hj_iload o dX4_order_90 7 rfl ?_
        refine hj_iconst (nI 1) o dX4_order_92 (by decide) ?_
        refine hj_isub_e (nI j) o dX4_order_93  (nI_pred j) ?_
        refine hj_istore [(0, .ref hm), (1, .int at_), (2, .int many), (3, .int (nI f)), (4, .int (nI n)), (5, .int (nI i)), (6, .int t), (7, .int (nI j))] o dX4_order_94 (by decide) rfl ?_
        refine hj_goto 54 o dX4_order_96 (by decide) ?_
        exact ih j (upd g (j + 1) (g j)) (by omega) (by omega) (by omega) (hz_hole (by omega) (by omega) (by omega) (by omega) (by omega) hs1) (hz_ins_step hz (by omega) c2)
set_option maxHeartbeats 8000000 in
set_option maxRecDepth 100000 in
theorem k_ord_out {l : Launch} {D : va_G} {dA : ClassId} {J : hj_JT} {R : Room} {hm hk hr cnt sz f n cells slots : Nat} {g0 : Nat → Int32} {at_ many : Int32} (o : hj_Ok l R D dA RX4 cX4_order 8 J) (hs : f + n ≤ 4096)
    (kont : ∀ (i : Nat) (g : Nat → Int32), hz_sm g0 g f (f + n) → hz_so g f (f + n) → J cells slots [(hm, .inr (3, [.ref hk, .int (nI cnt), .ref hr, .int (nI sz)])), hj_ar dA hr 4096 g] 114 [(0, .ref hm), (1, .int at_), (2, .int many), (3, .int (nI f)), (4, .int (nI n)), (5, .int (nI i))] []) : ∀ (c i : Nat) (g : Nat → Int32), f + n - i < c → f + 1 ≤ i → i ≤ f + n + 1 → hz_sm g0 g f (f + n) → hz_so g f i → J cells slots [(hm, .inr (3, [.ref hk, .int (nI cnt), .ref hr, .int (nI sz)])), hj_ar dA hr 4096 g] 32 [(0, .ref hm), (1, .int at_), (2, .int many), (3, .int (nI f)), (4, .int (nI n)), (5, .int (nI i))] [] := by
  intro c
  induction c with
  | zero => intro i g h1; omega
  | succ c ih =>
    intro i g hc h1 h2 hs1 ho
    refine hj_iload o dX4_order_32 5 rfl ?_
    refine hj_iload_n o dX4_order_34 3 rfl rfl ?_
    refine hj_iload o dX4_order_35 4 rfl ?_
    refine hj_iadd_n o dX4_order_37 ?_
    refine hj_n_ge 114 o dX4_order_38 (by decide) (by omega) (by omega) (fun c1 => ?_) (fun c1 => ?_)
    · exact kont i g hs1 (fun a b q1 q2 q3 => ho a b q1 q2 (by omega))
    · refine hj_aload_n o dX4_order_41 0 rfl rfl ?_
      refine hj_get o dX4_order_42 in_X4 2 q288 0 rfl rfl (by decide) rfl ?_
      refine hj_iload o dX4_order_45 5 rfl ?_
      refine hj_iald o dX4_order_47 1 rfl (by omega) (by omega) ?_
      refine hj_istore [(0, .ref hm), (1, .int at_), (2, .int many), (3, .int (nI f)), (4, .int (nI n)), (5, .int (nI i)), (6, .int (g i))] o dX4_order_48 (by decide) rfl ?_
      refine hj_iload o dX4_order_50 5 rfl ?_
      refine hj_istore [(0, .ref hm), (1, .int at_), (2, .int many), (3, .int (nI f)), (4, .int (nI n)), (5, .int (nI i)), (6, .int (g i)), (7, .int (nI i))] o dX4_order_52 (by decide) rfl ?_
      have hu : upd g i (g i) = g := hz_upd_self g i
      refine k_ord_in (g0 := g0) o hs c1 (fun j u j1 j2 js jo => ?_) (i + 1) i g (by omega) (by omega) (by omega) (by rw [hu]; exact hs1) (by rw [hu]; exact hz_ins_0 ho)
      refine hj_aload_n o dX4_order_99 0 rfl rfl ?_
      refine hj_get o dX4_order_100 in_X4 2 q288 0 rfl rfl (by decide) rfl ?_
      refine hj_iload o dX4_order_103 7 rfl ?_
      refine hj_iload o dX4_order_105 6 rfl ?_
      refine hj_iast [(hm, .inr (3, [.ref hk, .int (nI cnt), .ref hr, .int (nI sz)])), hj_ar dA hr 4096 (upd u j ((g i)))] o dX4_order_107 1 rfl (by omega) (by omega) rfl ?_
      refine hj_iinc_n [(0, .ref hm), (1, .int at_), (2, .int many), (3, .int (nI f)), (4, .int (nI n)), (5, .int (nI (i + 1))), (6, .int (g i)), (7, .int (nI j))] o dX4_order_108 5 rfl (by decide) rfl ?_
      refine hj_goto 32 o dX4_order_111 (by decide) ?_
      refine hj_lv [(0, .ref hm), (1, .int at_), (2, .int many), (3, .int (nI f)), (4, .int (nI n)), (5, .int (nI (i + 1)))] [0, 1, 2, 3, 4, 5] o rfl ?_
      exact ih (i + 1) _ (by omega) (by omega) (by omega) js jo
set_option maxHeartbeats 8000000 in
set_option maxRecDepth 100000 in
/-- HeapLineModel.order(at, many) -/
theorem k_order (l : Launch) (D : va_G) (dA : ClassId) (hm hk hr cnt sz : Nat) (r : Nat → Int32) (at_ many : Int32) (hs : sz ≤ 4096) : hj_KI l yX4_order cX4_order 8 .int (hj_rm 0 0 0 0) D dA [.ref hm, .int at_, .int many] [(hm, .inr (3, [.ref hk, .int (nI cnt), .ref hr, .int (nI sz)])), hj_ar dA hr 4096 r] (fun (z : Int32) (u : Nat → Int32) => z = nI (hz_on many sz (hz_of at_ sz)) ∧ hz_sm r u (hz_of at_ sz) (hz_of at_ sz + hz_on many sz (hz_of at_ sz)) ∧ hz_so u (hz_of at_ sz) (hz_of at_ sz + hz_on many sz (hz_of at_ sz))) (fun u => [(hm, .inr (3, [.ref hk, .int (nI cnt), .ref hr, .int (nI sz)])), hj_ar dA hr 4096 u]) := by
  refine hj_introI (by decide) (Nat.le_of_ble_eq_true rfl) (fun J o hret => ?_)
  have hp := hz_p_lt at_
  have hp2 := hz_p_lt many
  have hf := hz_of_le at_ sz
  have hn := hz_on_le many sz (hz_of at_ sz)
  show J 0 0 [(hm, .inr (3, [.ref hk, .int (nI cnt), .ref hr, .int (nI sz)])), hj_ar dA hr 4096 r] 0 [(0, .ref hm), (1, .int at_), (2, .int many)] []
  refine hj_iload_n o dX4_order_0 1 rfl rfl ?_
  refine hj_ldc o dX4_order_1 q327 ?_
  refine hj_iand_e (nI (hz_p at_)) o dX4_order_3  (hz_p_and at_) ?_
  refine hj_aload_n o dX4_order_4 0 rfl rfl ?_
  refine hj_get o dX4_order_5 in_X4 3 q289 0 rfl rfl (by decide) rfl ?_
  refine hj_iconst (nI 1) o dX4_order_8 (by decide) ?_
  refine hj_iadd_n o dX4_order_9 ?_
  refine hj_irem_n o dX4_order_10 (by omega) (by omega) (by omega) ?_
  obtain ⟨f, ef⟩ : ∃ f, f = hz_of at_ sz := ⟨_, rfl⟩
  rw [show hz_p at_ % (sz + 1) = f from ef.symm]
  rw [← ef] at hf hn hret
  refine hj_istore_n [(0, .ref hm), (1, .int at_), (2, .int many), (3, .int (nI f))] o dX4_order_11 rfl (by decide) rfl ?_
  refine hj_iload_n o dX4_order_12 2 rfl rfl ?_
  refine hj_ldc o dX4_order_13 q327 ?_
  refine hj_iand_e (nI (hz_p many)) o dX4_order_15  (hz_p_and many) ?_
  refine hj_aload_n o dX4_order_16 0 rfl rfl ?_
  refine hj_get o dX4_order_17 in_X4 3 q289 0 rfl rfl (by decide) rfl ?_
  refine hj_iload_n o dX4_order_20 3 rfl rfl ?_
  refine hj_isub_n o dX4_order_21 (by omega) ?_
  refine hj_iconst (nI 1) o dX4_order_22 (by decide) ?_
  refine hj_iadd_n o dX4_order_23 ?_
  refine hj_irem_n o dX4_order_24 (by omega) (by omega) (by omega) ?_
  obtain ⟨n, en⟩ : ∃ n, n = hz_on many sz f := ⟨_, rfl⟩
  rw [show hz_p many % (sz - f + 1) = n from en.symm]
  rw [← en] at hn hret
  refine hj_istore [(0, .ref hm), (1, .int at_), (2, .int many), (3, .int (nI f)), (4, .int (nI n))] o dX4_order_25 (by decide) rfl ?_
  refine hj_iload_n o dX4_order_27 3 rfl rfl ?_
  refine hj_iconst (nI 1) o dX4_order_28 (by decide) ?_
  refine hj_iadd_n o dX4_order_29 ?_
  refine hj_istore [(0, .ref hm), (1, .int at_), (2, .int many), (3, .int (nI f)), (4, .int (nI n)), (5, .int (nI (f + 1)))] o dX4_order_30 (by decide) rfl ?_
  refine k_ord_out (g0 := r) o (by omega) (fun i u hs1 ho => ?_) (n + 1) (f + 1) r (by omega) (by omega) (by omega) (hz_sm_rf _ _ _) (hz_so_small (Nat.le_refl _))
  refine hj_iload o dX4_order_114 4 rfl ?_
  exact hret 0 0 _ 116 _ _ u [0, 1] dX4_order_116 (Nat.le_refl _) (Nat.le_refl _) rfl ⟨rfl, hs1, ho⟩ rfl rfl
set_option maxHeartbeats 8000000 in
set_option maxRecDepth 100000 in
theorem k_mquick (l : Launch) (D : va_G) (dA : ClassId) (hm hk hr cnt sz : Nat) (r : Nat → Int32) (at_ many : Int32) (hs : sz ≤ 4096) : hj_KI l yX4_quick cX4_quick 3 .int (hj_rm 1 27 0 0) D dA [.ref hm, .int at_, .int many] [(hm, .inr (3, [.ref hk, .int (nI cnt), .ref hr, .int (nI sz)])), hj_ar dA hr 4096 r] (fun (z : Int32) (u : Nat → Int32) => z = nI (hz_on many sz (hz_of at_ sz)) ∧ hz_sm r u (hz_of at_ sz) (hz_of at_ sz + hz_on many sz (hz_of at_ sz)) ∧ hz_so u (hz_of at_ sz) (hz_of at_ sz + hz_on many sz (hz_of at_ sz))) (fun u => [(hm, .inr (3, [.ref hk, .int (nI cnt), .ref hr, .int (nI sz)])), hj_ar dA hr 4096 u]) := by
  refine hj_introI (by decide) (Nat.le_of_ble_eq_true rfl) (fun J o hret => ?_)
  show J 0 0 [(hm, .inr (3, [.ref hk, .int (nI cnt), .ref hr, .int (nI sz)])), hj_ar dA hr 4096 r] 0 [(0, .ref hm), (1, .int at_), (2, .int many)] []
  refine hj_aload_n o dX4_quick_0 0 rfl rfl ?_
  refine hj_iload_n o dX4_quick_1 1 rfl rfl ?_
  refine hj_iload_n o dX4_quick_2 2 rfl rfl ?_
  refine hj_callVi [] [0, 1] [] 2 o dX4_quick_3 (k_order l D dA hm hk hr cnt sz r at_ many hs) (lw_V q336 q338 qs2 q8 q339) (by decide +kernel) rfl 0 rfl rfl ⟨Nat.le_of_ble_eq_true rfl, Nat.le_of_ble_eq_true rfl⟩ ⟨Nat.le_of_ble_eq_true rfl, Nat.le_of_ble_eq_true rfl⟩ rfl rfl (by decide) (by decide) (by decide) rfl (Nat.le_of_ble_eq_true rfl) (fun z u hu => ?_)
  show J 0 0 [(hm, .inr (3, [.ref hk, .int (nI cnt), .ref hr, .int (nI sz)])), hj_ar dA hr 4096 u] 6 [(0, .ref hm), (1, .int at_), (2, .int many)] [.int z]
  exact hret 0 0 _ 6 _ _ u [0, 1] dX4_quick_6 (Nat.le_refl _) (Nat.le_refl _) rfl hu rfl rfl
set_option maxHeartbeats 8000000 in
set_option maxRecDepth 100000 in
theorem k_mmerge (l : Launch) (D : va_G) (dA : ClassId) (hm hk hr cnt sz : Nat) (r : Nat → Int32) (at_ many : Int32) (hs : sz ≤ 4096) : hj_KI l yX4_merge cX4_merge 3 .int (hj_rm 1 27 0 0) D dA [.ref hm, .int at_, .int many] [(hm, .inr (3, [.ref hk, .int (nI cnt), .ref hr, .int (nI sz)])), hj_ar dA hr 4096 r] (fun (z : Int32) (u : Nat → Int32) => z = nI (hz_on many sz (hz_of at_ sz)) ∧ hz_sm r u (hz_of at_ sz) (hz_of at_ sz + hz_on many sz (hz_of at_ sz)) ∧ hz_so u (hz_of at_ sz) (hz_of at_ sz + hz_on many sz (hz_of at_ sz))) (fun u => [(hm, .inr (3, [.ref hk, .int (nI cnt), .ref hr, .int (nI sz)])), hj_ar dA hr 4096 u]) := by
  refine hj_introI (by decide) (Nat.le_of_ble_eq_true rfl) (fun J o hret => ?_)
  show J 0 0 [(hm, .inr (3, [.ref hk, .int (nI cnt), .ref hr, .int (nI sz)])), hj_ar dA hr 4096 r] 0 [(0, .ref hm), (1, .int at_), (2, .int many)] []
  refine hj_aload_n o dX4_merge_0 0 rfl rfl ?_
  refine hj_iload_n o dX4_merge_1 1 rfl rfl ?_
  refine hj_iload_n o dX4_merge_2 2 rfl rfl ?_
  refine hj_callVi [] [0, 1] [] 2 o dX4_merge_3 (k_order l D dA hm hk hr cnt sz r at_ many hs) (lw_V q336 q338 qs2 q8 q339) (by decide +kernel) rfl 0 rfl rfl ⟨Nat.le_of_ble_eq_true rfl, Nat.le_of_ble_eq_true rfl⟩ ⟨Nat.le_of_ble_eq_true rfl, Nat.le_of_ble_eq_true rfl⟩ rfl rfl (by decide) (by decide) (by decide) rfl (Nat.le_of_ble_eq_true rfl) (fun z u hu => ?_)
  show J 0 0 [(hm, .inr (3, [.ref hk, .int (nI cnt), .ref hr, .int (nI sz)])), hj_ar dA hr 4096 u] 6 [(0, .ref hm), (1, .int at_), (2, .int many)] [.int z]
  exact hret 0 0 _ 6 _ _ u [0, 1] dX4_merge_6 (Nat.le_refl _) (Nat.le_refl _) rfl hu rfl rfl
set_option maxHeartbeats 8000000 in
set_option maxRecDepth 100000 in
theorem k_mradix (l : Launch) (D : va_G) (dA : ClassId) (hm hk hr cnt sz : Nat) (r : Nat → Int32) (at_ many : Int32) (hs : sz ≤ 4096) : hj_KI l yX4_radix cX4_radix 3 .int (hj_rm 1 27 0 0) D dA [.ref hm, .int at_, .int many] [(hm, .inr (3, [.ref hk, .int (nI cnt), .ref hr, .int (nI sz)])), hj_ar dA hr 4096 r] (fun (z : Int32) (u : Nat → Int32) => z = nI (hz_on many sz (hz_of at_ sz)) ∧ hz_sm r u (hz_of at_ sz) (hz_of at_ sz + hz_on many sz (hz_of at_ sz)) ∧ hz_so u (hz_of at_ sz) (hz_of at_ sz + hz_on many sz (hz_of at_ sz))) (fun u => [(hm, .inr (3, [.ref hk, .int (nI cnt), .ref hr, .int (nI sz)])), hj_ar dA hr 4096 u]) := by
  refine hj_introI (by decide) (Nat.le_of_ble_eq_true rfl) (fun J o hret => ?_)
  show J 0 0 [(hm, .inr (3, [.ref hk, .int (nI cnt), .ref hr, .int (nI sz)])), hj_ar dA hr 4096 r] 0 [(0, .ref hm), (1, .int at_), (2, .int many)] []
  refine hj_aload_n o dX4_radix_0 0 rfl rfl ?_
  refine hj_iload_n o dX4_radix_1 1 rfl rfl ?_
  refine hj_iload_n o dX4_radix_2 2 rfl rfl ?_
  refine hj_callVi [] [0, 1] [] 2 o dX4_radix_3 (k_order l D dA hm hk hr cnt sz r at_ many hs) (lw_V q336 q338 qs2 q8 q339) (by decide +kernel) rfl 0 rfl rfl ⟨Nat.le_of_ble_eq_true rfl, Nat.le_of_ble_eq_true rfl⟩ ⟨Nat.le_of_ble_eq_true rfl, Nat.le_of_ble_eq_true rfl⟩ rfl rfl (by decide) (by decide) (by decide) rfl (Nat.le_of_ble_eq_true rfl) (fun z u hu => ?_)
  show J 0 0 [(hm, .inr (3, [.ref hk, .int (nI cnt), .ref hr, .int (nI sz)])), hj_ar dA hr 4096 u] 6 [(0, .ref hm), (1, .int at_), (2, .int many)] [.int z]
  exact hret 0 0 _ 6 _ _ u [0, 1] dX4_radix_6 (Nat.le_refl _) (Nat.le_refl _) rfl hu rfl rfl
end
section
/-! HeapLine. printed by gen_line.py -/
set_option maxHeartbeats 8000000 in
set_option maxRecDepth 100000 in
/-- HeapLine.add(x), below 4096 values -/
theorem k_xadd (l : Launch) (D : va_G) (dA : ClassId) (hx hq hr hh ho sz n : Nat) (len : Nat) (g : Nat → Int32) (x : Int32) (h4 : n < 4096) (hn : n ≤ len) (hl : len ≤ 6144) (hp : hz_hp g n) : hj_KI l yX0_add cX0_add 2 .boolean (hj_rm 4 160 1 6144) D dA [.ref hx, .int x] [(hx, .inr (0, [.ref hq, .ref hr, .int (nI sz)])), (hq, .inr (1, [.ref hh, .int (nI n), .ref ho])), hj_ar dA hh len g, (ho, .inr (2, []))] (fun (z : Int32) (u : Nat × Nat × (Nat → Int32)) => z = 1 ∧ n + 1 ≤ u.2.1 ∧ u.2.1 ≤ 6144 ∧ hz_hp u.2.2 (n + 1) ∧ ∀ P : Int32 → Bool, hz_ct P u.2.2 (n + 1) = hz_ct P g n + (if P x then 1 else 0)) (fun u => [(hx, .inr (0, [.ref hq, .ref hr, .int (nI sz)])), (hq, .inr (1, [.ref u.1, .int (nI (n + 1)), .ref ho])), hj_ar dA u.1 u.2.1 u.2.2, (ho, .inr (2, []))]) := by
  refine hj_introI (by decide) (Nat.le_of_ble_eq_true rfl) (fun J o hret => ?_)
  show J 0 0 [(hx, .inr (0, [.ref hq, .ref hr, .int (nI sz)])), (hq, .inr (1, [.ref hh, .int (nI n), .ref ho])), hj_ar dA hh len g, (ho, .inr (2, []))] 0 [(0, .ref hx), (1, .int x)] []
  refine hj_aload_n o dX0_add_0 0 rfl rfl ?_
  refine hj_get o dX0_add_1 in_X0 0 q52 0 rfl rfl (by decide) rfl ?_
  refine hj_callVi [(hx, .inr (0, [.ref hq, .ref hr, .int (nI sz)])), hj_ar dA hh len g, (ho, .inr (2, []))] [1] [0, 2, 3] 0 o dX0_add_4 (k_qsize l D dA hq hh ho n) (lw_V q66 q67 q68 q5 q69) (by decide +kernel) rfl 1 rfl rfl ⟨Nat.le_of_ble_eq_true rfl, Nat.le_of_ble_eq_true rfl⟩ ⟨Nat.zero_le _, Nat.zero_le _⟩ rfl rfl (by decide) (by decide) (by decide) rfl (Nat.le_of_ble_eq_true rfl) (fun z _ ez => ?_)
  show J 0 0 [(hx, .inr (0, [.ref hq, .ref hr, .int (nI sz)])), hj_ar dA hh len g, (ho, .inr (2, [])), (hq, .inr (1, [.ref hh, .int (nI n), .ref ho]))] 7 [(0, .ref hx), (1, .int x)] [.int z]
  subst ez
  refine hj_sipush (nI 4096) o dX0_add_7 (by decide) ?_
  refine hj_n_lt 15 o dX0_add_10 (by decide) (by omega) (by omega) (fun c1 => ?_) (fun c1 => ?_)
  · refine hj_aload_n o dX0_add_15 0 rfl rfl ?_
    refine hj_get o dX0_add_16 in_X0 0 q52 0 rfl rfl (by decide) rfl ?_
    refine hj_iload_n o dX0_add_19 1 rfl rfl ?_
    refine hj_callVv [(hx, .inr (0, [.ref hq, .ref hr, .int (nI sz)]))] [3, 1, 2] [0] 1 o dX0_add_20 (k_qenq l D dA hq hh ho n len g x h4 hn hl hp) (lw_V q70 q71 q72 q5 q73) (by decide +kernel) rfl 3 rfl rfl ⟨Nat.le_of_ble_eq_true rfl, Nat.le_of_ble_eq_true rfl⟩ ⟨Nat.le_of_ble_eq_true rfl, Nat.le_of_ble_eq_true rfl⟩ rfl rfl (by decide) (by decide) (by decide) rfl (Nat.le_of_ble_eq_true rfl) (fun u hu => ?_)
    show J (0 + 1) (0 + 6144) [(hx, .inr (0, [.ref hq, .ref hr, .int (nI sz)])), (hq, .inr (1, [.ref (u.1), .int (nI (n + 1)), .ref ho])), hj_ar dA u.1 u.2.1 u.2.2, (ho, .inr (2, []))] 23 [(0, .ref hx), (1, .int x)] []
    refine hj_iconst (nI 1) o dX0_add_23 (by decide) ?_
    exact hret _ _ _ 24 _ _ u [0, 1, 2, 3] dX0_add_24 (Nat.le_refl _) (Nat.le_refl _) rfl ⟨rfl, hu⟩ rfl rfl
  · omega
set_option maxHeartbeats 8000000 in
set_option maxRecDepth 100000 in
/-- HeapLine.add(x), full -/
theorem k_xadd_full (l : Launch) (D : va_G) (dA : ClassId) (hx hq hr hh ho sz n : Nat) (x : Int32) (h4 : 4096 ≤ n) (hn : n < 2 ^ 30) : hj_KI l yX0_add cX0_add 2 .boolean (hj_rm 4 160 1 6144) D dA [.ref hx, .int x] [(hx, .inr (0, [.ref hq, .ref hr, .int (nI sz)])), (hq, .inr (1, [.ref hh, .int (nI n), .ref ho]))] (fun (z : Int32) (_ : Unit) => z = 0) (fun _ => [(hx, .inr (0, [.ref hq, .ref hr, .int (nI sz)])), (hq, .inr (1, [.ref hh, .int (nI n), .ref ho]))]) := by
  refine hj_introI (by decide) (Nat.le_of_ble_eq_true rfl) (fun J o hret => ?_)
  show J 0 0 [(hx, .inr (0, [.ref hq, .ref hr, .int (nI sz)])), (hq, .inr (1, [.ref hh, .int (nI n), .ref ho]))] 0 [(0, .ref hx), (1, .int x)] []
  refine hj_aload_n o dX0_add_0 0 rfl rfl ?_
  refine hj_get o dX0_add_1 in_X0 0 q52 0 rfl rfl (by decide) rfl ?_
  refine hj_callVi [(hx, .inr (0, [.ref hq, .ref hr, .int (nI sz)]))] [1] [0] 0 o dX0_add_4 (k_qsize l D dA hq hh ho n) (lw_V q66 q67 q68 q5 q69) (by decide +kernel) rfl 1 rfl rfl ⟨Nat.le_of_ble_eq_true rfl, Nat.le_of_ble_eq_true rfl⟩ ⟨Nat.zero_le _, Nat.zero_le _⟩ rfl rfl (by decide) (by decide) (by decide) rfl (Nat.le_of_ble_eq_true rfl) (fun z _ ez => ?_)
  show J 0 0 [(hx, .inr (0, [.ref hq, .ref hr, .int (nI sz)])), (hq, .inr (1, [.ref hh, .int (nI n), .ref ho]))] 7 [(0, .ref hx), (1, .int x)] [.int z]
  subst ez
  refine hj_sipush (nI 4096) o dX0_add_7 (by decide) ?_
  refine hj_n_lt 15 o dX0_add_10 (by decide) (by omega) (by omega) (fun c1 => ?_) (fun c1 => ?_)
  · omega
  · refine hj_iconst (nI 0) o dX0_add_13 (by decide) ?_
    exact hret _ _ _ 14 _ _ () [0, 1] dX0_add_14 (Nat.zero_le _) (Nat.zero_le _) rfl rfl rfl rfl
set_option maxHeartbeats 8000000 in
set_option maxRecDepth 100000 in
/-- HeapLine.take(), empty -/
theorem k_xtake0 (l : Launch) (D : va_G) (dA : ClassId) (hx hq hr hh ho sz : Nat) : hj_KI l yX0_take cX0_take 1 .int (hj_rm 3 96 0 0) D dA [.ref hx] [(hx, .inr (0, [.ref hq, .ref hr, .int (nI sz)])), (hq, .inr (1, [.ref hh, .int (nI 0), .ref ho]))] (fun (z : Int32) (_ : Unit) => z = 0) (fun _ => [(hx, .inr (0, [.ref hq, .ref hr, .int (nI sz)])), (hq, .inr (1, [.ref hh, .int (nI 0), .ref ho]))]) := by
  refine hj_introI (by decide) (Nat.le_of_ble_eq_true rfl) (fun J o hret => ?_)
  show J 0 0 [(hx, .inr (0, [.ref hq, .ref hr, .int (nI sz)])), (hq, .inr (1, [.ref hh, .int (nI 0), .ref ho]))] 0 [(0, .ref hx)] []
  refine hj_aload_n o dX0_take_0 0 rfl rfl ?_
  refine hj_get o dX0_take_1 in_X0 0 q52 0 rfl rfl (by decide) rfl ?_
  refine hj_callE [(hx, .inr (0, [.ref hq, .ref hr, .int (nI sz)]))] [1] [0] o dX0_take_4 (k_qempty l D dA hq hh ho 0 (by decide)) 1 rfl ⟨Nat.le_of_ble_eq_true rfl, Nat.le_of_ble_eq_true rfl⟩ ⟨Nat.le_of_ble_eq_true rfl, Nat.le_of_ble_eq_true rfl⟩ rfl rfl (by decide) (by decide) (by decide) (Nat.le_of_ble_eq_true rfl) ?_
  show J 0 0 [(hx, .inr (0, [.ref hq, .ref hr, .int (nI sz)])), (hq, .inr (1, [.ref hh, .int (nI 0), .ref ho]))] 7 [(0, .ref hx)] [.int (if 0 = 0 then 1 else 0)]
  refine hj_if_eq 14 o dX0_take_7 (by decide) (fun c1 => ?_) (fun c1 => ?_)
  · exact absurd c1 (by decide)
  · refine hj_iconst (nI 0) o dX0_take_10 (by decide) ?_
    refine hj_goto 21 o dX0_take_11 (by decide) ?_
    exact hret 0 0 _ 21 _ _ () [0, 1] dX0_take_21 (Nat.le_refl _) (Nat.le_refl _) rfl rfl rfl rfl
set_option maxHeartbeats 8000000 in
set_option maxRecDepth 100000 in
/-- HeapLine.least(), empty -/
theorem k_xleast0 (l : Launch) (D : va_G) (dA : ClassId) (hx hq hr hh ho sz : Nat) : hj_KI l yX0_least cX0_least 1 .int (hj_rm 3 96 0 0) D dA [.ref hx] [(hx, .inr (0, [.ref hq, .ref hr, .int (nI sz)])), (hq, .inr (1, [.ref hh, .int (nI 0), .ref ho]))] (fun (z : Int32) (_ : Unit) => z = 0) (fun _ => [(hx, .inr (0, [.ref hq, .ref hr, .int (nI sz)])), (hq, .inr (1, [.ref hh, .int (nI 0), .ref ho]))]) := by
  refine hj_introI (by decide) (Nat.le_of_ble_eq_true rfl) (fun J o hret => ?_)
  show J 0 0 [(hx, .inr (0, [.ref hq, .ref hr, .int (nI sz)])), (hq, .inr (1, [.ref hh, .int (nI 0), .ref ho]))] 0 [(0, .ref hx)] []
  refine hj_aload_n o dX0_least_0 0 rfl rfl ?_
  refine hj_get o dX0_least_1 in_X0 0 q52 0 rfl rfl (by decide) rfl ?_
  refine hj_callE [(hx, .inr (0, [.ref hq, .ref hr, .int (nI sz)]))] [1] [0] o dX0_least_4 (k_qempty l D dA hq hh ho 0 (by decide)) 1 rfl ⟨Nat.le_of_ble_eq_true rfl, Nat.le_of_ble_eq_true rfl⟩ ⟨Nat.le_of_ble_eq_true rfl, Nat.le_of_ble_eq_true rfl⟩ rfl rfl (by decide) (by decide) (by decide) (Nat.le_of_ble_eq_true rfl) ?_
  show J 0 0 [(hx, .inr (0, [.ref hq, .ref hr, .int (nI sz)])), (hq, .inr (1, [.ref hh, .int (nI 0), .ref ho]))] 7 [(0, .ref hx)] [.int (if 0 = 0 then 1 else 0)]
  refine hj_if_eq 14 o dX0_least_7 (by decide) (fun c1 => ?_) (fun c1 => ?_)
  · exact absurd c1 (by decide)
  · refine hj_iconst (nI 0) o dX0_least_10 (by decide) ?_
    refine hj_goto 21 o dX0_least_11 (by decide) ?_
    exact hret 0 0 _ 21 _ _ () [0, 1] dX0_least_21 (Nat.le_refl _) (Nat.le_refl _) rfl rfl rfl rfl
set_option maxHeartbeats 8000000 in
set_option maxRecDepth 100000 in
/-- HeapLine.take() of m + 1 values -/
theorem k_xtake (l : Launch) (D : va_G) (dA : ClassId) (hx hq hr hh ho sz m len : Nat) (g : Nat → Int32) (hn : m + 1 ≤ len) (hl : len < 2 ^ 30) (hp : hz_hp g (m + 1)) : hj_KI l yX0_take cX0_take 1 .int (hj_rm 3 96 0 0) D dA [.ref hx] [(hx, .inr (0, [.ref hq, .ref hr, .int (nI sz)])), (hq, .inr (1, [.ref hh, .int (nI (m + 1)), .ref ho])), hj_ar dA hh len g, (ho, .inr (2, []))] (fun (z : Int32) (u : Nat → Int32) => z = g 0 ∧ hz_hp u m ∧ ∀ P : Int32 → Bool, hz_ct P u m + (if P (g 0) then 1 else 0) = hz_ct P g (m + 1)) (fun u => [(hx, .inr (0, [.ref hq, .ref hr, .int (nI sz)])), (hq, .inr (1, [.ref hh, .int (nI m), .ref ho])), hj_ar dA hh len u, (ho, .inr (2, []))]) := by
  refine hj_introI (by decide) (Nat.le_of_ble_eq_true rfl) (fun J o hret => ?_)
  show J 0 0 [(hx, .inr (0, [.ref hq, .ref hr, .int (nI sz)])), (hq, .inr (1, [.ref hh, .int (nI (m + 1)), .ref ho])), hj_ar dA hh len g, (ho, .inr (2, []))] 0 [(0, .ref hx)] []
  refine hj_aload_n o dX0_take_0 0 rfl rfl ?_
  refine hj_get o dX0_take_1 in_X0 0 q52 0 rfl rfl (by decide) rfl ?_
  refine hj_callE [(hx, .inr (0, [.ref hq, .ref hr, .int (nI sz)])), hj_ar dA hh len g, (ho, .inr (2, []))] [1] [0, 2, 3] o dX0_take_4 (k_qempty l D dA hq hh ho (m + 1) (by omega)) 1 rfl ⟨Nat.le_of_ble_eq_true rfl, Nat.le_of_ble_eq_true rfl⟩ ⟨Nat.le_of_ble_eq_true rfl, Nat.le_of_ble_eq_true rfl⟩ rfl rfl (by decide) (by decide) (by decide) (Nat.le_of_ble_eq_true rfl) ?_
  show J 0 0 [(hx, .inr (0, [.ref hq, .ref hr, .int (nI sz)])), hj_ar dA hh len g, (ho, .inr (2, [])), (hq, .inr (1, [.ref hh, .int (nI (m + 1)), .ref ho]))] 7 [(0, .ref hx)] [.int (if (m + 1) = 0 then 1 else 0)]
  refine hj_if_eq 14 o dX0_take_7 (by decide) (fun c1 => ?_) (fun c1 => ?_)
  · refine hj_aload_n o dX0_take_14 0 rfl rfl ?_
    refine hj_get o dX0_take_15 in_X0 0 q52 0 rfl rfl (by decide) rfl ?_
    refine hj_callVi [(hx, .inr (0, [.ref hq, .ref hr, .int (nI sz)]))] [3, 1, 2] [0] 0 o dX0_take_18 (k_qdeq l D dA hq hh ho m len g hn hl hp) (lw_V q120 q121 q122 q5 q123) (by decide +kernel) rfl 3 rfl rfl ⟨Nat.le_of_ble_eq_true rfl, Nat.le_of_ble_eq_true rfl⟩ ⟨Nat.le_of_ble_eq_true rfl, Nat.le_of_ble_eq_true rfl⟩ rfl rfl (by decide) (by decide) (by decide) rfl (Nat.le_of_ble_eq_true rfl) (fun z u hu => ?_)
    show J 0 0 [(hx, .inr (0, [.ref hq, .ref hr, .int (nI sz)])), (hq, .inr (1, [.ref hh, .int (nI m), .ref ho])), hj_ar dA hh len u, (ho, .inr (2, []))] 21 [(0, .ref hx)] [.int z]
    exact hret 0 0 _ 21 _ _ u [0, 1, 2, 3] dX0_take_21 (Nat.le_refl _) (Nat.le_refl _) rfl hu rfl rfl
  · exact absurd (if_neg (by omega)) c1
set_option maxHeartbeats 8000000 in
set_option maxRecDepth 100000 in
/-- HeapLine.least(), with values in it -/
theorem k_xleast (l : Launch) (D : va_G) (dA : ClassId) (hx hq hr hh ho sz n : Nat) (len : Nat) (g : Nat → Int32) (h0 : 0 < n) (hn : n ≤ len) (hl : len < 2 ^ 30) : hj_KI l yX0_least cX0_least 1 .int (hj_rm 3 96 0 0) D dA [.ref hx] [(hx, .inr (0, [.ref hq, .ref hr, .int (nI sz)])), (hq, .inr (1, [.ref hh, .int (nI n), .ref ho])), hj_ar dA hh len g] (fun (z : Int32) (_ : Unit) => z = g 0) (fun _ => [(hx, .inr (0, [.ref hq, .ref hr, .int (nI sz)])), (hq, .inr (1, [.ref hh, .int (nI n), .ref ho])), hj_ar dA hh len g]) := by
  refine hj_introI (by decide) (Nat.le_of_ble_eq_true rfl) (fun J o hret => ?_)
  show J 0 0 [(hx, .inr (0, [.ref hq, .ref hr, .int (nI sz)])), (hq, .inr (1, [.ref hh, .int (nI n), .ref ho])), hj_ar dA hh len g] 0 [(0, .ref hx)] []
  refine hj_aload_n o dX0_least_0 0 rfl rfl ?_
  refine hj_get o dX0_least_1 in_X0 0 q52 0 rfl rfl (by decide) rfl ?_
  refine hj_callE [(hx, .inr (0, [.ref hq, .ref hr, .int (nI sz)])), hj_ar dA hh len g] [1] [0, 2] o dX0_least_4 (k_qempty l D dA hq hh ho n (by omega)) 1 rfl ⟨Nat.le_of_ble_eq_true rfl, Nat.le_of_ble_eq_true rfl⟩ ⟨Nat.le_of_ble_eq_true rfl, Nat.le_of_ble_eq_true rfl⟩ rfl rfl (by decide) (by decide) (by decide) (Nat.le_of_ble_eq_true rfl) ?_
  show J 0 0 [(hx, .inr (0, [.ref hq, .ref hr, .int (nI sz)])), hj_ar dA hh len g, (hq, .inr (1, [.ref hh, .int (nI n), .ref ho]))] 7 [(0, .ref hx)] [.int (if n = 0 then 1 else 0)]
  refine hj_if_eq 14 o dX0_least_7 (by decide) (fun c1 => ?_) (fun c1 => ?_)
  · refine hj_aload_n o dX0_least_14 0 rfl rfl ?_
    refine hj_get o dX0_least_15 in_X0 0 q52 0 rfl rfl (by decide) rfl ?_
    refine hj_callVi [(hx, .inr (0, [.ref hq, .ref hr, .int (nI sz)]))] [2, 1] [0] 0 o dX0_least_18 (k_qfirst l D dA hq hh ho n len g h0 hn hl) (lw_V q192 q193 q194 q5 q195) (by decide +kernel) rfl 2 rfl rfl ⟨Nat.le_of_ble_eq_true rfl, Nat.le_of_ble_eq_true rfl⟩ ⟨Nat.le_of_ble_eq_true rfl, Nat.le_of_ble_eq_true rfl⟩ rfl rfl (by decide) (by decide) (by decide) rfl (Nat.le_of_ble_eq_true rfl) (fun z _ hu => ?_)
    show J 0 0 [(hx, .inr (0, [.ref hq, .ref hr, .int (nI sz)])), (hq, .inr (1, [.ref hh, .int (nI n), .ref ho])), hj_ar dA hh len g] 21 [(0, .ref hx)] [.int z]
    exact hret 0 0 _ 21 _ _ () [0, 1, 2] dX0_least_21 (Nat.le_refl _) (Nat.le_refl _) rfl hu rfl rfl
  · exact absurd (if_neg (by omega)) c1
set_option maxHeartbeats 8000000 in
set_option maxRecDepth 100000 in
theorem k_xwait (l : Launch) (D : va_G) (dA : ClassId) (hx hq hr hh ho sz n : Nat) : hj_KI l yX0_waiting cX0_waiting 1 .int (hj_rm 1 20 0 0) D dA [.ref hx] [(hx, .inr (0, [.ref hq, .ref hr, .int (nI sz)])), (hq, .inr (1, [.ref hh, .int (nI n), .ref ho]))] (fun (z : Int32) (_ : Unit) => z = nI n) (fun _ => [(hx, .inr (0, [.ref hq, .ref hr, .int (nI sz)])), (hq, .inr (1, [.ref hh, .int (nI n), .ref ho]))]) := by
  refine hj_introI (by decide) (Nat.le_of_ble_eq_true rfl) (fun J o hret => ?_)
  show J 0 0 [(hx, .inr (0, [.ref hq, .ref hr, .int (nI sz)])), (hq, .inr (1, [.ref hh, .int (nI n), .ref ho]))] 0 [(0, .ref hx)] []
  refine hj_aload_n o dX0_waiting_0 0 rfl rfl ?_
  refine hj_get o dX0_waiting_1 in_X0 0 q52 0 rfl rfl (by decide) rfl ?_
  refine hj_callVi [(hx, .inr (0, [.ref hq, .ref hr, .int (nI sz)]))] [1] [0] 0 o dX0_waiting_4 (k_qsize l D dA hq hh ho n) (lw_V q66 q67 q68 q5 q69) (by decide +kernel) rfl 1 rfl rfl ⟨Nat.le_of_ble_eq_true rfl, Nat.le_of_ble_eq_true rfl⟩ ⟨Nat.le_of_ble_eq_true rfl, Nat.le_of_ble_eq_true rfl⟩ rfl rfl (by decide) (by decide) (by decide) rfl (Nat.le_of_ble_eq_true rfl) (fun z _ ez => ?_)
  show J 0 0 [(hx, .inr (0, [.ref hq, .ref hr, .int (nI sz)])), (hq, .inr (1, [.ref hh, .int (nI n), .ref ho]))] 7 [(0, .ref hx)] [.int z]
  exact hret 0 0 _ 7 _ _ () [0, 1] dX0_waiting_7 (Nat.le_refl _) (Nat.le_refl _) rfl ez rfl rfl
set_option maxHeartbeats 8000000 in
set_option maxRecDepth 100000 in
theorem k_xdrain (l : Launch) (D : va_G) (dA : ClassId) (hx hq hr hh ho sz n : Nat) : hj_KV l yX0_drain cX0_drain 1 (hj_rm 1 20 0 0) D dA [.ref hx] [(hx, .inr (0, [.ref hq, .ref hr, .int (nI sz)])), (hq, .inr (1, [.ref hh, .int (nI n), .ref ho]))] (fun _ : Unit => True) (fun _ => [(hx, .inr (0, [.ref hq, .ref hr, .int (nI sz)])), (hq, .inr (1, [.ref hh, .int (nI 0), .ref ho]))]) := by
  refine hj_introV (by decide) (Nat.le_of_ble_eq_true rfl) (fun J o hret => ?_)
  show J 0 0 [(hx, .inr (0, [.ref hq, .ref hr, .int (nI sz)])), (hq, .inr (1, [.ref hh, .int (nI n), .ref ho]))] 0 [(0, .ref hx)] []
  refine hj_aload_n o dX0_drain_0 0 rfl rfl ?_
  refine hj_get o dX0_drain_1 in_X0 0 q52 0 rfl rfl (by decide) rfl ?_
  refine hj_callVv [(hx, .inr (0, [.ref hq, .ref hr, .int (nI sz)]))] [1] [0] 0 o dX0_drain_4 (k_qclear l D dA hq hh ho n) (lw_V q204 q205 q206 q5 q207) (by decide +kernel) rfl 1 rfl rfl ⟨Nat.le_of_ble_eq_true rfl, Nat.le_of_ble_eq_true rfl⟩ ⟨Nat.le_of_ble_eq_true rfl, Nat.le_of_ble_eq_true rfl⟩ rfl rfl (by decide) (by decide) (by decide) rfl (Nat.le_of_ble_eq_true rfl) (fun _ _ => ?_)
  show J 0 0 [(hx, .inr (0, [.ref hq, .ref hr, .int (nI sz)])), (hq, .inr (1, [.ref hh, .int (nI 0), .ref ho]))] 7 [(0, .ref hx)] []
  exact hret 0 0 _ 7 _ () [0, 1] dX0_drain_7 (Nat.le_refl _) (Nat.le_refl _) trivial rfl rfl
set_option maxHeartbeats 8000000 in
set_option maxRecDepth 100000 in
theorem k_xclear (l : Launch) (D : va_G) (dA : ClassId) (hx hq hr sz : Nat) : hj_KV l yX0_empty cX0_empty 1 (hj_rm 0 0 0 0) D dA [.ref hx] [(hx, .inr (0, [.ref hq, .ref hr, .int (nI sz)]))] (fun _ : Unit => True) (fun _ => [(hx, .inr (0, [.ref hq, .ref hr, .int (nI 0)]))]) := by
  refine hj_introV (by decide) (Nat.le_of_ble_eq_true rfl) (fun J o hret => ?_)
  show J 0 0 [(hx, .inr (0, [.ref hq, .ref hr, .int (nI sz)]))] 0 [(0, .ref hx)] []
  refine hj_aload_n o dX0_empty_0 0 rfl rfl ?_
  refine hj_iconst (nI 0) o dX0_empty_1 (by decide) ?_
  refine hj_putf (ty := .int) [(hx, .inr (0, [.ref hq, .ref hr, .int (nI 0)]))] tyX0 o dX0_empty_2 in_X0 tyX0_ok nmX0 2 q54 0 rfl rfl (by decide) rfl (by decide +kernel) rfl rfl (Nat.le_of_ble_eq_true rfl) rfl ?_
  exact hret 0 0 _ 5 _ () [0] dX0_empty_5 (Nat.le_refl _) (Nat.le_refl _) trivial rfl rfl
set_option maxHeartbeats 8000000 in
set_option maxRecDepth 100000 in
theorem k_xrow0 (l : Launch) (D : va_G) (dA : ClassId) (hx hq hr : Nat) (at_ : Int32) : hj_KI l yX0_row cX0_row 2 .int (hj_rm 0 0 0 0) D dA [.ref hx, .int at_] [(hx, .inr (0, [.ref hq, .ref hr, .int (nI 0)]))] (fun (z : Int32) (_ : Unit) => z = 0) (fun _ => [(hx, .inr (0, [.ref hq, .ref hr, .int (nI 0)]))]) := by
  refine hj_introI (by decide) (Nat.le_of_ble_eq_true rfl) (fun J o hret => ?_)
  show J 0 0 [(hx, .inr (0, [.ref hq, .ref hr, .int (nI 0)]))] 0 [(0, .ref hx), (1, .int at_)] []
  refine hj_aload_n o dX0_row_0 0 rfl rfl ?_
  refine hj_get o dX0_row_1 in_X0 2 q54 0 rfl rfl (by decide) rfl ?_
  refine hj_if_ne 11 o dX0_row_4 (by decide) (fun c1 => ?_) (fun c1 => ?_)
  · exact absurd nI_0 c1
  · refine hj_iconst (nI 0) o dX0_row_7 (by decide) ?_
    refine hj_goto 25 o dX0_row_8 (by decide) ?_
    exact hret 0 0 _ 25 _ _ () [0] dX0_row_25 (Nat.le_refl _) (Nat.le_refl _) rfl rfl rfl rfl
set_option maxHeartbeats 8000000 in
set_option maxRecDepth 100000 in
theorem k_xrow (l : Launch) (D : va_G) (dA : ClassId) (hx hq hr sz : Nat) (r : Nat → Int32) (at_ : Int32) (h0 : 0 < sz) (hs : sz ≤ 4096) : hj_KI l yX0_row cX0_row 2 .int (hj_rm 0 0 0 0) D dA [.ref hx, .int at_] [(hx, .inr (0, [.ref hq, .ref hr, .int (nI sz)])), hj_ar dA hr 4096 r] (fun (z : Int32) (_ : Unit) => z = r (hz_p at_ % sz)) (fun _ => [(hx, .inr (0, [.ref hq, .ref hr, .int (nI sz)])), hj_ar dA hr 4096 r]) := by
  refine hj_introI (by decide) (Nat.le_of_ble_eq_true rfl) (fun J o hret => ?_)
  have hp := hz_p_lt at_
  have hpz := Nat.mod_lt (hz_p at_) h0
  show J 0 0 [(hx, .inr (0, [.ref hq, .ref hr, .int (nI sz)])), hj_ar dA hr 4096 r] 0 [(0, .ref hx), (1, .int at_)] []
  refine hj_aload_n o dX0_row_0 0 rfl rfl ?_
  refine hj_get o dX0_row_1 in_X0 2 q54 0 rfl rfl (by decide) rfl ?_
  refine hj_if_ne 11 o dX0_row_4 (by decide) (fun c1 => ?_) (fun c1 => ?_)
  · refine hj_aload_n o dX0_row_11 0 rfl rfl ?_
    refine hj_get o dX0_row_12 in_X0 1 q53 0 rfl rfl (by decide) rfl ?_
    refine hj_iload_n o dX0_row_15 1 rfl rfl ?_
    refine hj_ldc o dX0_row_16 q212 ?_
    refine hj_iand_e (nI (hz_p at_)) o dX0_row_18  (hz_p_and at_) ?_
    refine hj_aload_n o dX0_row_19 0 rfl rfl ?_
    refine hj_get o dX0_row_20 in_X0 2 q54 0 rfl rfl (by decide) rfl ?_
    refine hj_irem_n o dX0_row_23 (by omega) (by omega) (by omega) ?_
    refine hj_iald o dX0_row_24 1 rfl (by omega) (by omega) ?_
    exact hret 0 0 _ 25 _ _ () [0, 1] dX0_row_25 (Nat.le_refl _) (Nat.le_refl _) rfl rfl rfl rfl
  · exact absurd c1 (nI_ne0 h0 (by omega))
set_option maxHeartbeats 8000000 in
set_option maxRecDepth 100000 in
theorem k_xramp_loop {l : Launch} {D : va_G} {dA : ClassId} {J : hj_JT} {R : Room} {hx hq hr sz n cells slots : Nat} {r : Nat → Int32} {many first step : Int32} (o : hj_Ok l R D dA RX0 cX0_ramp 6 J) (hs : sz + n ≤ 4096)
    (kont : J cells slots [(hx, .inr (0, [.ref hq, .ref hr, .int (nI (sz + n))])), hj_ar dA hr 4096 (hz_rp r sz (n) first step)] 71 [(0, .ref hx), (1, .int many), (2, .int first), (3, .int step), (4, .int (nI n)), (5, .int (nI n))] []) : ∀ (t i : Nat), n - i < t → i ≤ n → J cells slots [(hx, .inr (0, [.ref hq, .ref hr, .int (nI (sz + i))])), hj_ar dA hr 4096 (hz_rp r sz (i) first step)] 36 [(0, .ref hx), (1, .int many), (2, .int first), (3, .int step), (4, .int (nI n)), (5, .int (nI i))] [] := by
  intro t
  induction t with
  | zero => intro i h1; omega
  | succ t ih =>
    intro i ht hi
    refine hj_iload o dX0_ramp_36 5 rfl ?_
    refine hj_iload o dX0_ramp_38 4 rfl ?_
    refine hj_n_ge 71 o dX0_ramp_40 (by decide) (by omega) (by omega) (fun c1 => ?_) (fun c1 => ?_)
    · have e : i = n := by omega
      subst e
      exact kont
    · refine hj_aload_n o dX0_ramp_43 0 rfl rfl ?_
      refine hj_get o dX0_ramp_44 in_X0 1 q53 0 rfl rfl (by decide) rfl ?_
      refine hj_aload_n o dX0_ramp_47 0 rfl rfl ?_
      refine hj_dup o dX0_ramp_48 rfl ?_
      refine hj_get o dX0_ramp_49 in_X0 2 q54 0 rfl rfl (by decide) rfl ?_
      refine hj_dup_x1 o dX0_ramp_52 rfl rfl ?_
      refine hj_iconst (nI 1) o dX0_ramp_53 (by decide) ?_
      refine hj_iadd_n o dX0_ramp_54 ?_
      refine hj_putf (ty := .int) [(hx, .inr (0, [.ref hq, .ref hr, .int (nI ((sz + i) + 1))])), hj_ar dA hr 4096 (hz_rp r sz (i) first step)] tyX0 o dX0_ramp_55 in_X0 tyX0_ok nmX0 2 q54 0 rfl rfl (by decide) rfl (by decide +kernel) rfl rfl (Nat.le_of_ble_eq_true rfl) rfl ?_
      refine hj_iload_n o dX0_ramp_58 2 rfl rfl ?_
      refine hj_iload o dX0_ramp_59 5 rfl ?_
      refine hj_iload_n o dX0_ramp_61 3 rfl rfl ?_
      refine hj_imul o dX0_ramp_62 ?_
      refine hj_iadd o dX0_ramp_63 ?_
      refine hj_iast [(hx, .inr (0, [.ref hq, .ref hr, .int (nI ((sz + i) + 1))])), hj_ar dA hr 4096 (upd (hz_rp r sz (i) first step) (sz + i) ((first + ((nI i) * step))))] o dX0_ramp_64 1 rfl (by omega) (by omega) rfl ?_
      rw [hz_rp_succ]
      refine hj_iinc_n [(0, .ref hx), (1, .int many), (2, .int first), (3, .int step), (4, .int (nI n)), (5, .int (nI (i + 1)))] o dX0_ramp_65 5 rfl (by decide) rfl ?_
      refine hj_goto 36 o dX0_ramp_68 (by decide) ?_
      exact ih (i + 1) (by omega) (by omega)
set_option maxHeartbeats 8000000 in
set_option maxRecDepth 100000 in
/-- HeapLine.ramp(many, first, step) -/
theorem k_xramp (l : Launch) (D : va_G) (dA : ClassId) (hx hq hr sz : Nat) (r : Nat → Int32) (many first step : Int32) (hs : sz ≤ 4096) : hj_KI l yX0_ramp cX0_ramp 6 .int (hj_rm 0 0 0 0) D dA [.ref hx, .int many, .int first, .int step] [(hx, .inr (0, [.ref hq, .ref hr, .int (nI sz)])), hj_ar dA hr 4096 r] (fun (z : Int32) (_ : Unit) => z = nI (hz_rn many sz)) (fun _ => [(hx, .inr (0, [.ref hq, .ref hr, .int (nI (sz + hz_rn many sz))])), hj_ar dA hr 4096 (hz_rp r sz (hz_rn many sz) first step)]) := by
  refine hj_introI (by decide) (Nat.le_of_ble_eq_true rfl) (fun J o hret => ?_)
  have hp := hz_p_lt many
  have hp2 := Nat.mod_lt (hz_p many) (show 257 > 0 by decide)
  have k33 : ∀ n : Nat, n = hz_rn many sz → J 0 0 [(hx, .inr (0, [.ref hq, .ref hr, .int (nI sz)])), hj_ar dA hr 4096 r] 33 [(0, .ref hx), (1, .int many), (2, .int first), (3, .int step), (4, .int (nI n))] [] := by
    intro n hn
    have hn2 : sz + n ≤ 4096 := by rw [hn]; unfold hz_rn; omega
    refine hj_iconst (nI 0) o dX0_ramp_33 (by decide) ?_
    refine hj_istore [(0, .ref hx), (1, .int many), (2, .int first), (3, .int step), (4, .int (nI n)), (5, .int (nI 0))] o dX0_ramp_34 (by decide) rfl ?_
    have k := k_xramp_loop (cells := 0) (slots := 0) (r := r) (many := many) (first := first) (step := step) (hx := hx) (hq := hq) (hr := hr) o hn2 ?_ (n + 1) 0 (by omega) (by omega)
    · rw [hz_rp_0] at k
      exact k
    · refine hj_iload o dX0_ramp_71 4 rfl ?_
      rw [← hn] at hret
      exact hret 0 0 _ 73 _ _ () [0, 1] dX0_ramp_73 (Nat.le_refl _) (Nat.le_refl _) rfl rfl rfl rfl
  show J 0 0 [(hx, .inr (0, [.ref hq, .ref hr, .int (nI sz)])), hj_ar dA hr 4096 r] 0 [(0, .ref hx), (1, .int many), (2, .int first), (3, .int step)] []
  refine hj_iload_n o dX0_ramp_0 1 rfl rfl ?_
  refine hj_ldc o dX0_ramp_1 q212 ?_
  refine hj_iand_e (nI (hz_p many)) o dX0_ramp_3  (hz_p_and many) ?_
  refine hj_sipush (nI 257) o dX0_ramp_4 (by decide) ?_
  refine hj_irem_n o dX0_ramp_7 (by omega) (by omega) (by omega) ?_
  refine hj_istore [(0, .ref hx), (1, .int many), (2, .int first), (3, .int step), (4, .int (nI ((hz_p many) % 257)))] o dX0_ramp_8 (by decide) rfl ?_
  refine hj_iload o dX0_ramp_10 4 rfl ?_
  refine hj_sipush (nI 4096) o dX0_ramp_12 (by decide) ?_
  refine hj_aload_n o dX0_ramp_15 0 rfl rfl ?_
  refine hj_get o dX0_ramp_16 in_X0 2 q54 0 rfl rfl (by decide) rfl ?_
  refine hj_isub_n o dX0_ramp_19 (by omega) ?_
  refine hj_n_le 33 o dX0_ramp_20 (by decide) (by omega) (by omega) (fun c1 => ?_) (fun c1 => ?_)
  · exact k33 _ (by unfold hz_rn; omega)
  · refine hj_sipush (nI 4096) o dX0_ramp_23 (by decide) ?_
    refine hj_aload_n o dX0_ramp_26 0 rfl rfl ?_
    refine hj_get o dX0_ramp_27 in_X0 2 q54 0 rfl rfl (by decide) rfl ?_
    refine hj_isub_n o dX0_ramp_30 (by omega) ?_
    refine hj_istore [(0, .ref hx), (1, .int many), (2, .int first), (3, .int step), (4, .int (nI (4096 - sz)))] o dX0_ramp_31 (by decide) rfl ?_
    exact k33 _ (by unfold hz_rn; omega)
end
section
/-! HeapLine.quick. printed by gen_line.py -/
set_option maxHeartbeats 8000000 in
set_option maxRecDepth 100000 in
/-- HeapLine.quick(at, many) -/
theorem k_xquick (l : Launch) (D : va_G) (dA : ClassId) (hx hq hr sz : Nat) (r : Nat → Int32) (at_ many : Int32) (hs : sz ≤ 4096) : hj_KI l yX0_quick cX0_quick 5 .int (hj_rm 2044 65408 0 0) D dA [.ref hx, .int at_, .int many] [(hx, .inr (0, [.ref hq, .ref hr, .int (nI sz)])), hj_ar dA hr 4096 r] (fun (z : Int32) (u : Nat → Int32) => z = nI (hz_on many sz (hz_of at_ sz)) ∧ hz_sm r u (hz_of at_ sz) (hz_of at_ sz + hz_on many sz (hz_of at_ sz)) ∧ hz_so u (hz_of at_ sz) (hz_of at_ sz + hz_on many sz (hz_of at_ sz))) (fun u => [(hx, .inr (0, [.ref hq, .ref hr, .int (nI sz)])), hj_ar dA hr 4096 u]) := by
  refine hj_introI (by decide) (Nat.le_of_ble_eq_true rfl) (fun J o hret => ?_)
  have hp := hz_p_lt at_
  have hp2 := hz_p_lt many
  have hf := hz_of_le at_ sz
  have hn := hz_on_le many sz (hz_of at_ sz)
  show J 0 0 [(hx, .inr (0, [.ref hq, .ref hr, .int (nI sz)])), hj_ar dA hr 4096 r] 0 [(0, .ref hx), (1, .int at_), (2, .int many)] []
  refine hj_iload_n o dX0_quick_0 1 rfl rfl ?_
  refine hj_ldc o dX0_quick_1 q212 ?_
  refine hj_iand_e (nI (hz_p at_)) o dX0_quick_3  (hz_p_and at_) ?_
  refine hj_aload_n o dX0_quick_4 0 rfl rfl ?_
  refine hj_get o dX0_quick_5 in_X0 2 q54 0 rfl rfl (by decide) rfl ?_
  refine hj_iconst (nI 1) o dX0_quick_8 (by decide) ?_
  refine hj_iadd_n o dX0_quick_9 ?_
  refine hj_irem_n o dX0_quick_10 (by omega) (by omega) (by omega) ?_
  obtain ⟨f, ef⟩ : ∃ f, f = hz_of at_ sz := ⟨_, rfl⟩
  rw [show hz_p at_ % (sz + 1) = f from ef.symm]
  rw [← ef] at hf hn hret
  refine hj_istore_n [(0, .ref hx), (1, .int at_), (2, .int many), (3, .int (nI f))] o dX0_quick_11 rfl (by decide) rfl ?_
  refine hj_iload_n o dX0_quick_12 2 rfl rfl ?_
  refine hj_ldc o dX0_quick_13 q212 ?_
  refine hj_iand_e (nI (hz_p many)) o dX0_quick_15  (hz_p_and many) ?_
  refine hj_aload_n o dX0_quick_16 0 rfl rfl ?_
  refine hj_get o dX0_quick_17 in_X0 2 q54 0 rfl rfl (by decide) rfl ?_
  refine hj_iload_n o dX0_quick_20 3 rfl rfl ?_
  refine hj_isub_n o dX0_quick_21 (by omega) ?_
  refine hj_iconst (nI 1) o dX0_quick_22 (by decide) ?_
  refine hj_iadd_n o dX0_quick_23 ?_
  refine hj_irem_n o dX0_quick_24 (by omega) (by omega) (by omega) ?_
  obtain ⟨n, en⟩ : ∃ n, n = hz_on many sz f := ⟨_, rfl⟩
  rw [show hz_p many % (sz - f + 1) = n from en.symm]
  rw [← en] at hn hret
  refine hj_istore [(0, .ref hx), (1, .int at_), (2, .int many), (3, .int (nI f)), (4, .int (nI n))] o dX0_quick_25 (by decide) rfl ?_
  refine hj_aload_n o dX0_quick_27 0 rfl rfl ?_
  refine hj_get o dX0_quick_28 in_X0 1 q53 0 rfl rfl (by decide) rfl ?_
  refine hj_iload_n o dX0_quick_31 3 rfl rfl ?_
  refine hj_iload_n o dX0_quick_32 3 rfl rfl ?_
  refine hj_iload o dX0_quick_33 4 rfl ?_
  refine hj_iadd_n o dX0_quick_35 ?_
  refine hj_callSv [(hx, .inr (0, [.ref hq, .ref hr, .int (nI sz)]))] [1] [0] 3 o dX0_quick_36 (k_quick l D dA hr 4096 (by omega) 2041 f (f + n) r (by omega) (by omega) (by omega)) (lw_S q221 q222 q7 q223) (by decide +kernel) rfl ⟨by dsimp only [hj_rm]; omega, by dsimp only [hj_rm]; omega⟩ ⟨by dsimp only [hj_rm]; omega, by dsimp only [hj_rm]; omega⟩ rfl rfl (by decide) (by decide) (by decide) rfl (Nat.le_of_ble_eq_true rfl) (fun u hu => ?_)
  refine hj_iload o dX0_quick_39 4 rfl ?_
  exact hret _ _ _ 41 _ _ u [0, 1] dX0_quick_41 (by dsimp only [hj_rm]; omega) (by dsimp only [hj_rm]; omega) rfl ⟨rfl, hu⟩ rfl rfl
end
section
/-! HeapLine.merge. printed by gen_line.py -/
set_option maxHeartbeats 8000000 in
set_option maxRecDepth 100000 in
/-- HeapLine.merge(at, many) -/
theorem k_xmerge (l : Launch) (D : va_G) (dA : ClassId) (hx hq hr sz : Nat) (r : Nat → Int32) (at_ many : Int32) (hs : sz ≤ 4096) : hj_KI l yX0_merge cX0_merge 5 .int (hj_rm 2045 65536 1 4096) D dA [.ref hx, .int at_, .int many] [(hx, .inr (0, [.ref hq, .ref hr, .int (nI sz)])), hj_ar dA hr 4096 r] (fun (z : Int32) (u : Nat → Int32) => z = nI (hz_on many sz (hz_of at_ sz)) ∧ hz_sm r u (hz_of at_ sz) (hz_of at_ sz + hz_on many sz (hz_of at_ sz)) ∧ hz_so u (hz_of at_ sz) (hz_of at_ sz + hz_on many sz (hz_of at_ sz))) (fun u => [(hx, .inr (0, [.ref hq, .ref hr, .int (nI sz)])), hj_ar dA hr 4096 u]) := by
  refine hj_introI (by decide) (Nat.le_of_ble_eq_true rfl) (fun J o hret => ?_)
  have hp := hz_p_lt at_
  have hp2 := hz_p_lt many
  have hf := hz_of_le at_ sz
  have hn := hz_on_le many sz (hz_of at_ sz)
  show J 0 0 [(hx, .inr (0, [.ref hq, .ref hr, .int (nI sz)])), hj_ar dA hr 4096 r] 0 [(0, .ref hx), (1, .int at_), (2, .int many)] []
  refine hj_iload_n o dX0_merge_0 1 rfl rfl ?_
  refine hj_ldc o dX0_merge_1 q212 ?_
  refine hj_iand_e (nI (hz_p at_)) o dX0_merge_3  (hz_p_and at_) ?_
  refine hj_aload_n o dX0_merge_4 0 rfl rfl ?_
  refine hj_get o dX0_merge_5 in_X0 2 q54 0 rfl rfl (by decide) rfl ?_
  refine hj_iconst (nI 1) o dX0_merge_8 (by decide) ?_
  refine hj_iadd_n o dX0_merge_9 ?_
  refine hj_irem_n o dX0_merge_10 (by omega) (by omega) (by omega) ?_
  obtain ⟨f, ef⟩ : ∃ f, f = hz_of at_ sz := ⟨_, rfl⟩
  rw [show hz_p at_ % (sz + 1) = f from ef.symm]
  rw [← ef] at hf hn hret
  refine hj_istore_n [(0, .ref hx), (1, .int at_), (2, .int many), (3, .int (nI f))] o dX0_merge_11 rfl (by decide) rfl ?_
  refine hj_iload_n o dX0_merge_12 2 rfl rfl ?_
  refine hj_ldc o dX0_merge_13 q212 ?_
  refine hj_iand_e (nI (hz_p many)) o dX0_merge_15  (hz_p_and many) ?_
  refine hj_aload_n o dX0_merge_16 0 rfl rfl ?_
  refine hj_get o dX0_merge_17 in_X0 2 q54 0 rfl rfl (by decide) rfl ?_
  refine hj_iload_n o dX0_merge_20 3 rfl rfl ?_
  refine hj_isub_n o dX0_merge_21 (by omega) ?_
  refine hj_iconst (nI 1) o dX0_merge_22 (by decide) ?_
  refine hj_iadd_n o dX0_merge_23 ?_
  refine hj_irem_n o dX0_merge_24 (by omega) (by omega) (by omega) ?_
  obtain ⟨n, en⟩ : ∃ n, n = hz_on many sz f := ⟨_, rfl⟩
  rw [show hz_p many % (sz - f + 1) = n from en.symm]
  rw [← en] at hn hret
  refine hj_istore [(0, .ref hx), (1, .int at_), (2, .int many), (3, .int (nI f)), (4, .int (nI n))] o dX0_merge_25 (by decide) rfl ?_
  refine hj_aload_n o dX0_merge_27 0 rfl rfl ?_
  refine hj_get o dX0_merge_28 in_X0 1 q53 0 rfl rfl (by decide) rfl ?_
  refine hj_iload_n o dX0_merge_31 3 rfl rfl ?_
  refine hj_iload_n o dX0_merge_32 3 rfl rfl ?_
  refine hj_iload o dX0_merge_33 4 rfl ?_
  refine hj_iadd_n o dX0_merge_35 ?_
  refine hj_callSv [(hx, .inr (0, [.ref hq, .ref hr, .int (nI sz)]))] [1] [0] 3 o dX0_merge_36 (k_merge l D dA 2040 hr 4096 f (f + n) r (by omega) (by omega) (by omega) (by omega)) (lw_S q247 q248 q7 q249) (by decide +kernel) rfl ⟨by dsimp only [hj_rm]; omega, by dsimp only [hj_rm]; omega⟩ ⟨by dsimp only [hj_rm]; omega, by dsimp only [hj_rm]; omega⟩ rfl rfl (by decide) (by decide) (by decide) rfl (Nat.le_of_ble_eq_true rfl) (fun u hu => ?_)
  refine hj_iload o dX0_merge_39 4 rfl ?_
  exact hret _ _ _ 41 _ _ u [0, 1] dX0_merge_41 (by dsimp only [hj_rm]; omega) (by dsimp only [hj_rm]; omega) rfl ⟨rfl, hu⟩ rfl rfl
end
section
/-! PURE 6: radix sort: keys, digits, counts of digits -/
/-- the unsigned key of an int: order of ints is order of keys -/
def hz_key (x : Int32) : Nat := (x.toBitVec.toNat + 2 ^ 31) % 2 ^ 32
theorem hz_key_int (x : Int32) : x.toInt = (hz_key x : Int) - 2 ^ 31 := by
  have h1 : x.toInt = x.toBitVec.toInt := rfl
  have h2 := x.toBitVec.isLt
  rw [h1, BitVec.toInt_eq_toNat_cond]
  unfold hz_key
  split <;> omega
/-- the first v bytes of the key -/
def hz_tp (v : Nat) (x : Int32) : Nat := hz_key x / 2 ^ (8 * (4 - v))
/-- byte v of the key -/
def hz_dg (v : Nat) (x : Int32) : Nat := hz_key x / 2 ^ (8 * (3 - v)) % 256
theorem hz_dg_lt (v : Nat) (x : Int32) : hz_dg v x < 256 := Nat.mod_lt _ (by decide)
theorem hz_tp_succ {v : Nat} (hv : v ≤ 3) (x : Int32) : hz_tp (v + 1) x = hz_tp v x * 256 + hz_dg v x := by
  unfold hz_tp hz_dg
  have h : v = 0 ∨ v = 1 ∨ v = 2 ∨ v = 3 := by omega
  rcases h with rfl | rfl | rfl | rfl <;> simp <;> omega
theorem hz_tp_4 (x : Int32) : hz_tp 4 x = hz_key x := by
  unfold hz_tp
  simp
theorem hz_tp_0 (x : Int32) : hz_tp 0 x = 0 := by
  unfold hz_tp hz_key
  exact Nat.div_eq_of_lt (Nat.mod_lt _ (by decide))
theorem hz_tp_lt {v : Nat} {x y : Int32} (h : hz_tp v x < hz_tp v y) : x.toInt < y.toInt := by
  have h1 : ¬ hz_key y ≤ hz_key x := fun q => by
    have := Nat.div_le_div_right (c := 2 ^ (8 * (4 - v))) q
    unfold hz_tp at h
    omega
  rw [hz_key_int x, hz_key_int y]
  omega
theorem hz_tp_4eq {x y : Int32} (h : hz_tp 4 x = hz_tp 4 y) : x = y := by
  rw [hz_tp_4, hz_tp_4] at h
  exact Int32.toInt_inj.mp (by rw [hz_key_int x, hz_key_int y, h])
theorem hz_dg_lt_int {v : Nat} {x y : Int32} (hv : v ≤ 3) (ht : hz_tp v x = hz_tp v y) (hd : hz_dg v x < hz_dg v y) : x.toInt < y.toInt := by
  apply hz_tp_lt (v := v + 1)
  rw [hz_tp_succ hv, hz_tp_succ hv, ht]
  omega
/-- the code's digit -/
def hz_us (v : Nat) (x : Int32) : Int32 := (x.toUInt32 >>> ((nI ((3 - v) * 8)).toUInt32 &&& Int32.toUInt32 31)).toInt32
def hz_mk (v : Nat) : Nat := if v = 0 then 128 else 0
theorem hz_xor128 : ∀ a, a < 256 → nI a ^^^ nI 128 = nI ((a + 128) % 256) := by decide +kernel
theorem hz_xor0 : ∀ a, a < 256 → nI a ^^^ nI 0 = nI a := by decide +kernel
theorem hz_dg_eq {v : Nat} (hv : v ≤ 3) (x : Int32) : (hz_us v x &&& nI 255) ^^^ nI (hz_mk v) = nI (hz_dg v x) := by
  have h2 := x.toBitVec.isLt
  have key : ∀ k : Nat, ((((nI ((3 - v) * 8)).toUInt32 &&& Int32.toUInt32 31).toBitVec % 32).toNat = k) → hz_us v x &&& nI 255 = nI (x.toBitVec.toNat / 2 ^ k % 256) := by
    intro k hk
    have e1 := pk_ushr x (nI ((3 - v) * 8)) k hk
    unfold hz_us
    rw [pk_and _ 8 (by decide), e1]
  have h : v = 0 ∨ v = 1 ∨ v = 2 ∨ v = 3 := by omega
  unfold hz_dg hz_key
  rcases h with rfl | rfl | rfl | rfl
  · rw [key 24 (by decide)]
    show nI _ ^^^ nI 128 = _
    rw [hz_xor128 _ (Nat.mod_lt _ (by decide))]
    refine congrArg nI ?_
    simp
    omega
  · rw [key 16 (by decide)]
    show nI _ ^^^ nI 0 = _
    rw [hz_xor0 _ (Nat.mod_lt _ (by decide))]
    refine congrArg nI ?_
    simp
    omega
  · rw [key 8 (by decide)]
    show nI _ ^^^ nI 0 = _
    rw [hz_xor0 _ (Nat.mod_lt _ (by decide))]
    refine congrArg nI ?_
    simp
    omega
  · rw [key 0 (by decide)]
    show nI _ ^^^ nI 0 = _
    rw [hz_xor0 _ (Nat.mod_lt _ (by decide))]
    refine congrArg nI ?_
    simp
    omega
/-- counts in a range -/
def hz_rc (P : Int32 → Bool) (f : Nat → Int32) (a b : Nat) : Nat := hz_ct P f b - hz_ct P f a
def hz_cs (v : Nat) (f : Nat → Int32) (a b d : Nat) : Nat := hz_rc (fun x => decide (hz_dg v x = d)) f a b
def hz_cc (v : Nat) (f : Nat → Int32) (a b d : Nat) : Nat := hz_rc (fun x => decide (hz_dg v x < d)) f a b
theorem hz_ct_lt_succ (v : Nat) (f : Nat → Int32) (d : Nat) : ∀ n, hz_ct (fun x => decide (hz_dg v x < d + 1)) f n = hz_ct (fun x => decide (hz_dg v x < d)) f n + hz_ct (fun x => decide (hz_dg v x = d)) f n
  | 0 => rfl
  | n + 1 => by
    rw [hz_ct_succ, hz_ct_succ, hz_ct_succ, hz_ct_lt_succ v f d n]
    by_cases h1 : hz_dg v (f n) < d
    · have h2 : hz_dg v (f n) < d + 1 := by omega
      have h3 : ¬ hz_dg v (f n) = d := by omega
      simp [h1, h2, h3]; omega
    · by_cases h3 : hz_dg v (f n) = d
      · have h2 : hz_dg v (f n) < d + 1 := by omega
        simp [h1, h2, h3]; omega
      · have h2 : ¬ hz_dg v (f n) < d + 1 := by omega
        simp [h1, h2, h3]
theorem hz_cc_0 (v : Nat) (f : Nat → Int32) {a b : Nat} (h : a ≤ b) : hz_cc v f a b 0 = 0 := by
  unfold hz_cc hz_rc
  rw [hz_ct_flat h (fun k _ _ => by simp)]
  omega
theorem hz_cc_succ (v : Nat) (f : Nat → Int32) {a b : Nat} (h : a ≤ b) (d : Nat) : hz_cc v f a b (d + 1) = hz_cc v f a b d + hz_cs v f a b d := by
  unfold hz_cc hz_cs hz_rc
  rw [hz_ct_lt_succ, hz_ct_lt_succ]
  have h1 := (hz_ct_mono (P := fun x => decide (hz_dg v x < d)) (f := f) h).1
  have h2 := (hz_ct_mono (P := fun x => decide (hz_dg v x = d)) (f := f) h).1
  omega
theorem hz_cc_mono (v : Nat) (f : Nat → Int32) {a b d e : Nat} (h : a ≤ b) (hde : d ≤ e) : hz_cc v f a b d ≤ hz_cc v f a b e := by
  obtain ⟨n, rfl⟩ : ∃ n, e = d + n := ⟨e - d, by omega⟩
  clear hde
  induction n with
  | zero => exact Nat.le_refl _
  | succ n ih =>
    have := hz_cc_succ v f h (d + n)
    have e1 : d + (n + 1) = d + n + 1 := by omega
    rw [e1]
    omega
theorem hz_cc_256 (v : Nat) (f : Nat → Int32) {a b : Nat} (h : a ≤ b) : hz_cc v f a b 256 = b - a := by
  unfold hz_cc hz_rc
  rw [hz_ct_full h (fun k _ _ => by simpa using hz_dg_lt v (f k))]
  omega
theorem hz_cs_sm {v : Nat} {f g : Nat → Int32} {a b : Nat} (h : hz_sm f g a b) (d : Nat) : hz_cs v g a b d = hz_cs v f a b d := by
  unfold hz_cs hz_rc
  rw [h.2, hz_ct_cong (f := g) (g := f) (n := a) (fun k hk => h.1 k (Or.inl hk))]
theorem hz_cs_step (v : Nat) (f : Nat → Int32) {i b : Nat} (h : i < b) (d : Nat) : hz_cs v f i b d = hz_cs v f (i + 1) b d + (if hz_dg v (f i) = d then 1 else 0) := by
  unfold hz_cs hz_rc
  have h1 := (hz_ct_mono (P := fun x => decide (hz_dg v x = d)) (f := f) (show i + 1 ≤ b by omega)).1
  rw [hz_ct_succ] at h1 ⊢
  by_cases c : hz_dg v (f i) = d
  · simp only [c, decide_true, if_true] at h1 ⊢
    omega
  · simp only [c, decide_false, Bool.false_eq_true, if_false] at h1 ⊢
    omega
theorem hz_cs_e (v : Nat) (f : Nat → Int32) (b d : Nat) : hz_cs v f b b d = 0 := by unfold hz_cs hz_rc; omega
/-- a run of the digit d, and another place with it before the run -/
theorem hz_cs_run {v : Nat} {f : Nat → Int32} {a b d i x y : Nat} (h1 : a ≤ i) (h2 : i < x) (h3 : x ≤ y) (h4 : y ≤ b) (hi : hz_dg v (f i) = d) (hr : ∀ q, x ≤ q → q < y → hz_dg v (f q) = d) : (y - x) + 1 ≤ hz_cs v f a b d := by
  unfold hz_cs hz_rc
  have e1 := hz_ct_pos (P := fun x => decide (hz_dg v x = d)) (f := f) (a := a) (b := x) h1 h2 (by simpa using hi)
  have e2 := hz_ct_full (P := fun x => decide (hz_dg v x = d)) (f := f) h3 (fun k k1 k2 => by simpa using hr k k1 k2)
  have e3 := (hz_ct_mono (P := fun x => decide (hz_dg v x = d)) (f := f) h4).1
  omega
/-- .. behind the run -/
theorem hz_cs_run2 {v : Nat} {f : Nat → Int32} {a b d i x y : Nat} (h1 : a ≤ x) (h3 : x ≤ y) (h2 : y ≤ i) (h4 : i < b) (hi : hz_dg v (f i) = d) (hr : ∀ q, x ≤ q → q < y → hz_dg v (f q) = d) : (y - x) + 1 ≤ hz_cs v f a b d := by
  unfold hz_cs hz_rc
  have e1 := hz_ct_pos (P := fun x => decide (hz_dg v x = d)) (f := f) (a := y) (b := b) h2 h4 (by simpa using hi)
  have e2 := hz_ct_full (P := fun x => decide (hz_dg v x = d)) (f := f) h3 (fun k k1 k2 => by simpa using hr k k1 k2)
  have e3 := (hz_ct_mono (P := fun x => decide (hz_dg v x = d)) (f := f) h1).1
  omega
theorem hz_cs_pos {v : Nat} {f : Nat → Int32} {a b d i : Nat} (h1 : a ≤ i) (h4 : i < b) (hi : hz_dg v (f i) = d) : 1 ≤ hz_cs v f a b d := by
  have := hz_cs_run2 (x := a) (y := a) (Nat.le_refl a) (Nat.le_refl a) h1 h4 hi (fun q q1 q2 => by omega)
  omega
/-- THE PERMUTATION: f1 the segment [a, b) at its start, h what it is now (the hole filled), the classes below k laid, p the places laid of each class -/
def hz_rx (v : Nat) (f1 : Nat → Int32) (a b k i : Nat) (p : Nat → Nat) (h : Nat → Int32) : Prop :=
  i = a + hz_cc v f1 a b k ∧ hz_sm f1 h a b ∧ (∀ q, i ≤ q → q < b → k ≤ hz_dg v (h q)) ∧
  ∀ d, k ≤ d → d < 256 → a + hz_cc v f1 a b d ≤ p d ∧ p d ≤ a + hz_cc v f1 a b (d + 1) ∧ ∀ q, p d ≤ q → q < a + hz_cc v f1 a b (d + 1) → hz_dg v (h q) = d
/-- the class c is laid whole, from i on -/
def hz_rw (v : Nat) (f1 : Nat → Int32) (a b i c : Nat) (h : Nat → Int32) : Prop := a + hz_cc v f1 a b c = i ∧ ∀ q, i ≤ q → q < a + hz_cc v f1 a b (c + 1) → hz_dg v (h q) = c
theorem hz_rx_0 {v : Nat} {f1 : Nat → Int32} {a b : Nat} (hab : a ≤ b) : hz_rx v f1 a b 0 a (fun d => a + hz_cc v f1 a b (d + 1)) f1 :=
  ⟨by rw [hz_cc_0 v f1 hab]; rfl, hz_sm_rf _ _ _, fun _ _ _ => Nat.zero_le _, fun d _ _ => ⟨Nat.add_le_add_left (hz_cc_mono v f1 hab (by omega)) _, Nat.le_refl _, fun q q1 q2 => absurd q2 (Nat.not_lt.mpr q1)⟩⟩
theorem hz_rx_c {v : Nat} {f1 h : Nat → Int32} {a b k i : Nat} {p : Nat → Nat} (hx : hz_rx v f1 a b k i p h) (hib : i < b) : k ≤ hz_dg v (h i) ∧ hz_dg v (h i) < 256 := ⟨hx.2.2.1 i (Nat.le_refl _) hib, hz_dg_lt _ _⟩
theorem hz_rx_low {v : Nat} {f1 h : Nat → Int32} {a b k i : Nat} {p : Nat → Nat} (hab : a ≤ b) (hx : hz_rx v f1 a b k i p h) (hib : i < b) : i ≤ p (hz_dg v (h i)) := by
  obtain ⟨hk, hc⟩ := hz_rx_c hx hib
  obtain ⟨x0, -, -, x3⟩ := hx
  have h1 := (x3 _ hk hc).1
  have h2 := hz_cc_mono v f1 hab hk
  omega
/-- the place found isn't above i: the class is whole -/
theorem hz_rx_end {v : Nat} {f1 h : Nat → Int32} {a b k i : Nat} {p : Nat → Nat} (hab : a ≤ b) (hx : hz_rx v f1 a b k i p h) (hib : i < b) (hp : p (hz_dg v (h i)) ≤ i + 1) : hz_rw v f1 a b i (hz_dg v (h i)) h := by
  have hlow := hz_rx_low hab hx hib
  obtain ⟨hk, hc⟩ := hz_rx_c hx hib
  obtain ⟨x0, x1, x2, x3⟩ := hx
  obtain ⟨y1, y2, y3⟩ := x3 _ hk hc
  have m1 := hz_cc_mono v f1 hab hk
  have m2 := hz_cc_succ v f1 hab (hz_dg v (h i))
  have m3 := hz_cc_mono v f1 hab (show hz_dg v (h i) + 1 ≤ 256 by omega)
  rw [hz_cc_256 v f1 hab] at m3
  rcases Nat.lt_or_ge i (p (hz_dg v (h i))) with c | c
  · have m4 := hz_cs_run (v := v) (f := h) (a := a) (b := b) (i := i) (x := p (hz_dg v (h i))) (y := a + hz_cc v f1 a b (hz_dg v (h i) + 1)) (by omega) c y2 (by omega) rfl y3
    rw [hz_cs_sm x1] at m4
    refine ⟨by omega, fun q q1 q2 => ?_⟩
    by_cases e : q = i
    · rw [e]
    · exact y3 q (by omega) q2
  · exact ⟨by omega, fun q q1 q2 => y3 q (by omega) q2⟩
/-- the place found is above i -/
theorem hz_rx_place {v : Nat} {f1 h : Nat → Int32} {a b k i : Nat} {p : Nat → Nat} (hab : a ≤ b) (hx : hz_rx v f1 a b k i p h) (hib : i < b) (hp : i + 1 < p (hz_dg v (h i))) :
    p (hz_dg v (h i)) ≤ b ∧ hz_rx v f1 a b k i (fun d => if d = hz_dg v (h i) then p (hz_dg v (h i)) - 1 else p d) (hz_sw h i (p (hz_dg v (h i)) - 1)) := by
  obtain ⟨hk, hc⟩ := hz_rx_c hx hib
  obtain ⟨x0, x1, x2, x3⟩ := hx
  obtain ⟨y1, y2, y3⟩ := x3 _ hk hc
  have m1 := hz_cc_mono v f1 hab hk
  have m2 := hz_cc_succ v f1 hab (hz_dg v (h i))
  have m3 := hz_cc_mono v f1 hab (show hz_dg v (h i) + 1 ≤ 256 by omega)
  rw [hz_cc_256 v f1 hab] at m3
  have m4 := hz_cs_run (v := v) (f := h) (a := a) (b := b) (i := i) (x := p (hz_dg v (h i))) (y := a + hz_cc v f1 a b (hz_dg v (h i) + 1)) (by omega) (by omega) y2 (by omega) rfl y3
  rw [hz_cs_sm x1] at m4
  generalize hcd : hz_dg v (h i) = c at *
  refine ⟨by omega, x0, hz_sm_tr x1 (hz_sw_sm (by omega) (by omega) (by omega) (by omega)), fun q q1 q2 => ?_, fun d d1 d2 => ?_⟩
  · by_cases e1 : q = i
    · rw [e1, hz_sw_l]; exact x2 _ (by omega) (by omega)
    · by_cases e2 : q = p c - 1
      · rw [e2, hz_sw_r]; exact x2 _ (by omega) (by omega)
      · rw [hz_sw_o e1 e2]; exact x2 q q1 q2
  · by_cases e : d = c
    · subst e
      dsimp only
      rw [if_pos rfl]
      refine ⟨by omega, by omega, fun q q1 q2 => ?_⟩
      by_cases e2 : q = p d - 1
      · rw [e2, hz_sw_r]; exact hcd
      · rw [hz_sw_o (by omega) e2]
        exact y3 q (by omega) q2
    · dsimp only
      rw [if_neg e]
      obtain ⟨z1, z2, z3⟩ := x3 d d1 d2
      refine ⟨z1, z2, fun q q1 q2 => ?_⟩
      have e1 : q ≠ i := fun e1 => by
        have := z3 q q1 q2
        rw [e1, hcd] at this
        exact e this.symm
      have e2 : q ≠ p c - 1 := fun e2 => by
        rcases Nat.lt_or_ge d c with o | o
        · have := hz_cc_mono v f1 hab (show d + 1 ≤ c by omega)
          omega
        · have := hz_cc_mono v f1 hab (show c + 1 ≤ d by omega)
          omega
      rw [hz_sw_o e1 e2]
      exact z3 q q1 q2
/-- the last class needs no moves -/
theorem hz_rx_last {v : Nat} {f1 h : Nat → Int32} {a b k i u : Nat} {p : Nat → Nat} (hab : a ≤ b) (hx : hz_rx v f1 a b k i p h) (hib : i < b) (hu : hz_cc v f1 a b (u + 1) = b - a) (hi : a + hz_cc v f1 a b u ≤ i) : hz_rw v f1 a b i (hz_dg v (h i)) h := by
  obtain ⟨x0, x1, x2, x3⟩ := hx
  have aux : ∀ q, i ≤ q → q < b → hz_dg v (h q) = u ∧ a + hz_cc v f1 a b u = i := by
    intro q q1 q2
    have hk := x2 q q1 q2
    have h1 := hz_cs_pos (v := v) (f := h) (a := a) (b := b) (i := q) (by omega) q2 rfl
    rw [hz_cs_sm x1] at h1
    have h2 := hz_cc_succ v f1 hab (hz_dg v (h q))
    have h3 := hz_cc_mono v f1 hab hk
    have h4 := hz_cc_mono v f1 hab (show hz_dg v (h q) + 1 ≤ 256 from hz_dg_lt v (h q))
    rw [hz_cc_256 v f1 hab] at h4
    rcases Nat.lt_or_ge u (hz_dg v (h q)) with o | o
    · have := hz_cc_mono v f1 hab (show u + 1 ≤ hz_dg v (h q) by omega)
      omega
    · rcases Nat.lt_or_ge (hz_dg v (h q)) u with o2 | o2
      · have := hz_cc_mono v f1 hab (show hz_dg v (h q) + 1 ≤ u by omega)
        omega
      · have e : hz_dg v (h q) = u := by omega
        rw [e] at h3
        exact ⟨e, by omega⟩
  have e0 := (aux i (Nat.le_refl _) hib).1
  rw [e0]
  refine ⟨(aux i (Nat.le_refl _) hib).2, fun q q1 q2 => (aux q q1 (by omega)).1⟩
/-- behind a whole class -/
theorem hz_rx_next {v : Nat} {f1 h : Nat → Int32} {a b k i c : Nat} {p : Nat → Nat} (hab : a ≤ b) (hx : hz_rx v f1 a b k i p h) (hkc : k ≤ c) (hc : c < 256) (hw : hz_rw v f1 a b i c h) : hz_rx v f1 a b (c + 1) (i + hz_cs v f1 a b c) p h := by
  obtain ⟨x0, x1, x2, x3⟩ := hx
  obtain ⟨w1, w2⟩ := hw
  have m2 := hz_cc_succ v f1 hab c
  have m3 := hz_cc_mono v f1 hab (show c + 1 ≤ 256 by omega)
  rw [hz_cc_256 v f1 hab] at m3
  refine ⟨by omega, x1, fun q q1 q2 => ?_, fun d d1 d2 => x3 d (by omega) d2⟩
  have hk := x2 q (by omega) q2
  rcases Nat.lt_or_ge c (hz_dg v (h q)) with o | o
  · exact o
  · exfalso
    by_cases e : hz_dg v (h q) = c
    · have m4 := hz_cs_run2 (v := v) (f := h) (a := a) (b := b) (i := q) (x := i) (y := a + hz_cc v f1 a b (c + 1)) (by omega) (by omega) (by omega) q2 e w2
      rw [hz_cs_sm x1] at m4
      omega
    · have h1 := hz_cs_pos (v := v) (f := h) (a := a) (b := b) (i := q) (by omega) q2 rfl
      rw [hz_cs_sm x1] at h1
      have h2 := hz_cc_succ v f1 hab (hz_dg v (h q))
      have h3 := hz_cc_mono v f1 hab hk
      have h4 := hz_cc_mono v f1 hab (show hz_dg v (h q) + 1 ≤ c by omega)
      omega
/-- the cycle's move -/
theorem hz_cyc {f : Nat → Int32} {i d : Nat} {t : Int32} (h : i ≠ d) : upd (upd f d t) i (f d) = hz_sw (upd f i t) i d := by
  funext q
  rw [hz_sw_at]
  simp only [hz_upd_eq]
  by_cases e1 : q = i
  · subst e1
    simp [h, Ne.symm h]
  · by_cases e2 : q = d
    · subst e2
      simp [e1]
    · simp [e1, e2]
/-- sums -/
def hz_sum (f : Nat → Nat) : Nat → Nat
  | 0 => 0
  | n + 1 => hz_sum f n + f n
theorem hz_sum_cong {f g : Nat → Nat} : ∀ {n : Nat}, (∀ k, k < n → f k = g k) → hz_sum f n = hz_sum g n
  | 0, _ => rfl
  | n + 1, h => by
    show hz_sum f n + f n = hz_sum g n + g n
    rw [hz_sum_cong (n := n) (fun k hk => h k (by omega)), h n (by omega)]
theorem hz_sum_upd (f : Nat → Nat) {c y : Nat} : ∀ {n : Nat}, c < n → hz_sum (fun d => if d = c then y else f d) n + f c = hz_sum f n + y
  | 0, h => by omega
  | n + 1, h => by
    show hz_sum (fun d => if d = c then y else f d) n + (if n = c then y else f n) + f c = hz_sum f n + f n + y
    by_cases e : n = c
    · have e2 : hz_sum (fun d => if d = c then y else f d) n = hz_sum f n := hz_sum_cong (fun k hk => if_neg (by omega))
      rw [e2, if_pos e, e]
      omega
    · have := hz_sum_upd f (c := c) (y := y) (n := n) (by omega)
      rw [if_neg e]
      omega
end
section
/-! PURE 7: radix sort: the stack of segments, the order between them -/
/-- the values of [x, y) agree in their first v bytes -/
def hz_seg (f : Nat → Int32) (x y v : Nat) : Prop := ∃ w, ∀ q, x ≤ q → q < y → hz_tp v (f q) = w
theorem hz_seg_sm {f g : Nat → Int32} {x y v : Nat} (h : hz_seg f x y v) (hs : hz_sm f g x y) : hz_seg g x y v := by
  obtain ⟨w, hw⟩ := h
  exact ⟨w, hz_sm_all hs (fun z => hz_tp v z = w) hw⟩
theorem hz_seg_cong {f g : Nat → Int32} {x y v : Nat} (h : hz_seg f x y v) (e : ∀ q, x ≤ q → q < y → g q = f q) : hz_seg g x y v := by
  obtain ⟨w, hw⟩ := h
  exact ⟨w, fun q q1 q2 => by rw [e q q1 q2]; exact hw q q1 q2⟩
/-- radix sort between two classes: sp segments on the stack, [x, e) in work, all else settled -/
def hz_rr (f0 f : Nat → Int32) (lo hi sp : Nat) (so sl sv : Nat → Nat) (x e : Nat) : Prop :=
  hz_sm f0 f lo hi ∧ (lo ≤ x ∧ x ≤ e ∧ e ≤ hi) ∧
  (∀ s, s < sp → lo + 1024 * s ≤ so s ∧ 1024 ≤ sl s ∧ so s + sl s ≤ x ∧ sv s ≤ 3 ∧ hz_seg f (so s) (so s + sl s) (sv s)) ∧
  (∀ s t, s < t → t < sp → so s + sl s ≤ so t) ∧
  ∀ p q, lo ≤ p → p < q → q < hi → (f p).toInt ≤ (f q).toInt ∨ (∃ s, s < sp ∧ so s ≤ p ∧ q < so s + sl s) ∨ (x ≤ p ∧ q < e)
theorem hz_rr_init {f : Nat → Int32} {lo hi : Nat} (h : lo + 1024 ≤ hi) : hz_rr f f lo hi 1 (fun _ => lo) (fun _ => hi - lo) (fun _ => 0) hi hi := by
  refine ⟨hz_sm_rf _ _ _, ⟨by omega, Nat.le_refl _, Nat.le_refl _⟩, fun s hs => ⟨by dsimp only; omega, by dsimp only; omega, by dsimp only; omega, by dsimp only; omega, 0, fun q _ _ => hz_tp_0 _⟩, fun s t h1 h2 => by omega, fun p q p1 pq q1 => Or.inr (Or.inl ⟨0, by omega, p1, by dsimp only; omega⟩)⟩
theorem hz_rr_end {f0 f : Nat → Int32} {lo hi : Nat} {so sl sv : Nat → Nat} (h : hz_rr f0 f lo hi 0 so sl sv hi hi) : hz_sm f0 f lo hi ∧ hz_so f lo hi := by
  obtain ⟨h1, h2, h3, h4, h5⟩ := h
  refine ⟨h1, fun i j i1 ij j1 => ?_⟩
  by_cases e : i = j
  · rw [e]; exact Int.le_refl _
  · rcases h5 i j i1 (by omega) j1 with q | ⟨s, q, -⟩ | q
    · exact q
    · omega
    · omega
theorem hz_rr_done {f0 f : Nat → Int32} {lo hi sp : Nat} {so sl sv : Nat → Nat} {x : Nat} (h : hz_rr f0 f lo hi sp so sl sv x x) : hz_rr f0 f lo hi sp so sl sv hi hi := by
  obtain ⟨h1, h2, h3, h4, h5⟩ := h
  refine ⟨h1, ⟨by omega, Nat.le_refl _, Nat.le_refl _⟩, fun s hs => ?_, h4, fun p q p1 pq q1 => ?_⟩
  · obtain ⟨a1, a2, a3, a4, a5⟩ := h3 s hs
    exact ⟨a1, a2, by omega, a4, a5⟩
  · rcases h5 p q p1 pq q1 with c | c | c
    · exact Or.inl c
    · exact Or.inr (Or.inl c)
    · omega
theorem hz_rr_pop {f0 f : Nat → Int32} {lo hi sp : Nat} {so sl sv : Nat → Nat} (h : hz_rr f0 f lo hi (sp + 1) so sl sv hi hi) : hz_rr f0 f lo hi sp so sl sv (so sp) (so sp + sl sp) := by
  obtain ⟨h1, h2, h3, h4, h5⟩ := h
  obtain ⟨b1, b2, b3, b4, b5⟩ := h3 sp (by omega)
  refine ⟨h1, ⟨by omega, by omega, b3⟩, fun s hs => ?_, fun s t h1 h2 => h4 s t h1 (by omega), fun p q p1 pq q1 => ?_⟩
  · obtain ⟨a1, a2, a3, a4, a5⟩ := h3 s (by omega)
    exact ⟨a1, a2, h4 s sp hs (by omega), a4, a5⟩
  · rcases h5 p q p1 pq q1 with c | ⟨s, s1, s2, s3⟩ | c
    · exact Or.inl c
    · by_cases e : s = sp
      · rw [e] at s2 s3
        exact Or.inr (Or.inr ⟨s2, s3⟩)
      · exact Or.inr (Or.inl ⟨s, by omega, s2, s3⟩)
    · omega
theorem hz_rr_perm {f0 f g : Nat → Int32} {lo hi sp : Nat} {so sl sv : Nat → Nat} {x e : Nat} (h : hz_rr f0 f lo hi sp so sl sv x e) (hs : hz_sm f g x e) : hz_rr f0 g lo hi sp so sl sv x e := by
  obtain ⟨h1, h2, h3, h4, h5⟩ := h
  refine ⟨hz_sm_tr h1 (hz_sm_wide hs h2.1 h2.2.2), h2, fun s hs' => ?_, h4, fun p q p1 pq q1 => ?_⟩
  · obtain ⟨a1, a2, a3, a4, a5⟩ := h3 s hs'
    exact ⟨a1, a2, a3, a4, hz_seg_cong a5 (fun q q1 q2 => hs.1 q (by omega))⟩
  · -- below the work
    have low : ∀ p', lo ≤ p' → p' < x → ∀ q', x ≤ q' → q' < e → (f p').toInt ≤ (f q').toInt := by
      intro p' a1 a2 q' a3 a4
      rcases h5 p' q' a1 (by omega) (by omega) with c | ⟨s, s1, s2, s3⟩ | c
      · exact c
      · have := (h3 s s1).2.2.1
        omega
      · omega
    have high : ∀ q', e ≤ q' → q' < hi → ∀ p', x ≤ p' → p' < e → (f p').toInt ≤ (f q').toInt := by
      intro q' a1 a2 p' a3 a4
      rcases h5 p' q' (by omega) (by omega) a2 with c | ⟨s, s1, s2, s3⟩ | c
      · exact c
      · have := (h3 s s1).2.2.1
        omega
      · omega
    rcases Nat.lt_or_ge p x with c1 | c1
    · rw [hs.1 p (Or.inl c1)]
      by_cases c2 : x ≤ q ∧ q < e
      · exact Or.inl (hz_sm_all hs (fun z => (f p).toInt ≤ z.toInt) (fun k k1 k2 => low p p1 c1 k k1 k2) q c2.1 c2.2)
      · rw [hs.1 q (by omega)]
        exact h5 p q p1 pq q1
    · rcases Nat.lt_or_ge p e with c2 | c2
      · rcases Nat.lt_or_ge q e with c3 | c3
        · exact Or.inr (Or.inr ⟨c1, c3⟩)
        · rw [hs.1 q (Or.inr c3)]
          exact Or.inl (hz_sm_all hs (fun z => z.toInt ≤ (f q).toInt) (fun k k1 k2 => high q c3 q1 k k1 k2) p c1 c2)
      · rw [hs.1 p (Or.inr c2), hs.1 q (by omega)]
        exact h5 p q p1 pq q1
theorem hz_rr_next {f0 f : Nat → Int32} {lo hi sp : Nat} {so sl sv : Nat → Nat} {x y e : Nat} (h : hz_rr f0 f lo hi sp so sl sv x e) (h1 : x ≤ y) (h2 : y ≤ e) (hc : ∀ p q, x ≤ p → p < y → y ≤ q → q < e → (f p).toInt ≤ (f q).toInt) (ho : hz_so f x y) : hz_rr f0 f lo hi sp so sl sv y e := by
  obtain ⟨a1, a2, a3, a4, a5⟩ := h
  refine ⟨a1, ⟨by omega, h2, a2.2.2⟩, fun s hs => ?_, a4, fun p q p1 pq q1 => ?_⟩
  · obtain ⟨b1, b2, b3, b4, b5⟩ := a3 s hs
    exact ⟨b1, b2, by omega, b4, b5⟩
  · rcases a5 p q p1 pq q1 with c | c | c
    · exact Or.inl c
    · exact Or.inr (Or.inl c)
    · rcases Nat.lt_or_ge p y with d | d
      · rcases Nat.lt_or_ge q y with d2 | d2
        · exact Or.inl (ho p q c.1 (by omega) d2)
        · exact Or.inl (hc p q c.1 d d2 c.2)
      · exact Or.inr (Or.inr ⟨d, c.2⟩)
/-- a list of numbers with one more -/
def hz_ap (f : Nat → Nat) (n y : Nat) : Nat → Nat := fun s => if s = n then y else f s
theorem hz_ap_n (f : Nat → Nat) (n y : Nat) : hz_ap f n y n = y := if_pos rfl
theorem hz_ap_o {f : Nat → Nat} {n y s : Nat} (h : s < n) : hz_ap f n y s = f s := if_neg (by omega)
theorem hz_rr_push {f0 f : Nat → Int32} {lo hi sp : Nat} {so sl sv : Nat → Nat} {x y e v : Nat} (h : hz_rr f0 f lo hi sp so sl sv x e) (h1 : x + 1024 ≤ y) (h2 : y ≤ e) (hc : ∀ p q, x ≤ p → p < y → y ≤ q → q < e → (f p).toInt ≤ (f q).toInt) (hv : v ≤ 3) (hg : hz_seg f x y v) : hz_rr f0 f lo hi (sp + 1) (hz_ap so sp x) (hz_ap sl sp (y - x)) (hz_ap sv sp v) y e := by
  obtain ⟨a1, a2, a3, a4, a5⟩ := h
  refine ⟨a1, ⟨by omega, h2, a2.2.2⟩, fun s hs => ?_, fun s t st ht => ?_, fun p q p1 pq q1 => ?_⟩
  · by_cases c : s = sp
    · rw [c, hz_ap_n, hz_ap_n, hz_ap_n]
      refine ⟨?_, by omega, by omega, hv, ?_⟩
      · by_cases z : sp = 0
        · omega
        · obtain ⟨b1, b2, b3, b4, b5⟩ := a3 (sp - 1) (by omega)
          omega
      · rw [show x + (y - x) = y by omega]
        exact hg
    · rw [hz_ap_o (by omega), hz_ap_o (by omega), hz_ap_o (by omega)]
      obtain ⟨b1, b2, b3, b4, b5⟩ := a3 s (by omega)
      exact ⟨b1, b2, by omega, b4, b5⟩
  · rw [hz_ap_o (show s < sp by omega), hz_ap_o (show s < sp by omega)]
    by_cases c : t = sp
    · rw [c, hz_ap_n]
      exact (a3 s (by omega)).2.2.1
    · rw [hz_ap_o (by omega)]
      exact a4 s t st (by omega)
  · rcases a5 p q p1 pq q1 with c | ⟨s, s1, s2, s3⟩ | c
    · exact Or.inl c
    · exact Or.inr (Or.inl ⟨s, by omega, by rw [hz_ap_o s1]; exact s2, by rw [hz_ap_o s1, hz_ap_o s1]; exact s3⟩)
    · rcases Nat.lt_or_ge p y with d | d
      · rcases Nat.lt_or_ge q y with d2 | d2
        · exact Or.inr (Or.inl ⟨sp, by omega, by rw [hz_ap_n]; exact c.1, by rw [hz_ap_n, hz_ap_n]; omega⟩)
        · exact Or.inl (hc p q c.1 d d2 c.2)
      · exact Or.inr (Or.inr ⟨d, c.2⟩)
/-- the stack is short -/
theorem hz_rr_sp {f0 f : Nat → Int32} {lo hi sp : Nat} {so sl sv : Nat → Nat} {x e : Nat} (h : hz_rr f0 f lo hi sp so sl sv x e) : lo + 1024 * sp ≤ x := by
  obtain ⟨a1, a2, a3, a4, a5⟩ := h
  by_cases z : sp = 0
  · omega
  · obtain ⟨b1, b2, b3, b4, b5⟩ := a3 (sp - 1) (by omega)
    omega
/-- a class against what lies behind it -/
theorem hz_rx_cross {v : Nat} {f1 h : Nat → Int32} {a b k i c : Nat} {p : Nat → Nat} (hab : a ≤ b) (hv : v ≤ 3) (hx : hz_rx v f1 a b k i p h) (hkc : k ≤ c) (hc : c < 256) (hw : hz_rw v f1 a b i c h) (hg : hz_seg h a b v) : (∀ p q, i ≤ p → p < i + hz_cs v f1 a b c → i + hz_cs v f1 a b c ≤ q → q < b → (h p).toInt ≤ (h q).toInt) ∧ hz_seg h i (i + hz_cs v f1 a b c) (v + 1) ∧ i + hz_cs v f1 a b c ≤ b ∧ a ≤ i := by
  have hn := hz_rx_next hab hx hkc hc hw
  obtain ⟨w1, w2⟩ := hw
  obtain ⟨g, hg⟩ := hg
  have m2 := hz_cc_succ v f1 hab c
  have m3 := hz_cc_mono v f1 hab (show c + 1 ≤ 256 by omega)
  rw [hz_cc_256 v f1 hab] at m3
  refine ⟨fun p q p1 p2 q1 q2 => ?_, ⟨g * 256 + c, fun q q1 q2 => ?_⟩, by omega, by omega⟩
  · have e1 := w2 p p1 (by omega)
    have e2 := hn.2.2.1 q q1 q2
    exact Int.le_of_lt (hz_dg_lt_int hv (by rw [hg p (by omega) (by omega), hg q (by omega) q2]) (by omega))
  · rw [hz_tp_succ hv, hg q (by omega) (by omega), w2 q q1 (by omega)]
/-- the places behind x don't see a rearrangement below it -/
theorem hz_rx_perm {v : Nat} {f1 h g : Nat → Int32} {a b k x y : Nat} {p : Nat → Nat} (hab : a ≤ b) (hx : hz_rx v f1 a b k x p h) (h1 : a ≤ y) (hxb : x ≤ b) (hs : hz_sm h g y x) : hz_rx v f1 a b k x p g := by
  obtain ⟨x0, x1, x2, x3⟩ := hx
  refine ⟨x0, hz_sm_tr x1 (hz_sm_wide hs h1 hxb), fun q q1 q2 => by rw [hs.1 q (Or.inr q1)]; exact x2 q q1 q2, fun d d1 d2 => ?_⟩
  obtain ⟨y1, y2, y3⟩ := x3 d d1 d2
  refine ⟨y1, y2, fun q q1 q2 => ?_⟩
  have := hz_cc_mono v f1 hab d1
  rw [hs.1 q (by omega)]
  exact y3 q q1 q2
/-- the work that the stack still holds -/
def hz_mu (sp : Nat) (sl sv : Nat → Nat) : Nat := hz_sum (fun s => sl s * (4 - sv s)) sp
theorem hz_mu_push (sp : Nat) (sl sv : Nat → Nat) (y v : Nat) : hz_mu (sp + 1) (hz_ap sl sp y) (hz_ap sv sp v) = hz_mu sp sl sv + y * (4 - v) := by
  unfold hz_mu
  show hz_sum _ sp + hz_ap sl sp y sp * (4 - hz_ap sv sp v sp) = _
  rw [hz_ap_n, hz_ap_n, hz_sum_cong (g := fun s => sl s * (4 - sv s)) (fun s hs => by rw [hz_ap_o hs, hz_ap_o hs])]
theorem hz_mu_pop (sp : Nat) (sl sv : Nat → Nat) : hz_mu (sp + 1) sl sv = hz_mu sp sl sv + sl sp * (4 - sv sp) := rfl
/-- equal in all four bytes: sorted -/
theorem hz_seg_4 {f : Nat → Int32} {x y : Nat} (h : hz_seg f x y 4) : hz_so f x y := by
  obtain ⟨w, hw⟩ := h
  intro i j i1 ij j1
  rw [hz_tp_4eq ((hw i i1 (by omega)).trans (hw j (by omega) j1).symm)]
  exact Int.le_refl _
end
section
/-! IntArrays.radixSort. printed by gen_radix.py -/
theorem hz_cnt_step {v : Nat} {f fc : Nat → Int32} {i b : Nat} (hi : i < b) (h : ∀ d, d < 256 → fc d = nI (hz_cs v f (i + 1) b d)) : ∀ d, d < 256 → upd fc (hz_dg v (f i)) (fc (hz_dg v (f i)) + nI 1) d = nI (hz_cs v f i b d) := by
  intro d hd
  rw [hz_cs_step v f hi d, hz_upd_eq]
  by_cases c : d = hz_dg v (f i)
  · rw [if_pos c, if_pos c.symm, ← c, h d hd]
    exact nI_add _ _
  · rw [if_neg c, if_neg (fun e => c e.symm), h d hd]
    exact congrArg nI (Nat.add_zero _).symm
/-- the last class met that isn't empty -/
def hz_lu (lu : Int32) (v : Nat) (f : Nat → Int32) (a b i : Nat) : Prop := (lu = -1 ∧ hz_cc v f a b i = 0) ∨ ∃ u, u < i ∧ lu = nI u ∧ 0 < hz_cs v f a b u ∧ hz_cc v f a b i = hz_cc v f a b (u + 1)
theorem hz_lu_keep {lu : Int32} {v : Nat} {f : Nat → Int32} {a b i : Nat} (h : hz_lu lu v f a b i) (hc : hz_cc v f a b (i + 1) = hz_cc v f a b i) : hz_lu lu v f a b (i + 1) := by
  rcases h with ⟨e1, e2⟩ | ⟨u, u1, u2, u3, u4⟩
  · exact Or.inl ⟨e1, hc.trans e2⟩
  · exact Or.inr ⟨u, Nat.lt_succ_of_lt u1, u2, u3, hc.trans u4⟩
theorem hz_cs_le (v : Nat) (f : Nat → Int32) {a b : Nat} (hab : a ≤ b) (d : Nat) : hz_cs v f a b d ≤ b - a := by
  unfold hz_cs hz_rc
  have := (hz_ct_mono (P := fun x => decide (hz_dg v x = d)) (f := f) hab).2
  omega
/-- what the three stack arrays hold -/
def hz_st (fo fl fv : Nat → Int32) (sp : Nat) (so sl sv : Nat → Nat) : Prop := ∀ s, s < sp → fo s = nI (so s) ∧ fl s = nI (sl s) ∧ fv s = nI (sv s)
theorem hz_st_push {fo fl fv : Nat → Int32} {sp : Nat} {so sl sv : Nat → Nat} (h : hz_st fo fl fv sp so sl sv) (x y z : Nat) : hz_st (upd fo sp (nI x)) (upd fl sp (nI y)) (upd fv sp (nI z)) (sp + 1) (hz_ap so sp x) (hz_ap sl sp y) (hz_ap sv sp z) := by
  intro s hs
  by_cases c : s = sp
  · rw [c, pk_us, pk_us, pk_us, hz_ap_n, hz_ap_n, hz_ap_n]
    exact ⟨rfl, rfl, rfl⟩
  · rw [pk_un c, pk_un c, pk_un c, hz_ap_o (by omega), hz_ap_o (by omega), hz_ap_o (by omega)]
    exact h s (by omega)
set_option maxHeartbeats 16000000 in
set_option maxRecDepth 100000 in
theorem k_rx_count {l : Launch} {D : va_G} {dA : ClassId} {J : hj_JT} {R : Room} {h h4 h5 h6 h7 h8 n lo hi cells slots a b len v : Nat} {sp : Nat} {f fo fl fv fp : Nat → Int32} (o : hj_Ok l R D dA RX3 cX3_radixSort 21 J) (hn : n < 2 ^ 19) (hbn : b ≤ n) (hb : b = a + len) (hv : v ≤ 3)
    (kont : ∀ fc : Nat → Int32, (∀ d, d < 256 → fc d = nI (hz_cs v f a b d)) → J cells slots [hj_ar dA h n f, hj_ar dA h4 766 fo, hj_ar dA h5 766 fl, hj_ar dA h6 766 fv, hj_ar dA h7 256 fc, hj_ar dA h8 256 fp] 166 [(0, .ref h), (1, .int (nI lo)), (2, .int (nI hi)), (3, .int (nI sp)), (4, .ref h4), (5, .ref h5), (6, .ref h6), (7, .ref h7), (8, .ref h8), (9, .int (nI a)), (10, .int (nI len)), (11, .int (nI v)), (12, .int (nI (hz_mk v))), (13, .int (nI ((3 - v) * 8)))] []) : ∀ (t i : Nat) (fc : Nat → Int32), i < t → a ≤ i → i ≤ b → (∀ d, d < 256 → fc d = nI (hz_cs v f i b d)) → J cells slots [hj_ar dA h n f, hj_ar dA h4 766 fo, hj_ar dA h5 766 fl, hj_ar dA h6 766 fv, hj_ar dA h7 256 fc, hj_ar dA h8 256 fp] 132 [(0, .ref h), (1, .int (nI lo)), (2, .int (nI hi)), (3, .int (nI sp)), (4, .ref h4), (5, .ref h5), (6, .ref h6), (7, .ref h7), (8, .ref h8), (9, .int (nI a)), (10, .int (nI len)), (11, .int (nI v)), (12, .int (nI (hz_mk v))), (13, .int (nI ((3 - v) * 8))), (14, .int (nI i))] [] := by
  intro t
  induction t with
  | zero => intro i fc h1; omega
  | succ t ih =>
    intro i fc ht hi1 hi2 hc
    by_cases hia : i = a
    · subst hia
      refine hj_iload o dX3_radixSort_132 14 rfl ?_
      refine hj_iinc _ [(0, .ref h), (1, .int (nI lo)), (2, .int (nI hi)), (3, .int (nI sp)), (4, .ref h4), (5, .ref h5), (6, .ref h6), (7, .ref h7), (8, .ref h8), (9, .int (nI i)), (10, .int (nI len)), (11, .int (nI v)), (12, .int (nI (hz_mk v))), (13, .int (nI ((3 - v) * 8))), (14, .int (nI i + Int32.ofInt (-1)))] o dX3_radixSort_134 14 rfl rfl (by decide) rfl ?_
      refine hj_iload o dX3_radixSort_137 9 rfl ?_
      refine hj_n_eq 166 o dX3_radixSort_139 (by decide) (by omega) (by omega) (fun c1 => ?_) (fun c1 => ?_)
      · refine hj_lv [(0, .ref h), (1, .int (nI lo)), (2, .int (nI hi)), (3, .int (nI sp)), (4, .ref h4), (5, .ref h5), (6, .ref h6), (7, .ref h7), (8, .ref h8), (9, .int (nI i)), (10, .int (nI len)), (11, .int (nI v)), (12, .int (nI (hz_mk v))), (13, .int (nI ((3 - v) * 8)))] [0, 1, 2, 3, 4, 5, 6, 7, 8, 9, 10, 11, 12, 13] o rfl ?_
        exact kont fc hc
      · exact absurd rfl c1
    · obtain ⟨i, rfl⟩ : ∃ i2, i = i2 + 1 := ⟨i - 1, by omega⟩
      refine hj_iload o dX3_radixSort_132 14 rfl ?_
      refine hj_iinc_m [(0, .ref h), (1, .int (nI lo)), (2, .int (nI hi)), (3, .int (nI sp)), (4, .ref h4), (5, .ref h5), (6, .ref h6), (7, .ref h7), (8, .ref h8), (9, .int (nI a)), (10, .int (nI len)), (11, .int (nI v)), (12, .int (nI (hz_mk v))), (13, .int (nI ((3 - v) * 8))), (14, .int (nI i))] o dX3_radixSort_134 14 rfl (by decide) rfl ?_
      refine hj_iload o dX3_radixSort_137 9 rfl ?_
      refine hj_n_eq 166 o dX3_radixSort_139 (by decide) (by omega) (by omega) (fun c1 => ?_) (fun c1 => ?_)
      · omega
      · refine hj_aload o dX3_radixSort_142 7 rfl ?_
        refine hj_aload_n o dX3_radixSort_144 0 rfl rfl ?_
        refine hj_iload o dX3_radixSort_145 14 rfl ?_
        refine hj_iald o dX3_radixSort_147 0 rfl (by omega) (by omega) ?_
        refine hj_iload o dX3_radixSort_148 13 rfl ?_
        refine hj_iushr_e (hz_us v (f i)) o dX3_radixSort_150  rfl ?_
        refine hj_sipush (nI 255) o dX3_radixSort_151 (by decide) ?_
        refine hj_iand o dX3_radixSort_154 ?_
        refine hj_iload o dX3_radixSort_155 12 rfl ?_
        refine hj_ixor_e (nI (hz_dg v (f i))) o dX3_radixSort_157  (hz_dg_eq hv (f i)) ?_
        refine hj_dup2 o dX3_radixSort_158 rfl rfl ?_
        refine hj_iald o dX3_radixSort_159 4 rfl (hz_dg_lt _ _) (by omega) ?_
        refine hj_iconst (nI 1) o dX3_radixSort_160 (by decide) ?_
        refine hj_iadd o dX3_radixSort_161 ?_
        refine hj_iast [hj_ar dA h n f, hj_ar dA h4 766 fo, hj_ar dA h5 766 fl, hj_ar dA h6 766 fv, hj_ar dA h7 256 (upd fc (hz_dg v (f i)) (((fc (hz_dg v (f i))) + (nI 1)))), hj_ar dA h8 256 fp] o dX3_radixSort_162 4 rfl (hz_dg_lt _ _) (by omega) rfl ?_
        refine hj_goto 132 o dX3_radixSort_163 (by decide) ?_
        exact ih i _ (by omega) (by omega) (by omega) (hz_cnt_step (by omega) hc)
set_option maxHeartbeats 16000000 in
set_option maxRecDepth 100000 in
theorem k_rx_pos {l : Launch} {D : va_G} {dA : ClassId} {J : hj_JT} {R : Room} {h h4 h5 h6 h7 h8 n lo hi cells slots a b len v : Nat} {sp : Nat} {f fo fl fv fc : Nat → Int32} (o : hj_Ok l R D dA RX3 cX3_radixSort 21 J) (hn : n < 2 ^ 19) (hbn : b ≤ n) (hb : b = a + len) (hv : v ≤ 3) (hfc : ∀ d, d < 256 → fc d = nI (hz_cs v f a b d))
    (kont : ∀ (fp : Nat → Int32) (lu : Int32), (∀ d, d < 256 → fp d = nI (a + hz_cc v f a b (d + 1))) → hz_lu lu v f a b 256 → J cells slots [hj_ar dA h n f, hj_ar dA h4 766 fo, hj_ar dA h5 766 fl, hj_ar dA h6 766 fv, hj_ar dA h7 256 fc, hj_ar dA h8 256 fp] 218 [(0, .ref h), (1, .int (nI lo)), (2, .int (nI hi)), (3, .int (nI sp)), (4, .ref h4), (5, .ref h5), (6, .ref h6), (7, .ref h7), (8, .ref h8), (9, .int (nI a)), (10, .int (nI len)), (11, .int (nI v)), (12, .int (nI (hz_mk v))), (13, .int (nI ((3 - v) * 8))), (14, .int lu)] []) : ∀ (t i : Nat) (fp : Nat → Int32) (lu : Int32), 256 - i < t → i ≤ 256 → (∀ d, d < i → fp d = nI (a + hz_cc v f a b (d + 1))) → (hz_lu lu v f a b i) → J cells slots [hj_ar dA h n f, hj_ar dA h4 766 fo, hj_ar dA h5 766 fl, hj_ar dA h6 766 fv, hj_ar dA h7 256 fc, hj_ar dA h8 256 fp] 176 [(0, .ref h), (1, .int (nI lo)), (2, .int (nI hi)), (3, .int (nI sp)), (4, .ref h4), (5, .ref h5), (6, .ref h6), (7, .ref h7), (8, .ref h8), (9, .int (nI a)), (10, .int (nI len)), (11, .int (nI v)), (12, .int (nI (hz_mk v))), (13, .int (nI ((3 - v) * 8))), (14, .int lu), (15, .int (nI i)), (16, .int (nI (a + hz_cc v f a b i)))] [] := by
  intro t
  induction t with
  | zero => intro i fp lu h1; omega
  | succ t ih =>
    intro i fp lu ht hi6 hp hlu
    have hab : a ≤ b := by omega
    refine hj_iload o dX3_radixSort_176 15 rfl ?_
    refine hj_sipush (nI 256) o dX3_radixSort_178 (by decide) ?_
    refine hj_n_ge 218 o dX3_radixSort_181 (by decide) (by omega) (by omega) (fun c1 => ?_) (fun c1 => ?_)
    · have e : i = 256 := by omega
      subst e
      refine hj_lv [(0, .ref h), (1, .int (nI lo)), (2, .int (nI hi)), (3, .int (nI sp)), (4, .ref h4), (5, .ref h5), (6, .ref h6), (7, .ref h7), (8, .ref h8), (9, .int (nI a)), (10, .int (nI len)), (11, .int (nI v)), (12, .int (nI (hz_mk v))), (13, .int (nI ((3 - v) * 8))), (14, .int lu)] [0, 1, 2, 3, 4, 5, 6, 7, 8, 9, 10, 11, 12, 13, 14] o rfl ?_
      exact kont fp lu hp hlu
    · have hcs := hz_cs_le v f hab i
      have hcc := hz_cc_succ v f hab i
      have hc2 := hz_cc_mono v f hab (show i + 1 ≤ 256 by omega)
      rw [hz_cc_256 v f hab] at hc2
      have k196 : ∀ lw : Int32, (hz_lu lw v f a b (i + 1)) → J cells slots [hj_ar dA h n f, hj_ar dA h4 766 fo, hj_ar dA h5 766 fl, hj_ar dA h6 766 fv, hj_ar dA h7 256 fc, hj_ar dA h8 256 fp] 196 [(0, .ref h), (1, .int (nI lo)), (2, .int (nI hi)), (3, .int (nI sp)), (4, .ref h4), (5, .ref h5), (6, .ref h6), (7, .ref h7), (8, .ref h8), (9, .int (nI a)), (10, .int (nI len)), (11, .int (nI v)), (12, .int (nI (hz_mk v))), (13, .int (nI ((3 - v) * 8))), (14, .int lw), (15, .int (nI i)), (16, .int (nI (a + hz_cc v f a b i)))] [] := by
        intro lw hlw
        refine hj_aload o dX3_radixSort_196 8 rfl ?_
        refine hj_iload o dX3_radixSort_198 15 rfl ?_
        refine hj_iload o dX3_radixSort_200 16 rfl ?_
        refine hj_aload o dX3_radixSort_202 7 rfl ?_
        refine hj_iload o dX3_radixSort_204 15 rfl ?_
        refine hj_iald o dX3_radixSort_206 4 rfl (by omega) (by omega) ?_
        refine hj_top (nI (hz_cs v f a b i)) (hfc i c1) ?_
        refine hj_iadd_n o dX3_radixSort_207 ?_
        refine hj_top (nI (a + hz_cc v f a b (i + 1))) (congrArg nI (by omega)) ?_
        refine hj_dup o dX3_radixSort_208 rfl ?_
        refine hj_istore [(0, .ref h), (1, .int (nI lo)), (2, .int (nI hi)), (3, .int (nI sp)), (4, .ref h4), (5, .ref h5), (6, .ref h6), (7, .ref h7), (8, .ref h8), (9, .int (nI a)), (10, .int (nI len)), (11, .int (nI v)), (12, .int (nI (hz_mk v))), (13, .int (nI ((3 - v) * 8))), (14, .int lw), (15, .int (nI i)), (16, .int (nI (a + hz_cc v f a b (i + 1))))] o dX3_radixSort_209 (by decide) rfl ?_
        refine hj_iast [hj_ar dA h n f, hj_ar dA h4 766 fo, hj_ar dA h5 766 fl, hj_ar dA h6 766 fv, hj_ar dA h7 256 fc, hj_ar dA h8 256 (upd fp i ((nI (a + hz_cc v f a b (i + 1)))))] o dX3_radixSort_211 5 rfl (by omega) (by omega) rfl ?_
        refine hj_iinc_n [(0, .ref h), (1, .int (nI lo)), (2, .int (nI hi)), (3, .int (nI sp)), (4, .ref h4), (5, .ref h5), (6, .ref h6), (7, .ref h7), (8, .ref h8), (9, .int (nI a)), (10, .int (nI len)), (11, .int (nI v)), (12, .int (nI (hz_mk v))), (13, .int (nI ((3 - v) * 8))), (14, .int lw), (15, .int (nI (i + 1))), (16, .int (nI (a + hz_cc v f a b (i + 1))))] o dX3_radixSort_212 15 rfl (by decide) rfl ?_
        refine hj_goto 176 o dX3_radixSort_215 (by decide) ?_
        exact ih (i + 1) _ lw (by omega) (by omega) (fun d hd => by
          rw [hz_upd_eq]
          by_cases c : d = i
          · rw [if_pos c, c]
          · rw [if_neg c]; exact hp d (by omega)) hlw
      refine hj_aload o dX3_radixSort_184 7 rfl ?_
      refine hj_iload o dX3_radixSort_186 15 rfl ?_
      refine hj_iald o dX3_radixSort_188 4 rfl (by omega) (by omega) ?_
      refine hj_top (nI (hz_cs v f a b i)) (hfc i c1) ?_
      refine hj_if_eq 196 o dX3_radixSort_189 (by decide) (fun c2 => ?_) (fun c2 => ?_)
      · have c2 : hz_cs v f a b i = 0 := (nI_eq (b := 0) (by omega) (by decide)).mp c2
        exact k196 lu (hz_lu_keep hlu (by omega))
      · have c2 : 0 < hz_cs v f a b i := Nat.pos_of_ne_zero (fun z => c2 (by rw [z]; exact nI_0))
        refine hj_iload o dX3_radixSort_192 15 rfl ?_
        refine hj_istore [(0, .ref h), (1, .int (nI lo)), (2, .int (nI hi)), (3, .int (nI sp)), (4, .ref h4), (5, .ref h5), (6, .ref h6), (7, .ref h7), (8, .ref h8), (9, .int (nI a)), (10, .int (nI len)), (11, .int (nI v)), (12, .int (nI (hz_mk v))), (13, .int (nI ((3 - v) * 8))), (14, .int (nI i)), (15, .int (nI i)), (16, .int (nI (a + hz_cc v f a b i)))] o dX3_radixSort_194 (by decide) rfl ?_
        exact k196 (nI i) (Or.inr ⟨i, by omega, rfl, c2, rfl⟩)
set_option maxHeartbeats 16000000 in
set_option maxRecDepth 100000 in
theorem k_rx_272 {l : Launch} {D : va_G} {dA : ClassId} {J : hj_JT} {R : Room} {h h4 h5 h6 h7 h8 n lo hi cells slots a b len v : Nat} {sp : Nat} {so sl sv : Nat → Nat} {f0 f1 fo fl fv fc : Nat → Int32} {e k i : Nat} (o : hj_Ok l R D dA RX3 cX3_radixSort 21 J) (hn : n < 2 ^ 19) (hbn : b ≤ n) (hb : b = a + len) (hv : v ≤ 3) (hib : i < b) (hai : a ≤ i)
    (kont : ∀ (f fp : Nat → Int32) (p : Nat → Nat) (c : Nat), hz_rr f0 f lo hi sp so sl sv i b → hz_rx v f1 a b k i p f → hz_seg f a b v → k ≤ c → c < 256 → hz_rw v f1 a b i c f → hz_dg v (f i) = c → (∀ d, c + 1 ≤ d → d < 256 → fp d = nI (p d)) → J cells slots [hj_ar dA h n f, hj_ar dA h4 766 fo, hj_ar dA h5 766 fl, hj_ar dA h6 766 fv, hj_ar dA h7 256 fc, hj_ar dA h8 256 fp] 329 [(0, .ref h), (1, .int (nI lo)), (2, .int (nI hi)), (3, .int (nI sp)), (4, .ref h4), (5, .ref h5), (6, .ref h6), (7, .ref h7), (8, .ref h8), (9, .int (nI a)), (10, .int (nI len)), (11, .int (nI v)), (12, .int (nI (hz_mk v))), (13, .int (nI ((3 - v) * 8))), (15, .int (nI e)), (16, .int (nI i)), (17, .int (nI c))] []) :
    ∀ (s : Nat) (t : Int32) (f fp : Nat → Int32) (p : Nat → Nat), hz_sum p 256 < s → hz_rr f0 (upd f i t) lo hi sp so sl sv i b → hz_rx v f1 a b k i p (upd f i t) → hz_seg (upd f i t) a b v → (∀ d, k ≤ d → d < 256 → fp d = nI (p d)) → J cells slots [hj_ar dA h n f, hj_ar dA h4 766 fo, hj_ar dA h5 766 fl, hj_ar dA h6 766 fv, hj_ar dA h7 256 fc, hj_ar dA h8 256 fp] 272 [(0, .ref h), (1, .int (nI lo)), (2, .int (nI hi)), (3, .int (nI sp)), (4, .ref h4), (5, .ref h5), (6, .ref h6), (7, .ref h7), (8, .ref h8), (9, .int (nI a)), (10, .int (nI len)), (11, .int (nI v)), (12, .int (nI (hz_mk v))), (13, .int (nI ((3 - v) * 8))), (15, .int (nI e)), (16, .int (nI i)), (17, .int (nI (hz_dg v t))), (19, .int t)] [] := by
  intro s
  induction s with
  | zero => intro t f fp p h1; omega
  | succ s ih =>
    intro t f fp p hs hr hx hg hfp
    have hab : a ≤ b := by omega
    have ei : upd f i t i = t := pk_us
    obtain ⟨hk, hc⟩ := hz_rx_c hx hib
    have hlow := hz_rx_low hab hx hib
    have hpb := (hx.2.2.2 _ hk hc).2.1
    have hm3 := hz_cc_mono v f1 hab (show hz_dg v (upd f i t i) + 1 ≤ 256 by omega)
    rw [hz_cc_256 v f1 hab] at hm3
    rw [ei] at hk hc hlow hpb hm3
    have hm := hz_m1 (p (hz_dg v t)) (by omega)
    have hiI : (nI i).toInt = (i : Int) := nI_toInt (by omega)
    have hend := hz_rx_end hab hx hib
    have hpl := hz_rx_place hab hx hib
    rw [ei] at hend hpl
    refine hj_aload o dX3_radixSort_272 8 rfl ?_
    refine hj_iload o dX3_radixSort_274 16 rfl ?_
    refine hj_dup2 o dX3_radixSort_276 rfl rfl ?_
    refine hj_iald o dX3_radixSort_277 5 rfl hc (by omega) ?_
    refine hj_top (nI (p (hz_dg v t))) (hfp _ hk hc) ?_
    refine hj_iconst (nI 1) o dX3_radixSort_278 (by decide) ?_
    refine hj_isub_e (nI (p (hz_dg v t)) - 1) o dX3_radixSort_279  rfl ?_
    refine hj_dup_x2 o dX3_radixSort_280 rfl rfl rfl ?_
    refine hj_iast [hj_ar dA h n f, hj_ar dA h4 766 fo, hj_ar dA h5 766 fl, hj_ar dA h6 766 fv, hj_ar dA h7 256 fc, hj_ar dA h8 256 (upd fp (hz_dg v t) ((nI (p (hz_dg v t)) - 1)))] o dX3_radixSort_281 5 rfl hc (by omega) rfl ?_
    refine hj_dup o dX3_radixSort_282 rfl ?_
    refine hj_istore [(0, .ref h), (1, .int (nI lo)), (2, .int (nI hi)), (3, .int (nI sp)), (4, .ref h4), (5, .ref h5), (6, .ref h6), (7, .ref h7), (8, .ref h8), (9, .int (nI a)), (10, .int (nI len)), (11, .int (nI v)), (12, .int (nI (hz_mk v))), (13, .int (nI ((3 - v) * 8))), (15, .int (nI e)), (16, .int (nI i)), (17, .int (nI (hz_dg v t))), (18, .int (nI (p (hz_dg v t)) - 1)), (19, .int t)] o dX3_radixSort_283 (by decide) rfl ?_
    refine hj_iload o dX3_radixSort_285 15 rfl ?_
    refine hj_icmp_le 323 o dX3_radixSort_287 (by decide) (fun c1 => ?_) (fun c1 => ?_)
    · have c1 : p (hz_dg v t) ≤ i + 1 := by rw [hz_le, hm, hiI] at c1; omega
      refine hj_aload_n o dX3_radixSort_323 0 rfl rfl ?_
      refine hj_iload o dX3_radixSort_324 15 rfl ?_
      refine hj_iload o dX3_radixSort_326 18 rfl ?_
      refine hj_iast [hj_ar dA h n (upd f i t), hj_ar dA h4 766 fo, hj_ar dA h5 766 fl, hj_ar dA h6 766 fv, hj_ar dA h7 256 fc, hj_ar dA h8 256 (upd fp (hz_dg v t) ((nI (p (hz_dg v t)) - 1)))] o dX3_radixSort_328 0 rfl (by omega) (by omega) rfl ?_
      refine hj_lv [(0, .ref h), (1, .int (nI lo)), (2, .int (nI hi)), (3, .int (nI sp)), (4, .ref h4), (5, .ref h5), (6, .ref h6), (7, .ref h7), (8, .ref h8), (9, .int (nI a)), (10, .int (nI len)), (11, .int (nI v)), (12, .int (nI (hz_mk v))), (13, .int (nI ((3 - v) * 8))), (15, .int (nI e)), (16, .int (nI i)), (17, .int (nI (hz_dg v t)))] [0, 1, 2, 3, 4, 5, 6, 7, 8, 9, 10, 11, 12, 13, 14, 15, 16] o rfl ?_
      exact kont _ _ p _ hr hx hg hk hc (hend c1) (by rw [ei]) (fun d d1 d2 => by rw [pk_un (by omega)]; exact hfp d (by omega) d2)
    · have c1 : i + 1 < p (hz_dg v t) := by rw [hz_le, hm, hiI] at c1; omega
      obtain ⟨hpl1, hpl2⟩ := hpl c1
      obtain ⟨pd, hpd⟩ : ∃ pd, p (hz_dg v t) = pd + 1 := ⟨p (hz_dg v t) - 1, by omega⟩
      rw [hpd] at hpl1 hpl2 c1 ⊢
      simp only [Nat.add_sub_cancel] at hpl2
      refine hj_iload o dX3_radixSort_290 18 rfl ?_
      refine hj_istore [(0, .ref h), (1, .int (nI lo)), (2, .int (nI hi)), (3, .int (nI sp)), (4, .ref h4), (5, .ref h5), (6, .ref h6), (7, .ref h7), (8, .ref h8), (9, .int (nI a)), (10, .int (nI len)), (11, .int (nI v)), (12, .int (nI (hz_mk v))), (13, .int (nI ((3 - v) * 8))), (15, .int (nI e)), (16, .int (nI i)), (17, .int (nI (hz_dg v t))), (18, .int (nI (pd + 1) - 1)), (19, .int t), (20, .int t)] o dX3_radixSort_292 (by decide) rfl ?_
      refine hj_aload_n o dX3_radixSort_294 0 rfl rfl ?_
      refine hj_iload o dX3_radixSort_295 17 rfl ?_
      refine hj_top (nI pd) (nI_pred pd) ?_
      refine hj_iald o dX3_radixSort_297 0 rfl (by omega) (by omega) ?_
      refine hj_istore [(0, .ref h), (1, .int (nI lo)), (2, .int (nI hi)), (3, .int (nI sp)), (4, .ref h4), (5, .ref h5), (6, .ref h6), (7, .ref h7), (8, .ref h8), (9, .int (nI a)), (10, .int (nI len)), (11, .int (nI v)), (12, .int (nI (hz_mk v))), (13, .int (nI ((3 - v) * 8))), (15, .int (nI e)), (16, .int (nI i)), (17, .int (nI (hz_dg v t))), (18, .int (nI (pd + 1) - 1)), (19, .int (f pd)), (20, .int t)] o dX3_radixSort_298 (by decide) rfl ?_
      refine hj_aload_n o dX3_radixSort_300 0 rfl rfl ?_
      refine hj_iload o dX3_radixSort_301 17 rfl ?_
      refine hj_top (nI pd) (nI_pred pd) ?_
      refine hj_iload o dX3_radixSort_303 19 rfl ?_
      refine hj_iast [hj_ar dA h n (upd f pd t), hj_ar dA h4 766 fo, hj_ar dA h5 766 fl, hj_ar dA h6 766 fv, hj_ar dA h7 256 fc, hj_ar dA h8 256 (upd fp (hz_dg v t) (nI (pd + 1) - 1))] o dX3_radixSort_305 0 rfl (by omega) (by omega) rfl ?_
      refine hj_iload o dX3_radixSort_306 18 rfl ?_
      refine hj_iload o dX3_radixSort_308 13 rfl ?_
      refine hj_iushr_e (hz_us v (f pd)) o dX3_radixSort_310  rfl ?_
      refine hj_sipush (nI 255) o dX3_radixSort_311 (by decide) ?_
      refine hj_iand o dX3_radixSort_314 ?_
      refine hj_iload o dX3_radixSort_315 12 rfl ?_
      refine hj_ixor_e (nI (hz_dg v (f pd))) o dX3_radixSort_317  (hz_dg_eq hv (f pd)) ?_
      refine hj_istore [(0, .ref h), (1, .int (nI lo)), (2, .int (nI hi)), (3, .int (nI sp)), (4, .ref h4), (5, .ref h5), (6, .ref h6), (7, .ref h7), (8, .ref h8), (9, .int (nI a)), (10, .int (nI len)), (11, .int (nI v)), (12, .int (nI (hz_mk v))), (13, .int (nI ((3 - v) * 8))), (15, .int (nI e)), (16, .int (nI i)), (17, .int (nI (hz_dg v (f pd)))), (18, .int (nI (pd + 1) - 1)), (19, .int (f pd)), (20, .int t)] o dX3_radixSort_318 (by decide) rfl ?_
      refine hj_goto 272 o dX3_radixSort_320 (by decide) ?_
      refine hj_lv [(0, .ref h), (1, .int (nI lo)), (2, .int (nI hi)), (3, .int (nI sp)), (4, .ref h4), (5, .ref h5), (6, .ref h6), (7, .ref h7), (8, .ref h8), (9, .int (nI a)), (10, .int (nI len)), (11, .int (nI v)), (12, .int (nI (hz_mk v))), (13, .int (nI ((3 - v) * 8))), (15, .int (nI e)), (16, .int (nI i)), (17, .int (nI (hz_dg v (f pd)))), (19, .int (f pd))] [0, 1, 2, 3, 4, 5, 6, 7, 8, 9, 10, 11, 12, 13, 14, 15, 16, 18] o rfl ?_
      have hcy := hz_cyc (f := f) (i := i) (d := pd) (t := t) (by omega)
      have hsw : hz_sm (upd f i t) (hz_sw (upd f i t) i pd) i b := hz_sw_sm (by omega) (by omega) (by omega) (by omega)
      have hsum := hz_sum_upd p (c := hz_dg v t) (y := pd) hc
      refine ih (f pd) (upd f pd t) _ _ ?_ (by rw [hcy]; exact hz_rr_perm hr hsw) (by rw [hcy]; exact hpl2) (by rw [hcy]; exact hz_seg_sm hg (hz_sm_wide hsw (by omega) (Nat.le_refl _))) (fun d d1 d2 => ?_)
      · omega
      · rw [hz_upd_eq]
        by_cases c : d = hz_dg v t
        · rw [if_pos c, if_pos c, nI_pred]
        · rw [if_neg c, if_neg c]
          exact hfp d d1 d2
end
section
/-! IntArrays.radixSort: the classes of a segment. printed by gen_radix.py -/
set_option maxHeartbeats 16000000 in
set_option maxRecDepth 100000 in
theorem k_rx_329 {l : Launch} {D : va_G} {dA : ClassId} {J : hj_JT} {R : Room} {h h4 h5 h6 h7 h8 n lo hi cells slots a b len v : Nat} {f0 f1 : Nat → Int32} {e M T : Nat} (o : hj_Ok l R D dA RX3 cX3_radixSort 21 J) (hn : n < 2 ^ 19) (hbn : b ≤ n) (hb : b = a + len) (hv : v ≤ 3) (hai0 : lo ≤ a) (hR : 507 ≤ R.frames ∧ 16224 ≤ R.locals) (hc : cells ≤ R.cells ∧ slots ≤ R.slots)
    (k238 : ∀ (k i sp : Nat) (so sl sv p : Nat → Nat) (f fo fl fv fc fp : Nat → Int32), b - i < M → k ≤ 256 → hz_rr f0 f lo hi sp so sl sv i b → hz_rx v f1 a b k i p f → hz_seg f a b v → hz_st fo fl fv sp so sl sv → (∀ d, d < k → d < 256 → fc d = 0) → (∀ d, k ≤ d → d < 256 → fc d = nI (hz_cs v f1 a b d)) → (∀ d, k ≤ d → d < 256 → fp d = nI (p d)) → hz_mu sp sl sv + (b - i) * (3 - v) < T → J cells slots [hj_ar dA h n f, hj_ar dA h4 766 fo, hj_ar dA h5 766 fl, hj_ar dA h6 766 fv, hj_ar dA h7 256 fc, hj_ar dA h8 256 fp] 238 [(0, .ref h), (1, .int (nI lo)), (2, .int (nI hi)), (3, .int (nI sp)), (4, .ref h4), (5, .ref h5), (6, .ref h6), (7, .ref h7), (8, .ref h8), (9, .int (nI a)), (10, .int (nI len)), (11, .int (nI v)), (12, .int (nI (hz_mk v))), (13, .int (nI ((3 - v) * 8))), (15, .int (nI e)), (16, .int (nI i))] [])
    {k i c sp : Nat} {so sl sv p : Nat → Nat} {f fo fl fv fc fp : Nat → Int32} (hM : b - i ≤ M) (hib : i < b) (hr : hz_rr f0 f lo hi sp so sl sv i b) (hx : hz_rx v f1 a b k i p f) (hg : hz_seg f a b v) (hst : hz_st fo fl fv sp so sl sv) (hkc : k ≤ c) (hc6 : c < 256) (hw : hz_rw v f1 a b i c f) (hci : hz_dg v (f i) = c) (hfc0 : ∀ d, d < k → d < 256 → fc d = 0) (hfc : ∀ d, k ≤ d → d < 256 → fc d = nI (hz_cs v f1 a b d)) (hfp : ∀ d, c + 1 ≤ d → d < 256 → fp d = nI (p d)) (hmu : hz_mu sp sl sv + (b - i) * (3 - v) < T) : J cells slots [hj_ar dA h n f, hj_ar dA h4 766 fo, hj_ar dA h5 766 fl, hj_ar dA h6 766 fv, hj_ar dA h7 256 fc, hj_ar dA h8 256 fp] 329 [(0, .ref h), (1, .int (nI lo)), (2, .int (nI hi)), (3, .int (nI sp)), (4, .ref h4), (5, .ref h5), (6, .ref h6), (7, .ref h7), (8, .ref h8), (9, .int (nI a)), (10, .int (nI len)), (11, .int (nI v)), (12, .int (nI (hz_mk v))), (13, .int (nI ((3 - v) * 8))), (15, .int (nI e)), (16, .int (nI i)), (17, .int (nI c))] [] := by
  have hab : a ≤ b := by omega
  obtain ⟨hcr, hsg, hcb, hai⟩ := hz_rx_cross hab hv hx hkc hc6 hw hg
  have hnx := hz_rx_next hab hx hkc hc6 hw
  have hc1 : 1 ≤ hz_cs v f1 a b c := by
    have q := hz_cs_pos (v := v) (f := f) (a := a) (b := b) (i := i) hai hib hci
    rw [hz_cs_sm hx.2.1] at q
    exact q
  have hzero : ∀ d, k ≤ d → d < c → hz_cs v f1 a b d = 0 := fun d d1 d2 => by
    have m1 := hz_cc_succ v f1 hab d
    have m2 := hz_cc_mono v f1 hab d1
    have m3 := hz_cc_mono v f1 hab (show d + 1 ≤ c by omega)
    have m4 := hw.1
    have m5 := hx.1
    omega
  have hcc : fc c = nI (hz_cs v f1 a b c) := hfc c hkc hc6
  have hsp := hz_rr_sp hr
  have hsph := hr.2.1
  obtain ⟨m, em⟩ : ∃ m, m = hz_cs v f1 a b c := ⟨_, rfl⟩
  rw [← em] at hcr hsg hcb hnx hc1 hcc
  have k398 : ∀ (sp2 : Nat) (so2 sl2 sv2 : Nat → Nat) (f2 fo2 fl2 fv2 : Nat → Int32), hz_rr f0 f2 lo hi sp2 so2 sl2 sv2 (i + m) b → hz_sm f f2 i (i + m) → hz_st fo2 fl2 fv2 sp2 so2 sl2 sv2 → hz_mu sp2 sl2 sv2 + (b - (i + m)) * (3 - v) < T → J cells slots [hj_ar dA h n f2, hj_ar dA h4 766 fo2, hj_ar dA h5 766 fl2, hj_ar dA h6 766 fv2, hj_ar dA h7 256 fc, hj_ar dA h8 256 fp] 398 [(0, .ref h), (1, .int (nI lo)), (2, .int (nI hi)), (3, .int (nI sp2)), (4, .ref h4), (5, .ref h5), (6, .ref h6), (7, .ref h7), (8, .ref h8), (9, .int (nI a)), (10, .int (nI len)), (11, .int (nI v)), (12, .int (nI (hz_mk v))), (13, .int (nI ((3 - v) * 8))), (15, .int (nI e)), (16, .int (nI i)), (17, .int (nI c))] [] := by
    intro sp2 so2 sl2 sv2 f2 fo2 fl2 fv2 hr2 hs2 hst2 hmu2
    refine hj_iload o dX3_radixSort_398 15 rfl ?_
    refine hj_aload o dX3_radixSort_400 7 rfl ?_
    refine hj_iload o dX3_radixSort_402 16 rfl ?_
    refine hj_iald o dX3_radixSort_404 4 rfl hc6 (by omega) ?_
    refine hj_top (nI m) hcc ?_
    refine hj_iadd_n o dX3_radixSort_405 ?_
    refine hj_istore [(0, .ref h), (1, .int (nI lo)), (2, .int (nI hi)), (3, .int (nI sp2)), (4, .ref h4), (5, .ref h5), (6, .ref h6), (7, .ref h7), (8, .ref h8), (9, .int (nI a)), (10, .int (nI len)), (11, .int (nI v)), (12, .int (nI (hz_mk v))), (13, .int (nI ((3 - v) * 8))), (15, .int (nI e)), (16, .int (nI (i + m))), (17, .int (nI c))] o dX3_radixSort_406 (by decide) rfl ?_
    refine hj_aload o dX3_radixSort_408 7 rfl ?_
    refine hj_iload o dX3_radixSort_410 16 rfl ?_
    refine hj_iconst (nI 0) o dX3_radixSort_412 (by decide) ?_
    refine hj_iast [hj_ar dA h n f2, hj_ar dA h4 766 fo2, hj_ar dA h5 766 fl2, hj_ar dA h6 766 fv2, hj_ar dA h7 256 (upd fc c ((nI 0))), hj_ar dA h8 256 fp] o dX3_radixSort_413 4 rfl hc6 (by omega) rfl ?_
    refine hj_goto 238 o dX3_radixSort_414 (by decide) ?_
    refine hj_lv [(0, .ref h), (1, .int (nI lo)), (2, .int (nI hi)), (3, .int (nI sp2)), (4, .ref h4), (5, .ref h5), (6, .ref h6), (7, .ref h7), (8, .ref h8), (9, .int (nI a)), (10, .int (nI len)), (11, .int (nI v)), (12, .int (nI (hz_mk v))), (13, .int (nI ((3 - v) * 8))), (15, .int (nI e)), (16, .int (nI (i + m)))] [0, 1, 2, 3, 4, 5, 6, 7, 8, 9, 10, 11, 12, 13, 14, 15] o rfl ?_
    exact k238 (c + 1) (i + m) sp2 so2 sl2 sv2 p f2 fo2 fl2 fv2 _ fp (by omega) (by omega) hr2 (hz_rx_perm hab hnx hai hcb hs2) (hz_seg_sm hg (hz_sm_wide hs2 hai hcb)) hst2 (fun d d1 d2 => by
      rw [hz_upd_eq]
      by_cases e : d = c
      · rw [if_pos e]; exact nI_0
      · rw [if_neg e]
        rcases Nat.lt_or_ge d k with q | q
        · exact hfc0 d q d2
        · rw [hfc d q d2, hzero d q (by omega)]; exact nI_0) (fun d d1 d2 => by rw [pk_un (by omega)]; exact hfc d (by omega) d2) hfp hmu2
  have hmul : ∀ y, (b - (i + m)) * y + m * y = (b - i) * y := fun y => by
    rw [← Nat.add_mul]; congr 1; omega
  have plain : hz_so f i (i + m) → hz_rr f0 f lo hi sp so sl sv (i + m) b := fun so_ => hz_rr_next hr (by omega) hcb hcr so_
  have hmu1 : hz_mu sp sl sv + (b - (i + m)) * (3 - v) < T := by
    have := hmul (3 - v)
    omega
  refine hj_iload o dX3_radixSort_329 11 rfl ?_
  refine hj_iconst (nI 3) o dX3_radixSort_331 (by decide) ?_
  refine hj_n_ge 398 o dX3_radixSort_332 (by decide) (by omega) (by omega) (fun c1 => ?_) (fun c1 => ?_)
  · have e3 : v = 3 := by omega
    exact k398 sp so sl sv f fo fl fv (plain (hz_seg_4 (by rw [e3] at hsg; exact hsg))) (hz_sm_rf _ _ _) hst hmu1
  · refine hj_aload o dX3_radixSort_335 7 rfl ?_
    refine hj_iload o dX3_radixSort_337 16 rfl ?_
    refine hj_iald o dX3_radixSort_339 4 rfl hc6 (by omega) ?_
    refine hj_top (nI m) hcc ?_
    refine hj_iconst (nI 1) o dX3_radixSort_340 (by decide) ?_
    refine hj_n_le 398 o dX3_radixSort_341 (by decide) (by omega) (by omega) (fun c2 => ?_) (fun c2 => ?_)
    · exact k398 sp so sl sv f fo fl fv (plain (hz_so_small (by omega))) (hz_sm_rf _ _ _) hst hmu1
    · refine hj_aload o dX3_radixSort_344 7 rfl ?_
      refine hj_iload o dX3_radixSort_346 16 rfl ?_
      refine hj_iald o dX3_radixSort_348 4 rfl hc6 (by omega) ?_
      refine hj_top (nI m) hcc ?_
      refine hj_sipush (nI 1024) o dX3_radixSort_349 (by decide) ?_
      refine hj_n_ge 372 o dX3_radixSort_352 (by decide) (by omega) (by omega) (fun c3 => ?_) (fun c3 => ?_)
      · refine hj_aload o dX3_radixSort_372 4 rfl ?_
        refine hj_iload_n o dX3_radixSort_374 3 rfl rfl ?_
        refine hj_iload o dX3_radixSort_375 15 rfl ?_
        refine hj_iast [hj_ar dA h n f, hj_ar dA h4 766 (upd fo sp ((nI i))), hj_ar dA h5 766 fl, hj_ar dA h6 766 fv, hj_ar dA h7 256 fc, hj_ar dA h8 256 fp] o dX3_radixSort_377 1 rfl (by omega) (by omega) rfl ?_
        refine hj_aload o dX3_radixSort_378 5 rfl ?_
        refine hj_iload_n o dX3_radixSort_380 3 rfl rfl ?_
        refine hj_aload o dX3_radixSort_381 7 rfl ?_
        refine hj_iload o dX3_radixSort_383 16 rfl ?_
        refine hj_iald o dX3_radixSort_385 4 rfl hc6 (by omega) ?_
        refine hj_top (nI m) hcc ?_
        refine hj_iast [hj_ar dA h n f, hj_ar dA h4 766 (upd fo sp ((nI i))), hj_ar dA h5 766 (upd fl sp ((nI m))), hj_ar dA h6 766 fv, hj_ar dA h7 256 fc, hj_ar dA h8 256 fp] o dX3_radixSort_386 2 rfl (by omega) (by omega) rfl ?_
        refine hj_aload o dX3_radixSort_387 6 rfl ?_
        refine hj_iload_n o dX3_radixSort_389 3 rfl rfl ?_
        refine hj_iinc_n [(0, .ref h), (1, .int (nI lo)), (2, .int (nI hi)), (3, .int (nI (sp + 1))), (4, .ref h4), (5, .ref h5), (6, .ref h6), (7, .ref h7), (8, .ref h8), (9, .int (nI a)), (10, .int (nI len)), (11, .int (nI v)), (12, .int (nI (hz_mk v))), (13, .int (nI ((3 - v) * 8))), (15, .int (nI e)), (16, .int (nI i)), (17, .int (nI c))] o dX3_radixSort_390 3 rfl (by decide) rfl ?_
        refine hj_iload o dX3_radixSort_393 11 rfl ?_
        refine hj_iconst (nI 1) o dX3_radixSort_395 (by decide) ?_
        refine hj_iadd_n o dX3_radixSort_396 ?_
        refine hj_iast [hj_ar dA h n f, hj_ar dA h4 766 (upd fo sp ((nI i))), hj_ar dA h5 766 (upd fl sp ((nI m))), hj_ar dA h6 766 (upd fv sp ((nI (v + 1)))), hj_ar dA h7 256 fc, hj_ar dA h8 256 fp] o dX3_radixSort_397 3 rfl (by omega) (by omega) rfl ?_
        have hpu := hz_rr_push hr (show i + 1024 ≤ i + m by omega) hcb hcr (show v + 1 ≤ 3 by omega) hsg
        rw [show i + m - i = m by omega] at hpu
        refine k398 (sp + 1) _ _ _ f _ _ _ hpu (hz_sm_rf _ _ _) (hz_st_push hst i m (v + 1)) ?_
        rw [hz_mu_push, show 4 - (v + 1) = 3 - v by omega]
        have := hmul (3 - v)
        omega
      · refine hj_aload_n o dX3_radixSort_355 0 rfl rfl ?_
        refine hj_iload o dX3_radixSort_356 15 rfl ?_
        refine hj_iload o dX3_radixSort_358 15 rfl ?_
        refine hj_aload o dX3_radixSort_360 7 rfl ?_
        refine hj_iload o dX3_radixSort_362 16 rfl ?_
        refine hj_iald o dX3_radixSort_364 4 rfl hc6 (by omega) ?_
        refine hj_top (nI m) hcc ?_
        refine hj_iadd_n o dX3_radixSort_365 ?_
        refine hj_callSv [hj_ar dA h4 766 fo, hj_ar dA h5 766 fl, hj_ar dA h6 766 fv, hj_ar dA h7 256 fc, hj_ar dA h8 256 fp] [0] [1, 2, 3, 4, 5] 3 o dX3_radixSort_366 (k_quick l D dA h n (by omega) 504 i (i + m) f (by omega) (by omega) (by omega)) (lw_S q242 q222 q7 q223) (by decide +kernel) rfl ⟨hR.1, hR.2⟩ ⟨hc.1, hc.2⟩ rfl rfl (by decide) (by decide) (by decide) rfl (Nat.le_of_ble_eq_true rfl) (fun g hq => ?_)
        show J cells slots [hj_ar dA h4 766 fo, hj_ar dA h5 766 fl, hj_ar dA h6 766 fv, hj_ar dA h7 256 fc, hj_ar dA h8 256 fp, hj_ar dA h n g] 369 [(0, .ref h), (1, .int (nI lo)), (2, .int (nI hi)), (3, .int (nI sp)), (4, .ref h4), (5, .ref h5), (6, .ref h6), (7, .ref h7), (8, .ref h8), (9, .int (nI a)), (10, .int (nI len)), (11, .int (nI v)), (12, .int (nI (hz_mk v))), (13, .int (nI ((3 - v) * 8))), (15, .int (nI e)), (16, .int (nI i)), (17, .int (nI c))] []
        refine hj_pick [hj_ar dA h n g, hj_ar dA h4 766 fo, hj_ar dA h5 766 fl, hj_ar dA h6 766 fv, hj_ar dA h7 256 fc, hj_ar dA h8 256 fp] [5, 0, 1, 2, 3, 4] o rfl rfl ?_
        refine hj_goto 398 o dX3_radixSort_369 (by decide) ?_
        exact k398 sp so sl sv g fo fl fv (hz_rr_next (hz_rr_perm hr (hz_sm_wide hq.1 (Nat.le_refl _) hcb)) (by omega) hcb (fun x y x1 x2 y1 y2 => by
          rw [hq.1.1 y (Or.inr y1)]
          exact hz_sm_all hq.1 (fun z => z.toInt ≤ (f y).toInt) (fun q q1 q2 => hcr q y q1 q2 y1 y2) x x1 x2) hq.2) hq.1 hst hmu1
set_option maxHeartbeats 16000000 in
set_option maxRecDepth 100000 in
theorem k_rx_238 {l : Launch} {D : va_G} {dA : ClassId} {J : hj_JT} {R : Room} {h h4 h5 h6 h7 h8 n lo hi cells slots a b len v : Nat} {f0 f1 : Nat → Int32} {T u : Nat} (o : hj_Ok l R D dA RX3 cX3_radixSort 21 J) (hn : n < 2 ^ 19) (hbn : b ≤ n) (hb : b = a + len) (hv : v ≤ 3) (hai0 : lo ≤ a) (hR : 507 ≤ R.frames ∧ 16224 ≤ R.locals) (hc : cells ≤ R.cells ∧ slots ≤ R.slots) (hu : hz_cc v f1 a b (u + 1) = b - a) (hu1 : 0 < hz_cs v f1 a b u)
    (k73 : ∀ (sp : Nat) (so sl sv : Nat → Nat) (f fo fl fv fc fp : Nat → Int32), hz_mu sp sl sv < T → hz_rr f0 f lo hi sp so sl sv hi hi → hz_st fo fl fv sp so sl sv → (∀ d, d < 256 → fc d = 0) → J cells slots [hj_ar dA h n f, hj_ar dA h4 766 fo, hj_ar dA h5 766 fl, hj_ar dA h6 766 fv, hj_ar dA h7 256 fc, hj_ar dA h8 256 fp] 73 [(0, .ref h), (1, .int (nI lo)), (2, .int (nI hi)), (3, .int (nI sp)), (4, .ref h4), (5, .ref h5), (6, .ref h6), (7, .ref h7), (8, .ref h8)] []) :
    ∀ (t : Nat) (k i sp : Nat) (so sl sv p : Nat → Nat) (f fo fl fv fc fp : Nat → Int32), b - i < t → k ≤ 256 → hz_rr f0 f lo hi sp so sl sv i b → hz_rx v f1 a b k i p f → hz_seg f a b v → hz_st fo fl fv sp so sl sv → (∀ d, d < k → d < 256 → fc d = 0) → (∀ d, k ≤ d → d < 256 → fc d = nI (hz_cs v f1 a b d)) → (∀ d, k ≤ d → d < 256 → fp d = nI (p d)) → hz_mu sp sl sv + (b - i) * (3 - v) < T → J cells slots [hj_ar dA h n f, hj_ar dA h4 766 fo, hj_ar dA h5 766 fl, hj_ar dA h6 766 fv, hj_ar dA h7 256 fc, hj_ar dA h8 256 fp] 238 [(0, .ref h), (1, .int (nI lo)), (2, .int (nI hi)), (3, .int (nI sp)), (4, .ref h4), (5, .ref h5), (6, .ref h6), (7, .ref h7), (8, .ref h8), (9, .int (nI a)), (10, .int (nI len)), (11, .int (nI v)), (12, .int (nI (hz_mk v))), (13, .int (nI ((3 - v) * 8))), (15, .int (nI (a + hz_cc v f1 a b u))), (16, .int (nI i))] [] := by
  intro t
  induction t with
  | zero => intro k i sp so sl sv p f fo fl fv fc fp h1; omega
  | succ t ih =>
    intro k i sp so sl sv p f fo fl fv fc fp ht hk6 hr hx hg hst hfc0 hfc hfp hmu
    have hab : a ≤ b := by omega
    have m2 := hz_cc_succ v f1 hab u
    have m0 := hx.1
    have m3 := hz_cc_mono v f1 hab hk6
    rw [hz_cc_256 v f1 hab] at m3
    refine hj_iload o dX3_radixSort_238 15 rfl ?_
    refine hj_iload o dX3_radixSort_240 14 rfl ?_
    refine hj_n_gt 417 o dX3_radixSort_242 (by decide) (by omega) (by omega) (fun c1 => ?_) (fun c1 => ?_)
    · have hk : u < k := by
        rcases Nat.lt_or_ge u k with q | q
        · exact q
        · have := hz_cc_mono v f1 hab q
          omega
      have hkb := hz_cc_mono v f1 hab (show u + 1 ≤ k from hk)
      have hib : i = b := by omega
      refine hj_goto 73 o dX3_radixSort_417 (by decide) ?_
      refine hj_lv [(0, .ref h), (1, .int (nI lo)), (2, .int (nI hi)), (3, .int (nI sp)), (4, .ref h4), (5, .ref h5), (6, .ref h6), (7, .ref h7), (8, .ref h8)] [0, 1, 2, 3, 4, 5, 6, 7, 8] o rfl ?_
      refine k73 sp so sl sv f fo fl fv fc fp (by omega) (hz_rr_done (by rw [hib] at hr; exact hr)) hst (fun d hd => ?_)
      rcases Nat.lt_or_ge d k with q | q
      · exact hfc0 d q hd
      · have q1 := hz_cc_succ v f1 hab d
        have q2 := hz_cc_mono v f1 hab q
        have q3 := hz_cc_mono v f1 hab (show d + 1 ≤ 256 by omega)
        rw [hz_cc_256 v f1 hab] at q3
        rw [hfc d q hd, show hz_cs v f1 a b d = 0 by omega]
        exact nI_0
    · have hib : i < b := by omega
      have hai : a ≤ i := by omega
      have hsph := hr.2.1
      refine hj_aload_n o dX3_radixSort_245 0 rfl rfl ?_
      refine hj_iload o dX3_radixSort_246 15 rfl ?_
      refine hj_iald o dX3_radixSort_248 0 rfl (by omega) (by omega) ?_
      refine hj_istore [(0, .ref h), (1, .int (nI lo)), (2, .int (nI hi)), (3, .int (nI sp)), (4, .ref h4), (5, .ref h5), (6, .ref h6), (7, .ref h7), (8, .ref h8), (9, .int (nI a)), (10, .int (nI len)), (11, .int (nI v)), (12, .int (nI (hz_mk v))), (13, .int (nI ((3 - v) * 8))), (15, .int (nI (a + hz_cc v f1 a b u))), (16, .int (nI i)), (19, .int (f i))] o dX3_radixSort_249 (by decide) rfl ?_
      refine hj_iload o dX3_radixSort_251 16 rfl ?_
      refine hj_iload o dX3_radixSort_253 13 rfl ?_
      refine hj_iushr_e (hz_us v (f i)) o dX3_radixSort_255  rfl ?_
      refine hj_sipush (nI 255) o dX3_radixSort_256 (by decide) ?_
      refine hj_iand o dX3_radixSort_259 ?_
      refine hj_iload o dX3_radixSort_260 12 rfl ?_
      refine hj_ixor_e (nI (hz_dg v (f i))) o dX3_radixSort_262  (hz_dg_eq hv (f i)) ?_
      refine hj_istore [(0, .ref h), (1, .int (nI lo)), (2, .int (nI hi)), (3, .int (nI sp)), (4, .ref h4), (5, .ref h5), (6, .ref h6), (7, .ref h7), (8, .ref h8), (9, .int (nI a)), (10, .int (nI len)), (11, .int (nI v)), (12, .int (nI (hz_mk v))), (13, .int (nI ((3 - v) * 8))), (15, .int (nI (a + hz_cc v f1 a b u))), (16, .int (nI i)), (17, .int (nI (hz_dg v (f i)))), (19, .int (f i))] o dX3_radixSort_263 (by decide) rfl ?_
      refine hj_iload o dX3_radixSort_265 15 rfl ?_
      refine hj_iload o dX3_radixSort_267 14 rfl ?_
      refine hj_n_ge 329 o dX3_radixSort_269 (by decide) (by omega) (by omega) (fun c2 => ?_) (fun c2 => ?_)
      · refine hj_lv [(0, .ref h), (1, .int (nI lo)), (2, .int (nI hi)), (3, .int (nI sp)), (4, .ref h4), (5, .ref h5), (6, .ref h6), (7, .ref h7), (8, .ref h8), (9, .int (nI a)), (10, .int (nI len)), (11, .int (nI v)), (12, .int (nI (hz_mk v))), (13, .int (nI ((3 - v) * 8))), (15, .int (nI (a + hz_cc v f1 a b u))), (16, .int (nI i)), (17, .int (nI (hz_dg v (f i))))] [0, 1, 2, 3, 4, 5, 6, 7, 8, 9, 10, 11, 12, 13, 14, 15, 16] o rfl ?_
        obtain ⟨hk, hc6⟩ := hz_rx_c hx hib
        exact k_rx_329 o hn hbn hb hv hai0 hR hc ih (by omega) hib hr hx hg hst hk hc6 (hz_rx_last hab hx hib hu c2) rfl hfc0 hfc (fun d d1 d2 => hfp d (by omega) d2) hmu
      · refine hj_lv [(0, .ref h), (1, .int (nI lo)), (2, .int (nI hi)), (3, .int (nI sp)), (4, .ref h4), (5, .ref h5), (6, .ref h6), (7, .ref h7), (8, .ref h8), (9, .int (nI a)), (10, .int (nI len)), (11, .int (nI v)), (12, .int (nI (hz_mk v))), (13, .int (nI ((3 - v) * 8))), (15, .int (nI (a + hz_cc v f1 a b u))), (16, .int (nI i)), (17, .int (nI (hz_dg v (f i)))), (19, .int (f i))] [0, 1, 2, 3, 4, 5, 6, 7, 8, 9, 10, 11, 12, 13, 14, 15, 16, 17] o rfl ?_
        have e0 : upd f i (f i) = f := hz_upd_self f i
        exact k_rx_272 (f0 := f0) (f1 := f1) (k := k) o hn hbn hb hv hib hai (fun f2 fp2 p2 c r1 r2 r3 r4 r5 r6 r7 r8 => k_rx_329 o hn hbn hb hv hai0 hR hc ih (by omega) hib r1 r2 r3 hst r4 r5 r6 r7 hfc0 hfc r8 hmu) (hz_sum p 256 + 1) (f i) f fp p (by omega) (by rw [e0]; exact hr) (by rw [e0]; exact hx) (by rw [e0]; exact hg) hfp
end
section
/-! IntArrays.radixSort: the loop over the stack, the whole. printed by gen_radix.py -/
set_option maxHeartbeats 16000000 in
set_option maxRecDepth 100000 in
theorem k_rx_73 {l : Launch} {D : va_G} {dA : ClassId} {J : hj_JT} {R : Room} {h h4 h5 h6 h7 h8 n lo hi cells slots : Nat} {f0 : Nat → Int32} (o : hj_Ok l R D dA RX3 cX3_radixSort 21 J) (hn : n < 2 ^ 19) (hh : hi ≤ n) (hR : 507 ≤ R.frames ∧ 16224 ≤ R.locals) (hc : cells ≤ R.cells ∧ slots ≤ R.slots)
    (kont : ∀ f fo fl fv fc fp : Nat → Int32, hz_sm f0 f lo hi → hz_so f lo hi → J cells slots [hj_ar dA h n f, hj_ar dA h4 766 fo, hj_ar dA h5 766 fl, hj_ar dA h6 766 fv, hj_ar dA h7 256 fc, hj_ar dA h8 256 fp] 420 [(0, .ref h), (1, .int (nI lo)), (2, .int (nI hi)), (3, .int (nI 0)), (4, .ref h4), (5, .ref h5), (6, .ref h6), (7, .ref h7), (8, .ref h8)] []) :
    ∀ (t sp : Nat) (so sl sv : Nat → Nat) (f fo fl fv fc fp : Nat → Int32), hz_mu sp sl sv < t → hz_rr f0 f lo hi sp so sl sv hi hi → hz_st fo fl fv sp so sl sv → (∀ d, d < 256 → fc d = 0) → J cells slots [hj_ar dA h n f, hj_ar dA h4 766 fo, hj_ar dA h5 766 fl, hj_ar dA h6 766 fv, hj_ar dA h7 256 fc, hj_ar dA h8 256 fp] 73 [(0, .ref h), (1, .int (nI lo)), (2, .int (nI hi)), (3, .int (nI sp)), (4, .ref h4), (5, .ref h5), (6, .ref h6), (7, .ref h7), (8, .ref h8)] [] := by
  intro t
  induction t with
  | zero => intro sp so sl sv f fo fl fv fc fp h1; omega
  | succ t ih =>
    intro sp so sl sv f fo fl fv fc fp ht hr hst hfc
    have hsp := hz_rr_sp hr
    have hsph := hr.2.1
    refine hj_iload_n o dX3_radixSort_73 3 rfl rfl ?_
    refine hj_if_le 420 o dX3_radixSort_74 (by decide) (fun c1 => ?_) (fun c1 => ?_)
    · have c1 : sp = 0 := by
        rw [hz_le, nI_toInt (by omega)] at c1
        have : (0 : Int32).toInt = 0 := rfl
        omega
      subst c1
      obtain ⟨r1, r2⟩ := hz_rr_end hr
      exact kont f fo fl fv fc fp r1 r2
    · have c1 : 0 < sp := by
        rcases Nat.eq_zero_or_pos sp with z | z
        · exact absurd (show nI sp ≤ 0 by rw [z]; decide) c1
        · exact z
      obtain ⟨s, rfl⟩ : ∃ s, sp = s + 1 := ⟨sp - 1, by omega⟩
      have hpop := hz_rr_pop hr
      obtain ⟨q1, q2, q3, q4, q5⟩ := hr.2.2.1 s (by omega)
      obtain ⟨w1, w2, w3⟩ := hst s (by omega)
      rw [hz_mu_pop] at ht
      obtain ⟨a, ea⟩ : ∃ a, a = so s := ⟨_, rfl⟩
      obtain ⟨len, el⟩ : ∃ len, len = sl s := ⟨_, rfl⟩
      obtain ⟨v, ev⟩ : ∃ v, v = sv s := ⟨_, rfl⟩
      obtain ⟨b, hb⟩ : ∃ b, b = a + len := ⟨_, rfl⟩
      rw [← ea] at q1 q3 q5 w1 hpop
      rw [← el] at q2 q3 q5 w2 ht hpop
      rw [← ev] at q4 q5 w3 ht
      rw [← hb] at q3 q5 hpop
      have hab : a ≤ b := by omega
      have hst2 : hz_st fo fl fv s so sl sv := fun s2 h2 => hst s2 (by omega)
      have hmod : v % 4 = v := Nat.mod_eq_of_lt (by omega)
      have hmul : len * (3 - v) + len = len * (4 - v) := by
        rw [show 4 - v = (3 - v) + 1 by omega, Nat.mul_add, Nat.mul_one]
      refine hj_aload o dX3_radixSort_77 4 rfl ?_
      refine hj_iinc_m [(0, .ref h), (1, .int (nI lo)), (2, .int (nI hi)), (3, .int (nI s)), (4, .ref h4), (5, .ref h5), (6, .ref h6), (7, .ref h7), (8, .ref h8)] o dX3_radixSort_79 3 rfl (by decide) rfl ?_
      refine hj_iload_n o dX3_radixSort_82 3 rfl rfl ?_
      refine hj_iald o dX3_radixSort_83 1 rfl (by omega) (by omega) ?_
      refine hj_top (nI a) w1 ?_
      refine hj_istore [(0, .ref h), (1, .int (nI lo)), (2, .int (nI hi)), (3, .int (nI s)), (4, .ref h4), (5, .ref h5), (6, .ref h6), (7, .ref h7), (8, .ref h8), (9, .int (nI a))] o dX3_radixSort_84 (by decide) rfl ?_
      refine hj_aload o dX3_radixSort_86 5 rfl ?_
      refine hj_iload_n o dX3_radixSort_88 3 rfl rfl ?_
      refine hj_iald o dX3_radixSort_89 2 rfl (by omega) (by omega) ?_
      refine hj_top (nI len) w2 ?_
      refine hj_istore [(0, .ref h), (1, .int (nI lo)), (2, .int (nI hi)), (3, .int (nI s)), (4, .ref h4), (5, .ref h5), (6, .ref h6), (7, .ref h7), (8, .ref h8), (9, .int (nI a)), (10, .int (nI len))] o dX3_radixSort_90 (by decide) rfl ?_
      refine hj_aload o dX3_radixSort_92 6 rfl ?_
      refine hj_iload_n o dX3_radixSort_94 3 rfl rfl ?_
      refine hj_iald o dX3_radixSort_95 3 rfl (by omega) (by omega) ?_
      refine hj_top (nI v) w3 ?_
      refine hj_istore [(0, .ref h), (1, .int (nI lo)), (2, .int (nI hi)), (3, .int (nI s)), (4, .ref h4), (5, .ref h5), (6, .ref h6), (7, .ref h7), (8, .ref h8), (9, .int (nI a)), (10, .int (nI len)), (11, .int (nI v))] o dX3_radixSort_96 (by decide) rfl ?_
      refine hj_iload o dX3_radixSort_98 11 rfl ?_
      refine hj_iconst (nI 4) o dX3_radixSort_100 (by decide) ?_
      refine hj_irem_n o dX3_radixSort_101 (by omega) (by omega) (by omega) ?_
      rw [hmod]
      have k112 : J cells slots [hj_ar dA h n f, hj_ar dA h4 766 fo, hj_ar dA h5 766 fl, hj_ar dA h6 766 fv, hj_ar dA h7 256 fc, hj_ar dA h8 256 fp] 112 [(0, .ref h), (1, .int (nI lo)), (2, .int (nI hi)), (3, .int (nI s)), (4, .ref h4), (5, .ref h5), (6, .ref h6), (7, .ref h7), (8, .ref h8), (9, .int (nI a)), (10, .int (nI len)), (11, .int (nI v))] [.int (nI (hz_mk v))] := by
        refine hj_istore [(0, .ref h), (1, .int (nI lo)), (2, .int (nI hi)), (3, .int (nI s)), (4, .ref h4), (5, .ref h5), (6, .ref h6), (7, .ref h7), (8, .ref h8), (9, .int (nI a)), (10, .int (nI len)), (11, .int (nI v)), (12, .int (nI (hz_mk v)))] o dX3_radixSort_112 (by decide) rfl ?_
        refine hj_iconst (nI 3) o dX3_radixSort_114 (by decide) ?_
        refine hj_iload o dX3_radixSort_115 11 rfl ?_
        refine hj_iconst (nI 4) o dX3_radixSort_117 (by decide) ?_
        refine hj_irem_n o dX3_radixSort_118 (by omega) (by omega) (by omega) ?_
        rw [hmod]
        refine hj_isub_n o dX3_radixSort_119 (by omega) ?_
        refine hj_bipush (nI 8) o dX3_radixSort_120 (by decide) ?_
        refine hj_imul_n o dX3_radixSort_122 ?_
        refine hj_istore [(0, .ref h), (1, .int (nI lo)), (2, .int (nI hi)), (3, .int (nI s)), (4, .ref h4), (5, .ref h5), (6, .ref h6), (7, .ref h7), (8, .ref h8), (9, .int (nI a)), (10, .int (nI len)), (11, .int (nI v)), (12, .int (nI (hz_mk v))), (13, .int (nI ((3 - v) * 8)))] o dX3_radixSort_123 (by decide) rfl ?_
        refine hj_iload o dX3_radixSort_125 9 rfl ?_
        refine hj_iload o dX3_radixSort_127 10 rfl ?_
        refine hj_iadd_n o dX3_radixSort_129 ?_
        refine hj_istore [(0, .ref h), (1, .int (nI lo)), (2, .int (nI hi)), (3, .int (nI s)), (4, .ref h4), (5, .ref h5), (6, .ref h6), (7, .ref h7), (8, .ref h8), (9, .int (nI a)), (10, .int (nI len)), (11, .int (nI v)), (12, .int (nI (hz_mk v))), (13, .int (nI ((3 - v) * 8))), (14, .int (nI (a + len)))] o dX3_radixSort_130 (by decide) rfl ?_
        rw [← hb]
        refine k_rx_count o hn (by omega) hb q4 (fun fc2 hc2 => ?_) (b + 1) b fc (by omega) hab (Nat.le_refl _) (fun d hd => by rw [hz_cs_e]; exact (hfc d hd).trans nI_0.symm)
        refine hj_iconst (-1) o dX3_radixSort_166 (by decide) ?_
        refine hj_istore [(0, .ref h), (1, .int (nI lo)), (2, .int (nI hi)), (3, .int (nI s)), (4, .ref h4), (5, .ref h5), (6, .ref h6), (7, .ref h7), (8, .ref h8), (9, .int (nI a)), (10, .int (nI len)), (11, .int (nI v)), (12, .int (nI (hz_mk v))), (13, .int (nI ((3 - v) * 8))), (14, .int (-1))] o dX3_radixSort_167 (by decide) rfl ?_
        refine hj_iconst (nI 0) o dX3_radixSort_169 (by decide) ?_
        refine hj_istore [(0, .ref h), (1, .int (nI lo)), (2, .int (nI hi)), (3, .int (nI s)), (4, .ref h4), (5, .ref h5), (6, .ref h6), (7, .ref h7), (8, .ref h8), (9, .int (nI a)), (10, .int (nI len)), (11, .int (nI v)), (12, .int (nI (hz_mk v))), (13, .int (nI ((3 - v) * 8))), (14, .int (-1)), (15, .int (nI 0))] o dX3_radixSort_170 (by decide) rfl ?_
        refine hj_iload o dX3_radixSort_172 9 rfl ?_
        refine hj_istore [(0, .ref h), (1, .int (nI lo)), (2, .int (nI hi)), (3, .int (nI s)), (4, .ref h4), (5, .ref h5), (6, .ref h6), (7, .ref h7), (8, .ref h8), (9, .int (nI a)), (10, .int (nI len)), (11, .int (nI v)), (12, .int (nI (hz_mk v))), (13, .int (nI ((3 - v) * 8))), (14, .int (-1)), (15, .int (nI 0)), (16, .int (nI a))] o dX3_radixSort_174 (by decide) rfl ?_
        have e0 : hz_cc v f a b 0 = 0 := hz_cc_0 v f hab
        have kpos := k_rx_pos (h := h) (h4 := h4) (h5 := h5) (h6 := h6) (h7 := h7) (h8 := h8) (lo := lo) (hi := hi) (cells := cells) (slots := slots) (sp := s) (fo := fo) (fl := fl) (fv := fv) o hn (by omega) hb q4 hc2 ?_ 257 0 fp (-1) (by omega) (by omega) (fun d hd => absurd hd (Nat.not_lt_zero d)) (Or.inl ⟨rfl, e0⟩)
        · rw [e0] at kpos
          exact kpos
        · intro fp2 lu hp2 hlu
          rcases hlu with ⟨l1, l2⟩ | ⟨u, u1, u2, u3, u4⟩
          · rw [hz_cc_256 v f hab] at l2; omega
          subst u2
          rw [hz_cc_256 v f hab] at u4
          have m2 := hz_cc_succ v f hab u
          refine hj_iload o dX3_radixSort_218 9 rfl ?_
          refine hj_iload o dX3_radixSort_220 10 rfl ?_
          refine hj_iadd_n o dX3_radixSort_222 ?_
          refine hj_aload o dX3_radixSort_223 7 rfl ?_
          refine hj_iload o dX3_radixSort_225 14 rfl ?_
          refine hj_iald o dX3_radixSort_227 4 rfl u1 (by omega) ?_
          refine hj_top (nI (hz_cs v f a b u)) (hc2 u u1) ?_
          refine hj_isub_n o dX3_radixSort_228 (by omega) ?_
          refine hj_top (nI (a + hz_cc v f a b u)) (congrArg nI (by omega)) ?_
          refine hj_istore [(0, .ref h), (1, .int (nI lo)), (2, .int (nI hi)), (3, .int (nI s)), (4, .ref h4), (5, .ref h5), (6, .ref h6), (7, .ref h7), (8, .ref h8), (9, .int (nI a)), (10, .int (nI len)), (11, .int (nI v)), (12, .int (nI (hz_mk v))), (13, .int (nI ((3 - v) * 8))), (14, .int (nI u)), (15, .int (nI (a + hz_cc v f a b u)))] o dX3_radixSort_229 (by decide) rfl ?_
          refine hj_iload o dX3_radixSort_231 9 rfl ?_
          refine hj_istore [(0, .ref h), (1, .int (nI lo)), (2, .int (nI hi)), (3, .int (nI s)), (4, .ref h4), (5, .ref h5), (6, .ref h6), (7, .ref h7), (8, .ref h8), (9, .int (nI a)), (10, .int (nI len)), (11, .int (nI v)), (12, .int (nI (hz_mk v))), (13, .int (nI ((3 - v) * 8))), (14, .int (nI u)), (15, .int (nI (a + hz_cc v f a b u))), (16, .int (nI a))] o dX3_radixSort_233 (by decide) rfl ?_
          refine hj_iconst (-1) o dX3_radixSort_235 (by decide) ?_
          refine hj_istore [(0, .ref h), (1, .int (nI lo)), (2, .int (nI hi)), (3, .int (nI s)), (4, .ref h4), (5, .ref h5), (6, .ref h6), (7, .ref h7), (8, .ref h8), (9, .int (nI a)), (10, .int (nI len)), (11, .int (nI v)), (12, .int (nI (hz_mk v))), (13, .int (nI ((3 - v) * 8))), (14, .int (nI u)), (15, .int (nI (a + hz_cc v f a b u))), (16, .int (nI a)), (17, .int (-1))] o dX3_radixSort_236 (by decide) rfl ?_
          refine hj_lv [(0, .ref h), (1, .int (nI lo)), (2, .int (nI hi)), (3, .int (nI s)), (4, .ref h4), (5, .ref h5), (6, .ref h6), (7, .ref h7), (8, .ref h8), (9, .int (nI a)), (10, .int (nI len)), (11, .int (nI v)), (12, .int (nI (hz_mk v))), (13, .int (nI ((3 - v) * 8))), (15, .int (nI (a + hz_cc v f a b u))), (16, .int (nI a))] [0, 1, 2, 3, 4, 5, 6, 7, 8, 9, 10, 11, 12, 13, 15, 16] o rfl ?_
          exact k_rx_238 (f0 := f0) (f1 := f) (T := t) o hn (by omega) hb q4 (by omega) hR hc u4.symm u3 (fun sp so sl sv f fo fl fv fc fp a1 a2 a3 a4 => ih sp so sl sv f fo fl fv fc fp a1 a2 a3 a4) (b - a + 1) 0 a s so sl sv _ f fo fl fv fc2 fp2 (by omega) (by omega) hpop (hz_rx_0 hab) q5 hst2 (fun d d1 => absurd d1 (Nat.not_lt_zero d)) (fun d _ d2 => hc2 d d2) (fun d _ d2 => hp2 d d2) (by
            rw [show b - a = len by omega]
            omega)
      refine hj_if_ne 111 o dX3_radixSort_102 (by decide) (fun c2 => ?_) (fun c2 => ?_)
      · refine hj_iconst (nI 0) o dX3_radixSort_111 (by decide) ?_
        have hv0 : hz_mk v = 0 := by
          unfold hz_mk
          rw [if_neg (fun z => c2 (by rw [z]; exact nI_0))]
        rw [hv0] at k112
        exact k112
      · refine hj_sipush (nI 128) o dX3_radixSort_105 (by decide) ?_
        refine hj_goto 112 o dX3_radixSort_108 (by decide) ?_
        have hv0 : hz_mk v = 128 := by
          unfold hz_mk
          rw [if_pos ((nI_eq (b := 0) (by omega) (by decide)).mp c2)]
        rw [hv0] at k112
        exact k112
set_option maxHeartbeats 16000000 in
set_option maxRecDepth 100000 in
/-- IntArrays.radixSort(a, lo, hi) -/
theorem k_radix (l : Launch) (D : va_G) (dA : ClassId) (h n lo hi : Nat) (f : Nat → Int32) (hn : n < 2 ^ 19) (hlo : lo ≤ hi) (hh : hi ≤ n) : hj_KV l yX3_radixSort cX3_radixSort 21 (hj_rm 508 16300 5 2810) D dA [.ref h, .int (nI lo), .int (nI hi)] [hj_ar dA h n f] (fun g : Nat → Int32 => hz_sm f g lo hi ∧ hz_so g lo hi) (fun g => [hj_ar dA h n g]) := by
  refine hj_introV (by decide) (Nat.le_of_ble_eq_true rfl) (fun J o hret => ?_)
  show J 0 0 [hj_ar dA h n f] 0 [(0, .ref h), (1, .int (nI lo)), (2, .int (nI hi))] []
  refine hj_iload_n o dX3_radixSort_0 2 rfl rfl ?_
  refine hj_iload_n o dX3_radixSort_1 1 rfl rfl ?_
  refine hj_isub_n o dX3_radixSort_2 (by omega) ?_
  refine hj_sipush (nI 1024) o dX3_radixSort_3 (by decide) ?_
  refine hj_n_ge 16 o dX3_radixSort_6 (by decide) (by omega) (by omega) (fun c1 => ?_) (fun c1 => ?_)
  · refine hj_iconst (nI 0) o dX3_radixSort_16 (by decide) ?_
    refine hj_istore_n [(0, .ref h), (1, .int (nI lo)), (2, .int (nI hi)), (3, .int (nI 0))] o dX3_radixSort_17 rfl (by decide) rfl ?_
    refine hj_sipush (nI 766) o dX3_radixSort_18 (by decide) ?_
    refine hj_newa o dX3_radixSort_21 (by decide) (Nat.le_of_ble_eq_true rfl) (Nat.le_of_ble_eq_true rfl) (fun h4 => ?_)
    show J 1 766 [hj_ar dA h n f, hj_ar dA h4 766 (fun _ => 0)] 23 [(0, .ref h), (1, .int (nI lo)), (2, .int (nI hi)), (3, .int (nI 0))] [.ref h4]
    refine hj_astore [(0, .ref h), (1, .int (nI lo)), (2, .int (nI hi)), (3, .int (nI 0)), (4, .ref h4)] o dX3_radixSort_23 (by decide) rfl ?_
    refine hj_sipush (nI 766) o dX3_radixSort_25 (by decide) ?_
    refine hj_newa o dX3_radixSort_28 (by decide) (Nat.le_of_ble_eq_true rfl) (Nat.le_of_ble_eq_true rfl) (fun h5 => ?_)
    show J 2 1532 [hj_ar dA h n f, hj_ar dA h4 766 (fun _ => 0), hj_ar dA h5 766 (fun _ => 0)] 30 [(0, .ref h), (1, .int (nI lo)), (2, .int (nI hi)), (3, .int (nI 0)), (4, .ref h4)] [.ref h5]
    refine hj_astore [(0, .ref h), (1, .int (nI lo)), (2, .int (nI hi)), (3, .int (nI 0)), (4, .ref h4), (5, .ref h5)] o dX3_radixSort_30 (by decide) rfl ?_
    refine hj_sipush (nI 766) o dX3_radixSort_32 (by decide) ?_
    refine hj_newa o dX3_radixSort_35 (by decide) (Nat.le_of_ble_eq_true rfl) (Nat.le_of_ble_eq_true rfl) (fun h6 => ?_)
    show J 3 2298 [hj_ar dA h n f, hj_ar dA h4 766 (fun _ => 0), hj_ar dA h5 766 (fun _ => 0), hj_ar dA h6 766 (fun _ => 0)] 37 [(0, .ref h), (1, .int (nI lo)), (2, .int (nI hi)), (3, .int (nI 0)), (4, .ref h4), (5, .ref h5)] [.ref h6]
    refine hj_astore [(0, .ref h), (1, .int (nI lo)), (2, .int (nI hi)), (3, .int (nI 0)), (4, .ref h4), (5, .ref h5), (6, .ref h6)] o dX3_radixSort_37 (by decide) rfl ?_
    refine hj_aload o dX3_radixSort_39 4 rfl ?_
    refine hj_iload_n o dX3_radixSort_41 3 rfl rfl ?_
    refine hj_iload_n o dX3_radixSort_42 1 rfl rfl ?_
    refine hj_iast [hj_ar dA h n f, hj_ar dA h4 766 (upd (fun _ => 0) 0 ((nI lo))), hj_ar dA h5 766 (fun _ => 0), hj_ar dA h6 766 (fun _ => 0)] o dX3_radixSort_43 1 rfl (by omega) (by omega) rfl ?_
    refine hj_aload o dX3_radixSort_44 5 rfl ?_
    refine hj_iload_n o dX3_radixSort_46 3 rfl rfl ?_
    refine hj_iload_n o dX3_radixSort_47 2 rfl rfl ?_
    refine hj_iload_n o dX3_radixSort_48 1 rfl rfl ?_
    refine hj_isub_n o dX3_radixSort_49 (by omega) ?_
    refine hj_iast [hj_ar dA h n f, hj_ar dA h4 766 (upd (fun _ => 0) 0 ((nI lo))), hj_ar dA h5 766 (upd (fun _ => 0) 0 ((nI (hi - lo)))), hj_ar dA h6 766 (fun _ => 0)] o dX3_radixSort_50 2 rfl (by omega) (by omega) rfl ?_
    refine hj_aload o dX3_radixSort_51 6 rfl ?_
    refine hj_iload_n o dX3_radixSort_53 3 rfl rfl ?_
    refine hj_iinc_n [(0, .ref h), (1, .int (nI lo)), (2, .int (nI hi)), (3, .int (nI (0 + 1))), (4, .ref h4), (5, .ref h5), (6, .ref h6)] o dX3_radixSort_54 3 rfl (by decide) rfl ?_
    refine hj_iconst (nI 0) o dX3_radixSort_57 (by decide) ?_
    refine hj_iast [hj_ar dA h n f, hj_ar dA h4 766 (upd (fun _ => 0) 0 ((nI lo))), hj_ar dA h5 766 (upd (fun _ => 0) 0 ((nI (hi - lo)))), hj_ar dA h6 766 (upd (fun _ => 0) 0 ((nI 0)))] o dX3_radixSort_58 3 rfl (by omega) (by omega) rfl ?_
    refine hj_sipush (nI 256) o dX3_radixSort_59 (by decide) ?_
    refine hj_newa o dX3_radixSort_62 (by decide) (Nat.le_of_ble_eq_true rfl) (Nat.le_of_ble_eq_true rfl) (fun h7 => ?_)
    show J 4 2554 [hj_ar dA h n f, hj_ar dA h4 766 (upd (fun _ => 0) 0 ((nI lo))), hj_ar dA h5 766 (upd (fun _ => 0) 0 ((nI (hi - lo)))), hj_ar dA h6 766 (upd (fun _ => 0) 0 ((nI 0))), hj_ar dA h7 256 (fun _ => 0)] 64 [(0, .ref h), (1, .int (nI lo)), (2, .int (nI hi)), (3, .int (nI (0 + 1))), (4, .ref h4), (5, .ref h5), (6, .ref h6)] [.ref h7]
    refine hj_astore [(0, .ref h), (1, .int (nI lo)), (2, .int (nI hi)), (3, .int (nI (0 + 1))), (4, .ref h4), (5, .ref h5), (6, .ref h6), (7, .ref h7)] o dX3_radixSort_64 (by decide) rfl ?_
    refine hj_sipush (nI 256) o dX3_radixSort_66 (by decide) ?_
    refine hj_newa o dX3_radixSort_69 (by decide) (Nat.le_of_ble_eq_true rfl) (Nat.le_of_ble_eq_true rfl) (fun h8 => ?_)
    show J 5 2810 [hj_ar dA h n f, hj_ar dA h4 766 (upd (fun _ => 0) 0 ((nI lo))), hj_ar dA h5 766 (upd (fun _ => 0) 0 ((nI (hi - lo)))), hj_ar dA h6 766 (upd (fun _ => 0) 0 ((nI 0))), hj_ar dA h7 256 (fun _ => 0), hj_ar dA h8 256 (fun _ => 0)] 71 [(0, .ref h), (1, .int (nI lo)), (2, .int (nI hi)), (3, .int (nI (0 + 1))), (4, .ref h4), (5, .ref h5), (6, .ref h6), (7, .ref h7)] [.ref h8]
    refine hj_astore [(0, .ref h), (1, .int (nI lo)), (2, .int (nI hi)), (3, .int (nI (0 + 1))), (4, .ref h4), (5, .ref h5), (6, .ref h6), (7, .ref h7), (8, .ref h8)] o dX3_radixSort_71 (by decide) rfl ?_
    refine k_rx_73 (f0 := f) o hn hh ⟨Nat.le_of_ble_eq_true rfl, Nat.le_of_ble_eq_true rfl⟩ ⟨Nat.le_of_ble_eq_true rfl, Nat.le_of_ble_eq_true rfl⟩ (fun g fo fl fv fc fp r1 r2 => hret _ _ _ 420 _ g [0] dX3_radixSort_420 (Nat.le_of_ble_eq_true rfl) (Nat.le_of_ble_eq_true rfl) ⟨r1, r2⟩ rfl rfl) (hz_mu 1 (fun _ => hi - lo) (fun _ => 0) + 1) 1 (fun _ => lo) (fun _ => hi - lo) (fun _ => 0) f _ _ _ _ _ (Nat.lt_succ_self _) (hz_rr_init (by omega)) (fun s hs => ?_) (fun _ _ => rfl)
    rw [show s = 0 by omega, pk_us, pk_us, pk_us]
    exact ⟨rfl, rfl, rfl⟩
  · refine hj_aload_n o dX3_radixSort_9 0 rfl rfl ?_
    refine hj_iload_n o dX3_radixSort_10 1 rfl rfl ?_
    refine hj_iload_n o dX3_radixSort_11 2 rfl rfl ?_
    refine hj_callSv [] [0] [] 3 o dX3_radixSort_12 (k_quick l D dA h n (by omega) 505 lo hi f hlo hh (by omega)) (lw_S q242 q222 q7 q223) (by decide +kernel) rfl ⟨Nat.le_of_ble_eq_true rfl, Nat.le_of_ble_eq_true rfl⟩ ⟨Nat.le_of_ble_eq_true rfl, Nat.le_of_ble_eq_true rfl⟩ rfl rfl (by decide) (by decide) (by decide) rfl (Nat.le_of_ble_eq_true rfl) (fun g hg => ?_)
    show J 0 0 [hj_ar dA h n g] 15 [(0, .ref h), (1, .int (nI lo)), (2, .int (nI hi))] []
    exact hret 0 0 _ 15 _ g [0] dX3_radixSort_15 (Nat.zero_le _) (Nat.zero_le _) hg rfl rfl
end
section
/-! HeapLine.radix. printed by gen_line.py -/
set_option maxHeartbeats 8000000 in
set_option maxRecDepth 100000 in
/-- HeapLine.radix(at, many) -/
theorem k_xradix (l : Launch) (D : va_G) (dA : ClassId) (hx hq hr sz : Nat) (r : Nat → Int32) (at_ many : Int32) (hs : sz ≤ 4096) : hj_KI l yX0_radix cX0_radix 5 .int (hj_rm 2046 65536 5 2810) D dA [.ref hx, .int at_, .int many] [(hx, .inr (0, [.ref hq, .ref hr, .int (nI sz)])), hj_ar dA hr 4096 r] (fun (z : Int32) (u : Nat → Int32) => z = nI (hz_on many sz (hz_of at_ sz)) ∧ hz_sm r u (hz_of at_ sz) (hz_of at_ sz + hz_on many sz (hz_of at_ sz)) ∧ hz_so u (hz_of at_ sz) (hz_of at_ sz + hz_on many sz (hz_of at_ sz))) (fun u => [(hx, .inr (0, [.ref hq, .ref hr, .int (nI sz)])), hj_ar dA hr 4096 u]) := by
  refine hj_introI (by decide) (Nat.le_of_ble_eq_true rfl) (fun J o hret => ?_)
  have hp := hz_p_lt at_
  have hp2 := hz_p_lt many
  have hf := hz_of_le at_ sz
  have hn := hz_on_le many sz (hz_of at_ sz)
  show J 0 0 [(hx, .inr (0, [.ref hq, .ref hr, .int (nI sz)])), hj_ar dA hr 4096 r] 0 [(0, .ref hx), (1, .int at_), (2, .int many)] []
  refine hj_iload_n o dX0_radix_0 1 rfl rfl ?_
  refine hj_ldc o dX0_radix_1 q212 ?_
  refine hj_iand_e (nI (hz_p at_)) o dX0_radix_3  (hz_p_and at_) ?_
  refine hj_aload_n o dX0_radix_4 0 rfl rfl ?_
  refine hj_get o dX0_radix_5 in_X0 2 q54 0 rfl rfl (by decide) rfl ?_
  refine hj_iconst (nI 1) o dX0_radix_8 (by decide) ?_
  refine hj_iadd_n o dX0_radix_9 ?_
  refine hj_irem_n o dX0_radix_10 (by omega) (by omega) (by omega) ?_
  obtain ⟨f, ef⟩ : ∃ f, f = hz_of at_ sz := ⟨_, rfl⟩
  rw [show hz_p at_ % (sz + 1) = f from ef.symm]
  rw [← ef] at hf hn hret
  refine hj_istore_n [(0, .ref hx), (1, .int at_), (2, .int many), (3, .int (nI f))] o dX0_radix_11 rfl (by decide) rfl ?_
  refine hj_iload_n o dX0_radix_12 2 rfl rfl ?_
  refine hj_ldc o dX0_radix_13 q212 ?_
  refine hj_iand_e (nI (hz_p many)) o dX0_radix_15  (hz_p_and many) ?_
  refine hj_aload_n o dX0_radix_16 0 rfl rfl ?_
  refine hj_get o dX0_radix_17 in_X0 2 q54 0 rfl rfl (by decide) rfl ?_
  refine hj_iload_n o dX0_radix_20 3 rfl rfl ?_
  refine hj_isub_n o dX0_radix_21 (by omega) ?_
  refine hj_iconst (nI 1) o dX0_radix_22 (by decide) ?_
  refine hj_iadd_n o dX0_radix_23 ?_
  refine hj_irem_n o dX0_radix_24 (by omega) (by omega) (by omega) ?_
  obtain ⟨n, en⟩ : ∃ n, n = hz_on many sz f := ⟨_, rfl⟩
  rw [show hz_p many % (sz - f + 1) = n from en.symm]
  rw [← en] at hn hret
  refine hj_istore [(0, .ref hx), (1, .int at_), (2, .int many), (3, .int (nI f)), (4, .int (nI n))] o dX0_radix_25 (by decide) rfl ?_
  refine hj_aload_n o dX0_radix_27 0 rfl rfl ?_
  refine hj_get o dX0_radix_28 in_X0 1 q53 0 rfl rfl (by decide) rfl ?_
  refine hj_iload_n o dX0_radix_31 3 rfl rfl ?_
  refine hj_iload_n o dX0_radix_32 3 rfl rfl ?_
  refine hj_iload o dX0_radix_33 4 rfl ?_
  refine hj_iadd_n o dX0_radix_35 ?_
  refine hj_callSv [(hx, .inr (0, [.ref hq, .ref hr, .int (nI sz)]))] [1] [0] 3 o dX0_radix_36 (k_radix l D dA hr 4096 f (f + n) r (by omega) (by omega) (by omega)) (lw_S q273 q274 q7 q275) (by decide +kernel) rfl ⟨by dsimp only [hj_rm]; omega, by dsimp only [hj_rm]; omega⟩ ⟨by dsimp only [hj_rm]; omega, by dsimp only [hj_rm]; omega⟩ rfl rfl (by decide) (by decide) (by decide) rfl (Nat.le_of_ble_eq_true rfl) (fun u hu => ?_)
  refine hj_iload o dX0_radix_39 4 rfl ?_
  exact hret _ _ _ 41 _ _ u [0, 1] dX0_radix_41 (by dsimp only [hj_rm]; omega) (by dsimp only [hj_rm]; omega) rfl ⟨rfl, hu⟩ rfl rfl
end
section
/-! CONSTRUCTORS: their rules and contracts. printed by gen_init.py -/
/-- IntArrays.EMPTY_ARRAY holds an array that isn't of the world -/
def hj_Z (A : Nat → Prop) (U : State) (H : Heap) : Prop := ∃ e0 : Nat, va_Z "IntArrays" "EMPTY_ARRAY" "[I" (.ref e0) A U H
/-- hj_Ok, and (nm) the method is a constructor, (zz) EMPTY_ARRAY is known -/
def hj_OkX (l : Launch) (R : Room) (D : va_G) (dA : ClassId) (own : String) (cc : ByteArray) (nL : Nat) (nm zz : Bool) (J : hj_JT) : Prop :=
  ∃ (p : Program) (e : Env) (s : State) (m : MethodId) (args : Array Value) (below : List Frame) (meth : Method) (c : Code) (A : Nat → Prop) (Q : State → Prop),
    J = hj_V p l e R s m args below meth c nL D A Q ∧ CallFix p m c cc nL s args lw_all own ∧ va_K D hj_cl [(dA, .int)] s ∧ (∀ q : Nat, s.heap.size ≤ q → A q) ∧ hj_XX s ∧ (nm = true → meth.name = "<init>") ∧ (zz = true → hj_Z A s s.heap)
theorem hj_OkX.ok {l : Launch} {R : Room} {D : va_G} {dA : ClassId} {own : String} {cc : ByteArray} {nL : Nat} {nm zz : Bool} {J : hj_JT} (o : hj_OkX l R D dA own cc nL nm zz J) : hj_Ok l R D dA own cc nL J := by
  obtain ⟨p, e, s, m, args, below, meth, c, A, Q, h1, h2, h3, h4, h5, -, -⟩ := o
  exact ⟨p, e, s, m, args, below, meth, c, A, Q, h1, h2, h3, h4, h5⟩
def hj_PcZ (D : va_G) (dA : ClassId) (As : List Value) (wc : va_W) (zz : Bool) (sz : Nat) : Array Value → State → Prop := va_Pc As (fun U => U.heap.size = sz ∧ va_P D hj_cl wc U.heap ∧ va_K D hj_cl [(dA, .int)] U ∧ va_D (fun _ => True) wc ∧ hj_XX U ∧ (zz = true → hj_Z (va_A wc sz) U U.heap))
/-- a constructor's contract -/
def hj_KC (l : Launch) {S : Type} (y : MethodName) (bytes : ByteArray) (L : Nat) (rm : Room) (D : va_G) (dA : ClassId) (As : List Value) (wc : va_W) (zz : Bool) (post : S → Prop) (wn : S → va_W) : Prop :=
  ∀ sz : Nat, Met l y (ws_ y bytes L none) rm (hj_PcZ D dA As wc zz sz) (va_Qv post (hj_B D dA wc sz wn) (va_A wc sz)) rm.cells rm.slots (va_A wc sz)
theorem hj_blindZ {D : va_G} {dA : ClassId} {As : List Value} {wc : va_W} {zz : Bool} {sz : Nat} : FrameBlind (hj_PcZ D dA As wc zz sz) := by
  intro a U g mk h
  obtain ⟨q0, q1, qP, qK, qD, qX, qZ⟩ := h
  refine ⟨q0, q1, qP, va_K.moved (u := U) (U := U.calling g mk a) (Vm.Alike.refl U.vm) qK, qD, hj_XX_same rfl qX, fun hz => ?_⟩
  obtain ⟨e0, h0⟩ := qZ hz
  exact ⟨e0, va_Z.moved (u := U) (U := U.calling g mk a) (Vm.Alike.refl U.vm) h0⟩
theorem hj_introC {l : Launch} {S : Type} {y : MethodName} {bytes : ByteArray} {nL : Nat} {rm : Room} {D : va_G} {dA : ClassId} {As : List Value} {wc : va_W} {zz : Bool} {post : S → Prop} {wn : S → va_W} (hy : plainName y.cls = true) (hy1 : y.name = "<init>") (hlen : (lg_sl As).length ≤ nL) (body : ∀ J : hj_JT, hj_OkX l rm D dA y.cls bytes nL true zz J → hj_retV bytes rm post wn J → J 0 0 wc 0 (lv_args 0 As) []) : hj_KC l y bytes nL rm D dA As wc zz post wn := by
  intro sz
  refine Met.ofW (cc := bytes) (maxL := nL) (ret := none) hy rfl ?_
  intro p e s m args below meth c s₁ B hml hv
  obtain ⟨rfl, hsz, hP, hK, hD0, hX, hZ⟩ := hv
  have hx := B.exec
  have hb := B.bytes
  have hr := B.returns
  have hts := atoms_spec (ws := ws_ y bytes nL none) B.pre
  have hts : ∀ w ∈ lw_all, w.before _ s = true := fun w h => hts w (List.mem_cons_of_mem _ h)
  have hown : s.vm.findClass y.cls = some m.cls := findClass_of_methodNamed B.named
  have hin : meth.name = "<init>" := (name_of_methodNamed B.named B.method).1.trans hy1
  have hlocks := B.notSynchronized
  subst hsz
  have hD := hD0.self (sz := s.heap.size)
  have hA : ∀ q : Nat, s.heap.size ≤ q → va_A wc s.heap.size q := fun q h => Or.inr h
  have hl := lv_entry As (n := nL) hlen
  rw [lg_entry_eq]
  refine body (hj_V p l e rm s m As.toArray below meth c nL D (va_A wc s.heap.size) (MQ below (va_Qv post (hj_B D dA wc s.heap.size wn) (va_A wc s.heap.size)) As.toArray s rm.cells rm.slots (va_A wc s.heap.size))) ⟨p, e, s, m, As.toArray, below, meth, c, va_A wc s.heap.size, _, rfl, ⟨hx, hb, hml, hown, hts⟩, hK, hA, hX, fun _ => hin, hZ⟩ ?_ s.heap [] _ hP hD va_S.rf hl
  intro cells slots ws pc lv u is d h1 h2 hp hn hs H locs ls hP hD hS hl
  refine W.widen h1 h2 ?_
  exact W.vret hx hb hr (fun t ht hW => ⟨⟨u, rfl, hp, by rw [ht]; exact hP.sub is (hj_fm hs), va_K.moved hW.alike hK, hD.sub is hn hs⟩, hS.F ht⟩) hS.2.2 d
section HN
variable {l : Launch} {R : Room} {D : va_G} {dA : ClassId} {own : String} {cc : ByteArray} {nL : Nat} {nm zz : Bool} {J : hj_JT} {cells slots pc : Nat} {ws : va_W} {lv : hj_L} {st : List Value}
variable {S : Type} {y : MethodName} {bytes : ByteArray} {L ix : Nat} {rm : Room} {As rest : List Value} {wc : va_W}
theorem hj_objInit {a : Nat} (o : hj_Ok l R D dA own cc nL J) (d : decode cc pc = .ok (.invokespecial ix, 3)) (q : Cond.methodLink own ix Lib.objectInit ∈ lw_all) (hf : 1 ≤ R.frames) (hlo : (st.map fun v => v.category).sum + 12 ≤ R.locals) (kk : J cells slots ws (pc + 3) lv st) : J cells slots ws pc lv (.ref a :: st) := by
  obtain ⟨p, e, s, m, args, below, meth, c, A, Q, rfl, ⟨hx, hb, hml, hown, hts⟩, hK, hA, hX⟩ := o
  intro H locs ls hP hD hS hl
  exact W.objInit hx hb hown (hts _ q) (hts _ q24) (hts _ q25) rfl (by rw [hml]; exact hl.1) rfl d hf (by show 2 * 0 + _ + 12 ≤ _; omega) (kk H locs ls hP hD hS hl)
theorem hj_new {C : String} {T : u_T} {N : Nat} {fs : List Value} (ci : Nat) (ty : Nat → FieldType) (o : hj_Ok l R D dA own cc nL J) (d : decode cc pc = .ok (.new ix, 3)) (hin : ∀ w ∈ u_ws C T N, w ∈ lw_all) (hty : ∀ k, k < N → parseFieldDescriptor (T k).2.2.1 = some (ty k)) (q1 : Cond.classLink own ix C ∈ lw_all) (q2 : Cond.instantiable C N ∈ lw_all) (q3 : Cond.initialized C ∈ lw_all) (hcl : hj_cl[ci]? = some (C, T, N)) (hfs : ∀ j, j < N → defaultValue (ty j) = vp_V fs j) (hc : cells + 1 ≤ R.cells) (hs : slots + N ≤ R.slots) (kk : ∀ q : Nat, J (cells + 1) (slots + N) (ws ++ [(q, .inr (ci, fs))]) (pc + 3) lv (.ref q :: st)) : J cells slots ws pc lv st := by
  obtain ⟨p, e, s, m, args, below, meth, c, A, Q, rfl, ⟨hx, hb, hml, hown, hts⟩, hK, hA, hX⟩ := o
  intro H locs ls hP hD hS hl
  exact va_new (ci := ci) (fs := fs) (C := C) (T := T) (N := N) hx hb hts hin ty hty hown (hts _ q1) (hts _ q2) (hts _ q3) hK hP hD hS hA hcl hfs hc hs d (fun q H hP hD hS => kk q H locs ls hP hD hS hl)
theorem hj_putF {C : String} {T : u_T} {N ci a : Nat} {fs : List Value} {v : Value} {ty : FieldType} (ws' : va_W) (ty0 : Nat → FieldType) (o : hj_OkX l R D dA own cc nL true zz J) (d : decode cc pc = .ok (.putfield ix, 3)) (hin : ∀ w ∈ u_ws C T N, w ∈ lw_all) (hty : ∀ k, k < N → parseFieldDescriptor (T k).2.2.1 = some (ty0 k)) (hnm2 : ∀ a, a < N → ∀ b, b < N → a ≠ b → (T a).2.1 ≠ (T b).2.1) (k : Nat) (q : Cond.fieldLink own ix (T k).1 (T k).2.1 (T k).2.2.1 ∈ lw_all) (q0 : Nat) (he : ws[q0]? = some (a, .inr (ci, fs))) (hcl : hj_cl[ci]? = some (C, T, N)) (hk : k < N) (hfin : (T k).2.2.2 = true) (hdecl : (T k).1 = own) (hd : parseFieldDescriptor (T k).2.2.1 = some ty) (hnr : narrow ty v = v) (hfit : fits ty v = true) (hlk : k < fs.length) (hw : ws.set q0 (a, .inr (ci, fs.set k v)) = ws') (kk : J cells slots ws' (pc + 3) lv st) : J cells slots ws pc lv (v :: .ref a :: st) := by
  obtain ⟨p, e, s, m, args, below, meth, c, A, Q, rfl, ⟨hx, hb, hml, hown, hts⟩, hK, hA, hX, hnm, hZ⟩ := o
  intro H locs ls hP hD hS hl
  subst hw
  exact va_putF (D := D) (ci := ci) (v := v) (ty := ty) (C := C) (T := T) (N := N) hx hb hts hin ty0 hty hnm2 hown hK hP hD hS q0 he hcl k hk (hts _ q) (fun _ h9 => h9) hfin (hnm rfl) hdecl hd hnr hfit hlk d (fun H locs hP hD hS => kk H locs ls hP hD hS hl)
theorem hj_empty (o : hj_OkX l R D dA own cc nL nm true J) (d : decode cc pc = .ok (.getstatic ix, 3)) (q : Cond.fieldLink own ix "IntArrays" "EMPTY_ARRAY" "[I" ∈ lw_all) (kk : ∀ e0 : Nat, J cells slots ws (pc + 3) lv (.ref e0 :: st)) : J cells slots ws pc lv st := by
  obtain ⟨p, e, s, m, args, below, meth, c, A, Q, rfl, ⟨hx, hb, hml, hown, hts⟩, hK, hA, hX, hnm, hZ⟩ := o
  intro H locs ls hP hD hS hl
  obtain ⟨e0, h0⟩ := hZ rfl
  exact va_gets hx hb h0 hS hown (hts _ q) (fun _ h9 => h9) d (kk e0 H locs ls hP hD hS hl)
/-- a constructor's call -/
theorem hj_callC {b : Nat} {zc : Bool} {post : S → Prop} {wn : S → va_W} (wr : va_W) (isC isR : List Nat) (n : Nat) (o : hj_OkX l R D dA own cc nL nm zz J) (d : decode cc pc = .ok (.invokespecial ix, 3)) (hM : hj_KC l y bytes L rm D dA (Value.ref b :: As) wc zc post wn) (hzz : zc = true → zz = true) (w : GoodIn lw_all (ws_ y bytes L none)) (q1 : Cond.initialized y.cls ∈ lw_all) (q2 : Cond.methodLink own ix y ∈ lw_all) (q3 : Cond.instanceMethod y ∈ lw_all) (hy1 : y.name = "<init>") (hd : y.cls ≠ "java/lang/invoke/MethodHandle" ∧ y.cls ≠ "java/lang/invoke/VarHandle" ∧ (parseMethodDescriptor y.desc).map (fun d => d.parameters.length) = some n) (hn : As.length = n) (hR : rm.frames + 1 ≤ R.frames ∧ 8 + (L + 11) + rm.locals ≤ R.locals) (hf : cells + rm.cells ≤ R.cells ∧ slots + rm.slots ≤ R.slots) (hC : isC.map (fun i => ws[i]?) = wc.map some) (hRr : isR.map (fun i => ws[i]?) = wr.map some) (hnC : va_nd isC = true) (hnR : va_nd isR = true) (hdis : ∀ i ∈ isR, i ∉ isC) (hst : st = As.reverse ++ .ref b :: rest) (hrm : (rest.map fun v => v.category).sum ≤ 8) (kk : ∀ u : S, post u → J (cells + rm.cells) (slots + rm.slots) (wr ++ wn u) (pc + 3) lv rest) : J cells slots ws pc lv st := by
  obtain ⟨p, e, s, m, args, below, meth, c, A, Q, rfl, ⟨hx, hb, hml, hown, hts⟩, hK, hA, hX, hnm, hZ⟩ := o
  intro H locs ls hP hD hS hl
  subst hst
  have hPc := hP.sub isC (hj_fm hC)
  have hDc := hD.sub isC hnC hC
  have hFc := va_free (wc := wc) hD hS hA isC hC
  refine va_callv (va_runI (ws := ws_ y bytes L none) (As := As) (rest := rest) ⟨hx, hb, hml, hown, hts⟩ (hM H.size) (cwI n hts w rfl rfl rfl (hts _ q1) (hts _ q2) (hts _ q3) hy1 hd hR) ⟨hj_blindZ, fun U hU hW => ⟨rfl, by rw [hU], by rw [hU]; exact hPc, va_K.moved hW.alike hK, hDc.weaken (fun _ _ _ _ => trivial), hj_XX_warm hW hX, fun hz => ?_⟩⟩ rfl hn hl.1 rfl (lv_room hrm) d hf) hS (fun q _ h => hFc q h) hFc (fun u t H1 locs ht hvm hp hB hz1 hk1 hS => ?_)
  · obtain ⟨e0, h0⟩ := hZ (hzz hz)
    refine ⟨e0, ?_⟩
    rw [hU]
    exact va_Z.moved hW.alike ((h0.kept (fun a h1 h2 => hS.2.1 a h1 h2)).narrow hFc)
  · obtain ⟨hP1, hK1, hD1⟩ := hB
    rw [ht] at hP1
    obtain ⟨hP, hD⟩ := va_join (wr := wr) (w1 := wn u) hP hD isC isR hC hRr hnR hdis hk1 hFc hP1 hD1
    exact kk u hp H1 locs ls hP hD hS hl
/-- HeapLine's call of HeapLine$Order's private constructor -/
theorem hj_callN {b : Nat} {post : S → Prop} {wn : S → va_W} (wr : va_W) (isC isR : List Nat) (o : hj_Ok l R D dA RX0 cc nL J) (d : decode cc pc = .ok (.invokespecial 11, 3)) (hM : hj_KV l yX2_init cX2_init 1 rm D dA [Value.ref b] wc post wn) (hR : rm.frames + 1 ≤ R.frames ∧ 8 + (1 + 11) + rm.locals ≤ R.locals) (hf : cells + rm.cells ≤ R.cells ∧ slots + rm.slots ≤ R.slots) (hC : isC.map (fun i => ws[i]?) = wc.map some) (hRr : isR.map (fun i => ws[i]?) = wr.map some) (hnC : va_nd isC = true) (hnR : va_nd isR = true) (hdis : ∀ i ∈ isR, i ∉ isC) (hrm : (rest.map fun v => v.category).sum ≤ 8) (kk : ∀ u : S, post u → J (cells + rm.cells) (slots + rm.slots) (wr ++ wn u) (pc + 3) lv rest) : J cells slots ws pc lv (.ref b :: rest) := by
  obtain ⟨p, e, s, m, args, below, meth, c, A, Q, rfl, ⟨hx, hb, hml, hown, hts⟩, hK, hA, hX⟩ := o
  intro H locs ls hP hD hS hl
  have hPc := hP.sub isC (hj_fm hC)
  have hDc := hD.sub isC hnC hC
  have hFc := va_free (wc := wc) hD hS hA isC hC
  refine va_callv (va_runIN (ws := ws_ yX2_init cX2_init 1 none) (host := "HeapLine") (As := []) (rest := rest) ⟨hx, hb, hml, hown, hts⟩ (hM H.size) ⟨va_cnB 0 hts (lw_meth q32) rfl rfl rfl hX.2.2.2.2.2.2.1 (hts _ q6) (by decide +kernel) hR, rfl, hts _ q31⟩ ⟨hj_blind, fun U hU hW => ⟨rfl, by rw [hU], by rw [hU]; exact hPc, va_K.moved hW.alike hK, hDc.weaken (fun _ _ _ _ => trivial), hj_XX_warm hW hX⟩⟩ rfl rfl hl.1 rfl (lv_room hrm) d hf) hS (fun q _ h => hFc q h) hFc (fun u t H1 locs ht hvm hp hB hz1 hk1 hS => ?_)
  obtain ⟨hP1, hK1, hD1⟩ := hB
  rw [ht] at hP1
  obtain ⟨hP, hD⟩ := va_join (wr := wr) (w1 := wn u) hP hD isC isR hC hRr hnR hdis hk1 hFc hP1 hD1
  exact kk u hp H1 locs ls hP hD hS hl
end HN
set_option maxHeartbeats 8000000 in
set_option maxRecDepth 100000 in
theorem k_oinit (l : Launch) (D : va_G) (dA : ClassId) (ho : Nat) : hj_KV l yX2_init cX2_init 1 (hj_rm 1 12 0 0) D dA [.ref ho] [(ho, .inr (2, []))] (fun _ : Unit => True) (fun _ => [(ho, .inr (2, []))]) := by
  refine hj_introV (by decide) (Nat.le_of_ble_eq_true rfl) (fun J o hret => ?_)
  show J 0 0 [(ho, .inr (2, []))] 0 [(0, .ref ho)] []
  refine hj_aload_n o dX2_init_0 0 rfl rfl ?_
  refine hj_objInit o dX2_init_1 q33 (Nat.le_refl _) (Nat.le_of_ble_eq_true rfl) ?_
  exact hret 0 0 _ 4 _ () [0] dX2_init_4 (Nat.le_refl _) (Nat.le_refl _) trivial rfl rfl
set_option maxHeartbeats 8000000 in
set_option maxRecDepth 100000 in
/-- new IntHeapPriorityQueue(4, ho) -/
theorem k_qinit (l : Launch) (D : va_G) (dA : ClassId) (hq ho : Nat) : hj_KC l yX1_init cX1_init 3 (hj_rm 1 16 1 4) D dA [.ref hq, .int (nI 4), .ref ho] [(hq, .inr (1, [.null, .int (nI 0), .null]))] true (fun _ : Nat => True) (fun u => [(hq, .inr (1, [.ref u, .int (nI 0), .ref ho])), hj_ar dA u 4 (fun _ => 0)]) := by
  refine hj_introC (by decide) rfl (Nat.le_of_ble_eq_true rfl) (fun J o hret => ?_)
  show J 0 0 [(hq, .inr (1, [.null, .int (nI 0), .null]))] 0 [(0, .ref hq), (1, .int (nI 4)), (2, .ref ho)] []
  refine hj_aload_n o.ok dX1_init_0 0 rfl rfl ?_
  refine hj_objInit o.ok dX1_init_1 q38 (Nat.le_refl _) (Nat.le_of_ble_eq_true rfl) ?_
  refine hj_aload_n o.ok dX1_init_4 0 rfl rfl ?_
  refine hj_empty o dX1_init_5 q39 (fun e0 => ?_)
  refine hj_putf (ty := (.array .int)) [(hq, .inr (1, [.ref e0, .int (nI 0), .null]))] tyX1 o.ok dX1_init_8 in_X1 tyX1_ok nmX1 0 q41 0 rfl rfl (by decide) rfl (by decide +kernel) rfl rfl (Nat.le_of_ble_eq_true rfl) rfl ?_
  refine hj_iload_n o.ok dX1_init_11 1 rfl rfl ?_
  refine hj_if_le 22 o.ok dX1_init_12 (by decide) (fun c1 => ?_) (fun c1 => ?_)
  · exact absurd c1 (by decide)
  · refine hj_aload_n o.ok dX1_init_15 0 rfl rfl ?_
    refine hj_iload_n o.ok dX1_init_16 1 rfl rfl ?_
    refine hj_newa o.ok dX1_init_17 (by decide) (Nat.le_refl _) (Nat.le_refl _) (fun u => ?_)
    show J 1 4 [(hq, .inr (1, [.ref e0, .int (nI 0), .null])), hj_ar dA u 4 (fun _ => 0)] 19 [(0, .ref hq), (1, .int (nI 4)), (2, .ref ho)] [.ref u, .ref hq]
    refine hj_putf (ty := (.array .int)) [(hq, .inr (1, [.ref u, .int (nI 0), .null])), hj_ar dA u 4 (fun _ => 0)] tyX1 o.ok dX1_init_19 in_X1 tyX1_ok nmX1 0 q41 0 rfl rfl (by decide) rfl (by decide +kernel) rfl rfl (Nat.le_of_ble_eq_true rfl) rfl ?_
    refine hj_aload_n o.ok dX1_init_22 0 rfl rfl ?_
    refine hj_aload_n o.ok dX1_init_23 2 rfl rfl ?_
    refine hj_putf (ty := (.object "IntComparator")) [(hq, .inr (1, [.ref u, .int (nI 0), .ref ho])), hj_ar dA u 4 (fun _ => 0)] tyX1 o.ok dX1_init_24 in_X1 tyX1_ok nmX1 2 q43 0 rfl rfl (by decide) rfl (by decide +kernel) rfl rfl (Nat.le_of_ble_eq_true rfl) rfl ?_
    exact hret _ _ _ 27 _ u [0, 1] dX1_init_27 (Nat.le_refl _) (Nat.le_refl _) trivial rfl rfl
set_option maxHeartbeats 8000000 in
set_option maxRecDepth 100000 in
/-- new HeapLine(): u is the queue, its array, its order, the rows -/
theorem k_xinit (l : Launch) (D : va_G) (dA : ClassId) (hx : Nat) : hj_KC l yX0_init cX0_init 1 (hj_rm 2 64 4 4103) D dA [.ref hx] [(hx, .inr (0, [.null, .null, .int (nI 0)]))] true (fun _ : Nat × Nat × Nat × Nat => True) (fun u => [(hx, .inr (0, [.ref (u.1), .ref (u.2.2.2), .int (nI 0)])), (u.1, .inr (1, [.ref (u.2.1), .int (nI 0), .ref (u.2.2.1)])), hj_ar dA u.2.1 4 (fun _ => 0), (u.2.2.1, .inr (2, [])), hj_ar dA u.2.2.2 4096 (fun _ => 0)]) := by
  refine hj_introC (by decide) rfl (Nat.le_of_ble_eq_true rfl) (fun J o hret => ?_)
  show J 0 0 [(hx, .inr (0, [.null, .null, .int (nI 0)]))] 0 [(0, .ref hx)] []
  refine hj_aload_n o.ok dX0_init_0 0 rfl rfl ?_
  refine hj_objInit o.ok dX0_init_1 q23 (Nat.le_of_ble_eq_true rfl) (Nat.le_of_ble_eq_true rfl) ?_
  refine hj_aload_n o.ok dX0_init_4 0 rfl rfl ?_
  refine hj_new (fs := [.null, .int (nI 0), .null]) 1 tyX1 o.ok dX0_init_5 in_X1 tyX1_ok q26 q27 q5 rfl (fun j hj => by rcases (show j = 0 ∨ j = 1 ∨ j = 2 by omega) with rfl | rfl | rfl <;> rfl) (Nat.le_of_ble_eq_true rfl) (Nat.le_of_ble_eq_true rfl) (fun hq => ?_)
  show J 1 3 [(hx, .inr (0, [.null, .null, .int (nI 0)])), (hq, .inr (1, [.null, .int (nI 0), .null]))] 8 [(0, .ref hx)] [.ref hq, .ref hx]
  refine hj_dup o.ok dX0_init_8 rfl ?_
  refine hj_iconst (nI 4) o.ok dX0_init_9 (by decide) ?_
  refine hj_new (fs := []) 2 (fun _ => .int) o.ok dX0_init_10 (T := hj_T2) (N := 0) (fun w hw => by cases hw) (fun k hk => absurd hk (Nat.not_lt_zero k)) q28 q29 q6 rfl (fun j hj => absurd hj (Nat.not_lt_zero j)) (Nat.le_of_ble_eq_true rfl) (Nat.le_of_ble_eq_true rfl) (fun ho => ?_)
  show J 2 3 [(hx, .inr (0, [.null, .null, .int (nI 0)])), (hq, .inr (1, [.null, .int (nI 0), .null])), (ho, .inr (2, []))] 13 [(0, .ref hx)] [.ref ho, .int (nI 4), .ref hq, .ref hq, .ref hx]
  refine hj_dup o.ok dX0_init_13 rfl ?_
  refine hj_callN [(hx, .inr (0, [.null, .null, .int (nI 0)])), (hq, .inr (1, [.null, .int (nI 0), .null]))] [2] [0, 1] o.ok dX0_init_14 (k_oinit l D dA ho) ⟨Nat.le_of_ble_eq_true rfl, Nat.le_of_ble_eq_true rfl⟩ ⟨Nat.le_of_ble_eq_true rfl, Nat.le_of_ble_eq_true rfl⟩ rfl rfl (by decide) (by decide) (by decide) (Nat.le_of_ble_eq_true rfl) (fun _ _ => ?_)
  show J 2 3 [(hx, .inr (0, [.null, .null, .int (nI 0)])), (hq, .inr (1, [.null, .int (nI 0), .null])), (ho, .inr (2, []))] 17 [(0, .ref hx)] [.ref ho, .int (nI 4), .ref hq, .ref hq, .ref hx]
  refine hj_callC [(hx, .inr (0, [.null, .null, .int (nI 0)])), (ho, .inr (2, []))] [1] [0, 2] 2 o dX0_init_17 (k_qinit l D dA hq ho) (fun _ => rfl) (lw_meth q37) q5 q35 q36 rfl (by decide +kernel) rfl ⟨Nat.le_of_ble_eq_true rfl, Nat.le_of_ble_eq_true rfl⟩ ⟨Nat.le_of_ble_eq_true rfl, Nat.le_of_ble_eq_true rfl⟩ rfl rfl (by decide) (by decide) (by decide) rfl (Nat.le_of_ble_eq_true rfl) (fun hh _ => ?_)
  show J 3 7 [(hx, .inr (0, [.null, .null, .int (nI 0)])), (ho, .inr (2, [])), (hq, .inr (1, [.ref hh, .int (nI 0), .ref ho])), hj_ar dA hh 4 (fun _ => 0)] 20 [(0, .ref hx)] [.ref hq, .ref hx]
  refine hj_putF (ty := (.object "IntHeapPriorityQueue")) [(hx, .inr (0, [.ref hq, .null, .int (nI 0)])), (ho, .inr (2, [])), (hq, .inr (1, [.ref hh, .int (nI 0), .ref ho])), hj_ar dA hh 4 (fun _ => 0)] tyX0 o dX0_init_20 in_X0 tyX0_ok nmX0 0 q52 0 rfl rfl (by decide) rfl rfl (by decide +kernel) rfl rfl (Nat.le_of_ble_eq_true rfl) rfl ?_
  refine hj_aload_n o.ok dX0_init_23 0 rfl rfl ?_
  refine hj_sipush (nI 4096) o.ok dX0_init_24 (by decide) ?_
  refine hj_newa o.ok dX0_init_27 (by decide) (Nat.le_of_ble_eq_true rfl) (Nat.le_of_ble_eq_true rfl) (fun hr => ?_)
  show J 4 4103 [(hx, .inr (0, [.ref hq, .null, .int (nI 0)])), (ho, .inr (2, [])), (hq, .inr (1, [.ref hh, .int (nI 0), .ref ho])), hj_ar dA hh 4 (fun _ => 0), hj_ar dA hr 4096 (fun _ => 0)] 29 [(0, .ref hx)] [.ref hr, .ref hx]
  refine hj_putF (ty := (.array .int)) [(hx, .inr (0, [.ref hq, .ref hr, .int (nI 0)])), (ho, .inr (2, [])), (hq, .inr (1, [.ref hh, .int (nI 0), .ref ho])), hj_ar dA hh 4 (fun _ => 0), hj_ar dA hr 4096 (fun _ => 0)] tyX0 o dX0_init_29 in_X0 tyX0_ok nmX0 1 q53 0 rfl rfl (by decide) rfl rfl (by decide +kernel) rfl rfl (Nat.le_of_ble_eq_true rfl) rfl ?_
  exact hret _ _ _ 32 _ (hq, hh, ho, hr) [0, 2, 3, 1, 4] dX0_init_32 (Nat.le_refl _) (Nat.le_refl _) trivial rfl rfl
set_option maxHeartbeats 8000000 in
set_option maxRecDepth 100000 in
/-- new HeapLineModel(): u is the keys and the rows -/
theorem k_minit (l : Launch) (D : va_G) (dA : ClassId) (hm : Nat) : hj_KC l yX4_init cX4_init 1 (hj_rm 1 12 2 8192) D dA [.ref hm] [(hm, .inr (3, [.null, .int (nI 0), .null, .int (nI 0)]))] false (fun _ : Nat × Nat => True) (fun u => [(hm, .inr (3, [.ref (u.1), .int (nI 0), .ref (u.2), .int (nI 0)])), hj_ar dA u.1 4096 (fun _ => 0), hj_ar dA u.2 4096 (fun _ => 0)]) := by
  refine hj_introC (by decide) rfl (Nat.le_of_ble_eq_true rfl) (fun J o hret => ?_)
  show J 0 0 [(hm, .inr (3, [.null, .int (nI 0), .null, .int (nI 0)]))] 0 [(0, .ref hm)] []
  refine hj_aload_n o.ok dX4_init_0 0 rfl rfl ?_
  refine hj_objInit o.ok dX4_init_1 q285 (Nat.le_of_ble_eq_true rfl) (Nat.le_of_ble_eq_true rfl) ?_
  refine hj_aload_n o.ok dX4_init_4 0 rfl rfl ?_
  refine hj_sipush (nI 4096) o.ok dX4_init_5 (by decide) ?_
  refine hj_newa o.ok dX4_init_8 (by decide) (Nat.le_of_ble_eq_true rfl) (Nat.le_of_ble_eq_true rfl) (fun hk => ?_)
  show J 1 4096 [(hm, .inr (3, [.null, .int (nI 0), .null, .int (nI 0)])), hj_ar dA hk 4096 (fun _ => 0)] 10 [(0, .ref hm)] [.ref hk, .ref hm]
  refine hj_putF (ty := (.array .int)) [(hm, .inr (3, [.ref hk, .int (nI 0), .null, .int (nI 0)])), hj_ar dA hk 4096 (fun _ => 0)] tyX4 o dX4_init_10 in_X4 tyX4_ok nmX4 0 q286 0 rfl rfl (by decide) rfl rfl (by decide +kernel) rfl rfl (Nat.le_of_ble_eq_true rfl) rfl ?_
  refine hj_aload_n o.ok dX4_init_13 0 rfl rfl ?_
  refine hj_sipush (nI 4096) o.ok dX4_init_14 (by decide) ?_
  refine hj_newa o.ok dX4_init_17 (by decide) (Nat.le_of_ble_eq_true rfl) (Nat.le_of_ble_eq_true rfl) (fun hr => ?_)
  show J 2 8192 [(hm, .inr (3, [.ref hk, .int (nI 0), .null, .int (nI 0)])), hj_ar dA hk 4096 (fun _ => 0), hj_ar dA hr 4096 (fun _ => 0)] 19 [(0, .ref hm)] [.ref hr, .ref hm]
  refine hj_putF (ty := (.array .int)) [(hm, .inr (3, [.ref hk, .int (nI 0), .ref hr, .int (nI 0)])), hj_ar dA hk 4096 (fun _ => 0), hj_ar dA hr 4096 (fun _ => 0)] tyX4 o dX4_init_19 in_X4 tyX4_ok nmX4 2 q288 0 rfl rfl (by decide) rfl rfl (by decide +kernel) rfl rfl (Nat.le_of_ble_eq_true rfl) rfl ?_
  exact hret _ _ _ 22 _ (hk, hr) [0, 1, 2] dX4_init_22 (Nat.le_refl _) (Nat.le_refl _) trivial rfl rfl
end
section
-- ===== end of PART A; then your names; then what follows =====
/-! THE CLAIM OUT OF ONE WALK OF THE LAW'S BODY. Your part is whole_start (and what it stands on); all else here is the same for every law, but numbers. -/
def R_law : String := "HeapLineLaw"
def lw_P (b : Addr) (xs : List Int32) (args : Array Value) (s : State) : Prop := args = #[.ref b] ∧ s.IntsAt b xs ∧ xs.length ≤ 384 ∧ (Jvm.Cond.and given_1 narrow_1).before args s = true
def lw_Q (_ : Array Value) (s : State) (o : Outcome) (t : State) : Prop := o = .returned (some (.int 1)) ∧ Framed s o t [] 600128 7301098
def lw_Z (below : List Frame) (a : Array Value) (s : State) : State → Prop := fun t => ∃ o, t.status = .running ∧ Ended t below o ∧ lw_Q a s o t
/-- the law's own end, with 1 on the stack, nothing written that was there before, its room as the claim has it -/
theorem lw_ret {p : Program} {l : Launch} {e : Env} {s : State} {m : MethodId} {below : List Frame} {meth : Method} {c : Code} {b : Nat} (hx : p.tables.exec = Jvm.exec) (hb : c.code = code) (hr : meth.sig.returnType = ret) (hlocks : meth.locks = false) {pc : Nat} {H : Heap} {ls : Array Slot} (hdg : decode code pc = .ok (.ireturn, 1)) : W p l e room_1 s m #[Value.ref b] below meth c H [] 600128 7301098 (lw_Z below #[Value.ref b] s) (F0 m pc ls [.int 1]) := by
  intro T hT X
  obtain ⟨fs, hret, hrun, hended, hW, hframe⟩ := X.leave (v := some (.int 1)) (hlocks := hlocks) (fun h => by rw [hr] at h; cases h)
  have hmeth' : T.vm.method? m = some meth := X.method'
  refine ⟨T.setFrames fs, ?_, .returned (some (.int 1)), hrun, hended, rfl, ⟨_, rfl⟩, hW, hframe⟩
  jvm_step X.here [X.here.top, hx, hb, hdg, hmeth', hr, ret, narrow_b1]
  (try refine ⟨rfl, ?_⟩); (try refine ⟨rfl, ?_⟩)
  first | (intro acts; rw [hret _ acts rfl rfl rfl]) | rw [hret _ _ rfl rfl rfl]
  exact Steps.refl _
/-- what holds at the law's entry: the machine, the code, the tables' words (any of lw_tbl by 'hts w (by decide +kernel)'), the script of L ints xs at the cell b, what the Statement gives of the start (any of its parts by flat_of_before) -/
def lw_At (p : Program) (s : State) (m : MethodId) (meth : Method) (c : Code) (b L : Nat) (xs : Nat → Int32) : Prop :=
  p.tables.exec = Jvm.exec ∧ c.code = code ∧ meth.sig.returnType = ret ∧ c.maxLocals = 4 ∧ s.vm.findClass R_law = some m.cls ∧ (∀ w ∈ lw_tbl, w.before #[Value.ref b] s = true) ∧ va_X b L xs s s.heap ∧ b < s.heap.size ∧ meth.locks = false ∧ (Jvm.Cond.and given_1 narrow_1).before #[Value.ref b] s = true
end
section
/-! THE LAW's loop. printed by gen_law.py -/
def hj_OkL (l : Launch) (R : Room) (D : va_G) (dA : ClassId) (own : String) (cc : ByteArray) (nL : Nat) (b L : Nat) (xs : Nat → Int32) (J : hj_JT) : Prop :=
  ∃ (p : Program) (e : Env) (s : State) (m : MethodId) (args : Array Value) (below : List Frame) (meth : Method) (c : Code) (A : Nat → Prop) (Q : State → Prop),
    J = hj_V p l e R s m args below meth c nL D A Q ∧ CallFix p m c cc nL s args lw_all own ∧ va_K D hj_cl [(dA, .int)] s ∧ (∀ q : Nat, s.heap.size ≤ q → A q) ∧ hj_XX s ∧ va_X b L xs s s.heap ∧ b < s.heap.size ∧ ¬ A b
section HL
variable {l : Launch} {R : Room} {D : va_G} {dA : ClassId} {own : String} {cc : ByteArray} {nL : Nat} {b L : Nat} {xs : Nat → Int32} {J : hj_JT} {cells slots pc : Nat} {ws : va_W} {lv : hj_L} {st : List Value}
theorem hj_OkL.ok (o : hj_OkL l R D dA own cc nL b L xs J) : hj_Ok l R D dA own cc nL J := by
  obtain ⟨p, e, s, m, args, below, meth, c, A, Q, h1, h2, h3, h4, h5, -, -, -⟩ := o
  exact ⟨p, e, s, m, args, below, meth, c, A, Q, h1, h2, h3, h4, h5⟩
theorem hj_sld {j : Nat} (o : hj_OkL l R D dA own cc nL b L xs J) (d : decode cc pc = .ok (.iaload, 1)) (hj : j < L) (hL : L < 2 ^ 31) (kk : J cells slots ws (pc + 1) lv (.int (xs j) :: st)) : J cells slots ws pc lv (.int (nI j) :: .ref b :: st) := by
  obtain ⟨p, e, s, m, args, below, meth, c, A, Q, rfl, ⟨hx, hb, hml, hown, hts⟩, hK, hA, hX, hSc, hbl, hbA⟩ := o
  intro H locs ls hP hD hS hl
  have k1 := kk H locs ls hP hD hS hl
  rw [← nI_clamp (n := j) (by omega)] at k1
  exact va_sld hx hb hSc hbl hbA hS (vp_in_nI hj hL) d k1
theorem hj_slen (o : hj_OkL l R D dA own cc nL b L xs J) (d : decode cc pc = .ok (.arraylength, 1)) (kk : J cells slots ws (pc + 1) lv (.int (nI L) :: st)) : J cells slots ws pc lv (.ref b :: st) := by
  obtain ⟨p, e, s, m, args, below, meth, c, A, Q, rfl, ⟨hx, hb, hml, hown, hts⟩, hK, hA, hX, hSc, hbl, hbA⟩ := o
  intro H locs ls hP hD hS hl
  exact va_slen hx hb hSc hbl hbA hS d (kk H locs ls hP hD hS hl)
theorem hj_tabOut {dflt lo hi : Int} {offs : Array Int} {len : Nat} {x : Int32} (tgt : Nat) (o : hj_Ok l R D dA own cc nL J) (d : decode cc pc = .ok (.tableswitch dflt lo hi offs, len)) (h : x.toInt < lo ∨ hi < x.toInt) (ht : (pc : Int) + dflt = (tgt : Int)) (kk : J cells slots ws tgt lv st) : J cells slots ws pc lv (.int x :: st) := by
  obtain ⟨p, e, s, m, args, below, meth, c, A, Q, rfl, ⟨hx, hb, hml, hown, hts⟩, hK, hA, hX⟩ := o
  intro H locs ls hP hD hS hl
  exact lv_tableOut hx hb d h ht (kk H locs ls hP hD hS hl)
theorem hj_tabIn {dflt lo hi off : Int} {offs : Array Int} {len : Nat} {x : Int32} (tgt : Nat) (o : hj_Ok l R D dA own cc nL J) (d : decode cc pc = .ok (.tableswitch dflt lo hi offs, len)) (h1 : ¬ x.toInt < lo) (h2 : ¬ hi < x.toInt) (ho : offs[(x.toInt - lo).toNat]? = some off) (ht : (pc : Int) + off = (tgt : Int)) (kk : J cells slots ws tgt lv st) : J cells slots ws pc lv (.int x :: st) := by
  obtain ⟨p, e, s, m, args, below, meth, c, A, Q, rfl, ⟨hx, hb, hml, hown, hts⟩, hK, hA, hX⟩ := o
  intro H locs ls hP hD hS hl
  exact lv_tableIn hx hb d h1 h2 ho ht (kk H locs ls hP hD hS hl)
end HL
/-- what ties the two: n values queued, sz rows -/
def hz_inv (n len sz : Nat) (g r k r2 : Nat → Int32) : Prop := n ≤ 4096 ∧ n ≤ len ∧ len ≤ 6144 ∧ hz_hp g n ∧ (∀ P : Int32 → Bool, hz_ct P g n = hz_ct P k n) ∧ sz ≤ 4096 ∧ ∀ q, q < sz → r q = r2 q
theorem hz_inv_sort {n len sz f m : Nat} {g r k r2 u u2 : Nat → Int32} (h : hz_inv n len sz g r k r2) (hf : f + m ≤ sz) (h1 : hz_sm r u f (f + m)) (o1 : hz_so u f (f + m)) (h2 : hz_sm r2 u2 f (f + m)) (o2 : hz_so u2 f (f + m)) : hz_inv n len sz g u k u2 := by
  obtain ⟨a1, a2, a3, a4, a5, a6, a7⟩ := h
  refine ⟨a1, a2, a3, a4, a5, a6, fun q hq => ?_⟩
  rcases Nat.lt_or_ge q (f + m) with c | c
  · refine hz_so_one (a := f) (b := f + m) (fun P => ?_) (fun k hk => ?_) o1 o2 q c
    · rw [h1.2 P, h2.2 P]
      exact hz_ct_cong (fun k hk => a7 k (by omega))
    · rw [h1.1 k (Or.inl hk), h2.1 k (Or.inl hk)]
      exact a7 k (by omega)
  · rw [h1.1 q (Or.inr c), h2.1 q (Or.inr c)]
    exact a7 q hq
set_option maxHeartbeats 16000000 in
set_option maxRecDepth 100000 in
theorem k_law_0 {l : Launch} {D : va_G} {dA : ClassId} {J : hj_JT} {b L c hx hq ho hr hm hk hs hh len n sz cells slots : Nat} {xs g r k r2 : Nat → Int32} (ol : hj_OkL l room_1 D dA R_law code 4 b L xs J) (hL : L ≤ 384) (hi : 6 * c + 6 ≤ L) (hcl : cells + 5 ≤ 600128) (hsl : slots + 6144 ≤ 7301098) (hv : hz_inv n len sz g r k r2) (k341 : ∀ (hh len n sz cells2 slots2 : Nat) (g r k r2 : Nat → Int32), cells2 ≤ cells + 5 → slots2 ≤ slots + 6144 → hz_inv n len sz g r k r2 → J cells2 slots2 [(hx, .inr (0, [.ref hq, .ref hr, .int (nI sz)])), (hq, .inr (1, [.ref hh, .int (nI n), .ref ho])), hj_ar dA hh len g, (ho, .inr (2, [])), hj_ar dA hr 4096 r, (hm, .inr (3, [.ref hk, .int (nI n), .ref hs, .int (nI sz)])), hj_ar dA hk 4096 k, hj_ar dA hs 4096 r2] 341 [(0, .ref b), (1, .ref hx), (2, .ref hm), (3, .int (nI (6 * c)))] []) : J cells slots [(hx, .inr (0, [.ref hq, .ref hr, .int (nI sz)])), (hq, .inr (1, [.ref hh, .int (nI n), .ref ho])), hj_ar dA hh len g, (ho, .inr (2, [])), hj_ar dA hr 4096 r, (hm, .inr (3, [.ref hk, .int (nI n), .ref hs, .int (nI sz)])), hj_ar dA hk 4096 k, hj_ar dA hs 4096 r2] 92 [(0, .ref b), (1, .ref hx), (2, .ref hm), (3, .int (nI (6 * c)))] [] := by
  obtain ⟨v1, v2, v3, v4, v5, v6, v7⟩ := hv
  by_cases h4 : n < 4096
  · refine hj_aload_n ol.ok dL_law_92 1 rfl rfl ?_
    refine hj_aload_n ol.ok dL_law_93 0 rfl rfl ?_
    refine hj_iload_n ol.ok dL_law_94 3 rfl rfl ?_
    refine hj_iconst (nI 1) ol.ok dL_law_95 (by decide) ?_
    refine hj_iadd_n ol.ok dL_law_96 ?_
    refine hj_sld ol dL_law_97 (by omega) (by omega) ?_
    refine hj_callVi [hj_ar dA hr 4096 r, (hm, .inr (3, [.ref hk, .int (nI n), .ref hs, .int (nI sz)])), hj_ar dA hk 4096 k, hj_ar dA hs 4096 r2] [0, 1, 2, 3] [4, 5, 6, 7] 1 ol.ok dL_law_98 (k_xadd l D dA hx hq hr hh ho sz n len g (xs (6 * c + 1)) h4 v2 v3 v4) (lw_V q62 q63 q64 q4 q65) (by decide +kernel) rfl 0 rfl rfl ⟨Nat.le_of_ble_eq_true rfl, Nat.le_of_ble_eq_true rfl⟩ ⟨by show _ + 1 ≤ 600128; omega, by show _ + 6144 ≤ 7301098; omega⟩ rfl rfl (by decide) (by decide) (by decide) rfl (Nat.le_of_ble_eq_true rfl) (fun z1 u hu => ?_)
    show J (cells + 1) (slots + 6144) [hj_ar dA hr 4096 r, (hm, .inr (3, [.ref hk, .int (nI n), .ref hs, .int (nI sz)])), hj_ar dA hk 4096 k, hj_ar dA hs 4096 r2, (hx, .inr (0, [.ref hq, .ref hr, .int (nI sz)])), (hq, .inr (1, [.ref (u.1), .int (nI (n + 1)), .ref ho])), hj_ar dA u.1 u.2.1 u.2.2, (ho, .inr (2, []))] 101 [(0, .ref b), (1, .ref hx), (2, .ref hm), (3, .int (nI (6 * c)))] [.int z1]
    refine hj_pick [(hx, .inr (0, [.ref hq, .ref hr, .int (nI sz)])), (hq, .inr (1, [.ref (u.1), .int (nI (n + 1)), .ref ho])), hj_ar dA u.1 u.2.1 u.2.2, (ho, .inr (2, [])), hj_ar dA hr 4096 r, (hm, .inr (3, [.ref hk, .int (nI n), .ref hs, .int (nI sz)])), hj_ar dA hk 4096 k, hj_ar dA hs 4096 r2] [4, 5, 6, 7, 0, 1, 2, 3] ol.ok rfl rfl ?_
    obtain ⟨e1, u1, u2, u3, u4⟩ := hu
    refine hj_aload_n ol.ok dL_law_101 2 rfl rfl ?_
    refine hj_aload_n ol.ok dL_law_102 0 rfl rfl ?_
    refine hj_iload_n ol.ok dL_law_103 3 rfl rfl ?_
    refine hj_iconst (nI 1) ol.ok dL_law_104 (by decide) ?_
    refine hj_iadd_n ol.ok dL_law_105 ?_
    refine hj_sld ol dL_law_106 (by omega) (by omega) ?_
    refine hj_callVi [(hx, .inr (0, [.ref hq, .ref hr, .int (nI sz)])), (hq, .inr (1, [.ref (u.1), .int (nI (n + 1)), .ref ho])), hj_ar dA u.1 u.2.1 u.2.2, (ho, .inr (2, [])), hj_ar dA hr 4096 r, hj_ar dA hs 4096 r2] [5, 6] [0, 1, 2, 3, 4, 7] 1 ol.ok dL_law_107 (k_madd l D dA hm hk hs n sz k (xs (6 * c + 1)) h4) (lw_V q299 q300 q301 q8 q302) (by decide +kernel) rfl 5 rfl rfl ⟨Nat.le_of_ble_eq_true rfl, Nat.le_of_ble_eq_true rfl⟩ ⟨by show _ + 0 ≤ 600128; omega, by show _ + 0 ≤ 7301098; omega⟩ rfl rfl (by decide) (by decide) (by decide) rfl (Nat.le_of_ble_eq_true rfl) (fun z2 _ e2 => ?_)
    show J (cells + 1) (slots + 6144) [(hx, .inr (0, [.ref hq, .ref hr, .int (nI sz)])), (hq, .inr (1, [.ref (u.1), .int (nI (n + 1)), .ref ho])), hj_ar dA u.1 u.2.1 u.2.2, (ho, .inr (2, [])), hj_ar dA hr 4096 r, hj_ar dA hs 4096 r2, (hm, .inr (3, [.ref hk, .int (nI (n + 1)), .ref hs, .int (nI sz)])), hj_ar dA hk 4096 (upd k n (xs (6 * c + 1)))] 110 [(0, .ref b), (1, .ref hx), (2, .ref hm), (3, .int (nI (6 * c)))] [.int z2, .int z1]
    refine hj_pick [(hx, .inr (0, [.ref hq, .ref hr, .int (nI sz)])), (hq, .inr (1, [.ref (u.1), .int (nI (n + 1)), .ref ho])), hj_ar dA u.1 u.2.1 u.2.2, (ho, .inr (2, [])), hj_ar dA hr 4096 r, (hm, .inr (3, [.ref hk, .int (nI (n + 1)), .ref hs, .int (nI sz)])), hj_ar dA hk 4096 (upd k n (xs (6 * c + 1))), hj_ar dA hs 4096 r2] [0, 1, 2, 3, 4, 6, 7, 5] ol.ok rfl rfl ?_
    refine hj_icmp_eq 341 ol.ok dL_law_110 (by decide) (fun c9 => ?_) (fun c9 => ?_)
    · exact k341 u.1 u.2.1 (n + 1) sz _ _ _ _ _ _ (by omega) (by omega) ⟨by omega, u1, u2, u3, fun P => by rw [u4 P, v5 P, hz_ct_succ, hz_ct_updo (Nat.le_refl n), pk_us], v6, v7⟩
    · exact absurd (e1.trans e2.symm) c9
  · refine hj_aload_n ol.ok dL_law_92 1 rfl rfl ?_
    refine hj_aload_n ol.ok dL_law_93 0 rfl rfl ?_
    refine hj_iload_n ol.ok dL_law_94 3 rfl rfl ?_
    refine hj_iconst (nI 1) ol.ok dL_law_95 (by decide) ?_
    refine hj_iadd_n ol.ok dL_law_96 ?_
    refine hj_sld ol dL_law_97 (by omega) (by omega) ?_
    refine hj_callVi [hj_ar dA hh len g, (ho, .inr (2, [])), hj_ar dA hr 4096 r, (hm, .inr (3, [.ref hk, .int (nI n), .ref hs, .int (nI sz)])), hj_ar dA hk 4096 k, hj_ar dA hs 4096 r2] [0, 1] [2, 3, 4, 5, 6, 7] 1 ol.ok dL_law_98 (k_xadd_full l D dA hx hq hr hh ho sz n (xs (6 * c + 1)) (by omega) (by omega)) (lw_V q62 q63 q64 q4 q65) (by decide +kernel) rfl 0 rfl rfl ⟨Nat.le_of_ble_eq_true rfl, Nat.le_of_ble_eq_true rfl⟩ ⟨by show _ + 1 ≤ 600128; omega, by show _ + 6144 ≤ 7301098; omega⟩ rfl rfl (by decide) (by decide) (by decide) rfl (Nat.le_of_ble_eq_true rfl) (fun z1 _ e1 => ?_)
    show J (cells + 1) (slots + 6144) [hj_ar dA hh len g, (ho, .inr (2, [])), hj_ar dA hr 4096 r, (hm, .inr (3, [.ref hk, .int (nI n), .ref hs, .int (nI sz)])), hj_ar dA hk 4096 k, hj_ar dA hs 4096 r2, (hx, .inr (0, [.ref hq, .ref hr, .int (nI sz)])), (hq, .inr (1, [.ref hh, .int (nI n), .ref ho]))] 101 [(0, .ref b), (1, .ref hx), (2, .ref hm), (3, .int (nI (6 * c)))] [.int z1]
    refine hj_pick [(hx, .inr (0, [.ref hq, .ref hr, .int (nI sz)])), (hq, .inr (1, [.ref hh, .int (nI n), .ref ho])), hj_ar dA hh len g, (ho, .inr (2, [])), hj_ar dA hr 4096 r, (hm, .inr (3, [.ref hk, .int (nI n), .ref hs, .int (nI sz)])), hj_ar dA hk 4096 k, hj_ar dA hs 4096 r2] [6, 7, 0, 1, 2, 3, 4, 5] ol.ok rfl rfl ?_
    refine hj_aload_n ol.ok dL_law_101 2 rfl rfl ?_
    refine hj_aload_n ol.ok dL_law_102 0 rfl rfl ?_
    refine hj_iload_n ol.ok dL_law_103 3 rfl rfl ?_
    refine hj_iconst (nI 1) ol.ok dL_law_104 (by decide) ?_
    refine hj_iadd_n ol.ok dL_law_105 ?_
    refine hj_sld ol dL_law_106 (by omega) (by omega) ?_
    refine hj_callVi [(hx, .inr (0, [.ref hq, .ref hr, .int (nI sz)])), (hq, .inr (1, [.ref hh, .int (nI n), .ref ho])), hj_ar dA hh len g, (ho, .inr (2, [])), hj_ar dA hr 4096 r, hj_ar dA hk 4096 k, hj_ar dA hs 4096 r2] [5] [0, 1, 2, 3, 4, 6, 7] 1 ol.ok dL_law_107 (k_madd_full l D dA hm hk hs n sz (xs (6 * c + 1)) (by omega) (by omega)) (lw_V q299 q300 q301 q8 q302) (by decide +kernel) rfl 5 rfl rfl ⟨Nat.le_of_ble_eq_true rfl, Nat.le_of_ble_eq_true rfl⟩ ⟨by show _ + 0 ≤ 600128; omega, by show _ + 0 ≤ 7301098; omega⟩ rfl rfl (by decide) (by decide) (by decide) rfl (Nat.le_of_ble_eq_true rfl) (fun z2 _ e2 => ?_)
    show J (cells + 1) (slots + 6144) [(hx, .inr (0, [.ref hq, .ref hr, .int (nI sz)])), (hq, .inr (1, [.ref hh, .int (nI n), .ref ho])), hj_ar dA hh len g, (ho, .inr (2, [])), hj_ar dA hr 4096 r, hj_ar dA hk 4096 k, hj_ar dA hs 4096 r2, (hm, .inr (3, [.ref hk, .int (nI n), .ref hs, .int (nI sz)]))] 110 [(0, .ref b), (1, .ref hx), (2, .ref hm), (3, .int (nI (6 * c)))] [.int z2, .int z1]
    refine hj_pick [(hx, .inr (0, [.ref hq, .ref hr, .int (nI sz)])), (hq, .inr (1, [.ref hh, .int (nI n), .ref ho])), hj_ar dA hh len g, (ho, .inr (2, [])), hj_ar dA hr 4096 r, (hm, .inr (3, [.ref hk, .int (nI n), .ref hs, .int (nI sz)])), hj_ar dA hk 4096 k, hj_ar dA hs 4096 r2] [0, 1, 2, 3, 4, 7, 5, 6] ol.ok rfl rfl ?_
    refine hj_icmp_eq 341 ol.ok dL_law_110 (by decide) (fun c9 => ?_) (fun c9 => ?_)
    · exact k341 hh len n sz _ _ _ _ _ _ (by omega) (by omega) ⟨v1, v2, v3, v4, v5, v6, v7⟩
    · exact absurd (e1.trans e2.symm) c9
set_option maxHeartbeats 16000000 in
set_option maxRecDepth 100000 in
theorem k_law_1 {l : Launch} {D : va_G} {dA : ClassId} {J : hj_JT} {b L c hx hq ho hr hm hk hs hh len n sz cells slots : Nat} {xs g r k r2 : Nat → Int32} (ol : hj_OkL l room_1 D dA R_law code 4 b L xs J) (hL : L ≤ 384) (hi : 6 * c + 6 ≤ L) (hcl : cells + 5 ≤ 600128) (hsl : slots + 6144 ≤ 7301098) (hv : hz_inv n len sz g r k r2) (k341 : ∀ (hh len n sz cells2 slots2 : Nat) (g r k r2 : Nat → Int32), cells2 ≤ cells + 5 → slots2 ≤ slots + 6144 → hz_inv n len sz g r k r2 → J cells2 slots2 [(hx, .inr (0, [.ref hq, .ref hr, .int (nI sz)])), (hq, .inr (1, [.ref hh, .int (nI n), .ref ho])), hj_ar dA hh len g, (ho, .inr (2, [])), hj_ar dA hr 4096 r, (hm, .inr (3, [.ref hk, .int (nI n), .ref hs, .int (nI sz)])), hj_ar dA hk 4096 k, hj_ar dA hs 4096 r2] 341 [(0, .ref b), (1, .ref hx), (2, .ref hm), (3, .int (nI (6 * c)))] []) : J cells slots [(hx, .inr (0, [.ref hq, .ref hr, .int (nI sz)])), (hq, .inr (1, [.ref hh, .int (nI n), .ref ho])), hj_ar dA hh len g, (ho, .inr (2, [])), hj_ar dA hr 4096 r, (hm, .inr (3, [.ref hk, .int (nI n), .ref hs, .int (nI sz)])), hj_ar dA hk 4096 k, hj_ar dA hs 4096 r2] 115 [(0, .ref b), (1, .ref hx), (2, .ref hm), (3, .int (nI (6 * c)))] [] := by
  obtain ⟨v1, v2, v3, v4, v5, v6, v7⟩ := hv
  rcases Nat.eq_zero_or_pos n with h0 | h0
  · subst h0
    refine hj_aload_n ol.ok dL_law_115 1 rfl rfl ?_
    refine hj_callVi [hj_ar dA hh len g, (ho, .inr (2, [])), hj_ar dA hr 4096 r, (hm, .inr (3, [.ref hk, .int (nI 0), .ref hs, .int (nI sz)])), hj_ar dA hk 4096 k, hj_ar dA hs 4096 r2] [0, 1] [2, 3, 4, 5, 6, 7] 0 ol.ok dL_law_116 (k_xtake0 l D dA hx hq hr hh ho sz) (lw_V q103 q104 q105 q4 q106) (by decide +kernel) rfl 0 rfl rfl ⟨Nat.le_of_ble_eq_true rfl, Nat.le_of_ble_eq_true rfl⟩ ⟨by show _ + 0 ≤ 600128; omega, by show _ + 0 ≤ 7301098; omega⟩ rfl rfl (by decide) (by decide) (by decide) rfl (Nat.le_of_ble_eq_true rfl) (fun z1 _ e1 => ?_)
    show J cells slots [hj_ar dA hh len g, (ho, .inr (2, [])), hj_ar dA hr 4096 r, (hm, .inr (3, [.ref hk, .int (nI 0), .ref hs, .int (nI sz)])), hj_ar dA hk 4096 k, hj_ar dA hs 4096 r2, (hx, .inr (0, [.ref hq, .ref hr, .int (nI sz)])), (hq, .inr (1, [.ref hh, .int (nI 0), .ref ho]))] 119 [(0, .ref b), (1, .ref hx), (2, .ref hm), (3, .int (nI (6 * c)))] [.int z1]
    refine hj_pick [(hx, .inr (0, [.ref hq, .ref hr, .int (nI sz)])), (hq, .inr (1, [.ref hh, .int (nI 0), .ref ho])), hj_ar dA hh len g, (ho, .inr (2, [])), hj_ar dA hr 4096 r, (hm, .inr (3, [.ref hk, .int (nI 0), .ref hs, .int (nI sz)])), hj_ar dA hk 4096 k, hj_ar dA hs 4096 r2] [6, 7, 0, 1, 2, 3, 4, 5] ol.ok rfl rfl ?_
    refine hj_aload_n ol.ok dL_law_119 2 rfl rfl ?_
    refine hj_callVi [(hx, .inr (0, [.ref hq, .ref hr, .int (nI sz)])), (hq, .inr (1, [.ref hh, .int (nI 0), .ref ho])), hj_ar dA hh len g, (ho, .inr (2, [])), hj_ar dA hr 4096 r, hj_ar dA hk 4096 k, hj_ar dA hs 4096 r2] [5] [0, 1, 2, 3, 4, 6, 7] 0 ol.ok dL_law_120 (k_mtake0 l D dA hm hk hs sz) (lw_V q303 q304 q305 q8 q306) (by decide +kernel) rfl 5 rfl rfl ⟨Nat.le_of_ble_eq_true rfl, Nat.le_of_ble_eq_true rfl⟩ ⟨by show _ + 0 ≤ 600128; omega, by show _ + 0 ≤ 7301098; omega⟩ rfl rfl (by decide) (by decide) (by decide) rfl (Nat.le_of_ble_eq_true rfl) (fun z2 _ e2 => ?_)
    show J cells slots [(hx, .inr (0, [.ref hq, .ref hr, .int (nI sz)])), (hq, .inr (1, [.ref hh, .int (nI 0), .ref ho])), hj_ar dA hh len g, (ho, .inr (2, [])), hj_ar dA hr 4096 r, hj_ar dA hk 4096 k, hj_ar dA hs 4096 r2, (hm, .inr (3, [.ref hk, .int (nI 0), .ref hs, .int (nI sz)]))] 123 [(0, .ref b), (1, .ref hx), (2, .ref hm), (3, .int (nI (6 * c)))] [.int z2, .int z1]
    refine hj_pick [(hx, .inr (0, [.ref hq, .ref hr, .int (nI sz)])), (hq, .inr (1, [.ref hh, .int (nI 0), .ref ho])), hj_ar dA hh len g, (ho, .inr (2, [])), hj_ar dA hr 4096 r, (hm, .inr (3, [.ref hk, .int (nI 0), .ref hs, .int (nI sz)])), hj_ar dA hk 4096 k, hj_ar dA hs 4096 r2] [0, 1, 2, 3, 4, 7, 5, 6] ol.ok rfl rfl ?_
    refine hj_icmp_eq 341 ol.ok dL_law_123 (by decide) (fun c9 => ?_) (fun c9 => ?_)
    · exact k341 hh len 0 sz _ _ _ _ _ _ (by omega) (by omega) ⟨v1, v2, v3, v4, v5, v6, v7⟩
    · exact absurd (e1.trans e2.symm) c9
  · obtain ⟨m, rfl⟩ : ∃ m, n = m + 1 := ⟨n - 1, by omega⟩
    refine hj_aload_n ol.ok dL_law_115 1 rfl rfl ?_
    refine hj_callVi [hj_ar dA hr 4096 r, (hm, .inr (3, [.ref hk, .int (nI (m + 1)), .ref hs, .int (nI sz)])), hj_ar dA hk 4096 k, hj_ar dA hs 4096 r2] [0, 1, 2, 3] [4, 5, 6, 7] 0 ol.ok dL_law_116 (k_xtake l D dA hx hq hr hh ho sz m len g v2 (by omega) v4) (lw_V q103 q104 q105 q4 q106) (by decide +kernel) rfl 0 rfl rfl ⟨Nat.le_of_ble_eq_true rfl, Nat.le_of_ble_eq_true rfl⟩ ⟨by show _ + 0 ≤ 600128; omega, by show _ + 0 ≤ 7301098; omega⟩ rfl rfl (by decide) (by decide) (by decide) rfl (Nat.le_of_ble_eq_true rfl) (fun z1 u hu => ?_)
    show J cells slots [hj_ar dA hr 4096 r, (hm, .inr (3, [.ref hk, .int (nI (m + 1)), .ref hs, .int (nI sz)])), hj_ar dA hk 4096 k, hj_ar dA hs 4096 r2, (hx, .inr (0, [.ref hq, .ref hr, .int (nI sz)])), (hq, .inr (1, [.ref hh, .int (nI m), .ref ho])), hj_ar dA hh len u, (ho, .inr (2, []))] 119 [(0, .ref b), (1, .ref hx), (2, .ref hm), (3, .int (nI (6 * c)))] [.int z1]
    refine hj_pick [(hx, .inr (0, [.ref hq, .ref hr, .int (nI sz)])), (hq, .inr (1, [.ref hh, .int (nI m), .ref ho])), hj_ar dA hh len u, (ho, .inr (2, [])), hj_ar dA hr 4096 r, (hm, .inr (3, [.ref hk, .int (nI (m + 1)), .ref hs, .int (nI sz)])), hj_ar dA hk 4096 k, hj_ar dA hs 4096 r2] [4, 5, 6, 7, 0, 1, 2, 3] ol.ok rfl rfl ?_
    obtain ⟨e1, u1, u2⟩ := hu
    refine hj_aload_n ol.ok dL_law_119 2 rfl rfl ?_
    refine hj_callVi [(hx, .inr (0, [.ref hq, .ref hr, .int (nI sz)])), (hq, .inr (1, [.ref hh, .int (nI m), .ref ho])), hj_ar dA hh len u, (ho, .inr (2, [])), hj_ar dA hr 4096 r, hj_ar dA hs 4096 r2] [5, 6] [0, 1, 2, 3, 4, 7] 0 ol.ok dL_law_120 (k_mtake l D dA hm hk hs m sz k v1) (lw_V q303 q304 q305 q8 q306) (by decide +kernel) rfl 5 rfl rfl ⟨Nat.le_of_ble_eq_true rfl, Nat.le_of_ble_eq_true rfl⟩ ⟨by show _ + 0 ≤ 600128; omega, by show _ + 0 ≤ 7301098; omega⟩ rfl rfl (by decide) (by decide) (by decide) rfl (Nat.le_of_ble_eq_true rfl) (fun z2 t ht => ?_)
    show J cells slots [(hx, .inr (0, [.ref hq, .ref hr, .int (nI sz)])), (hq, .inr (1, [.ref hh, .int (nI m), .ref ho])), hj_ar dA hh len u, (ho, .inr (2, [])), hj_ar dA hr 4096 r, hj_ar dA hs 4096 r2, (hm, .inr (3, [.ref hk, .int (nI m), .ref hs, .int (nI sz)])), hj_ar dA hk 4096 (upd k t (k m))] 123 [(0, .ref b), (1, .ref hx), (2, .ref hm), (3, .int (nI (6 * c)))] [.int z2, .int z1]
    refine hj_pick [(hx, .inr (0, [.ref hq, .ref hr, .int (nI sz)])), (hq, .inr (1, [.ref hh, .int (nI m), .ref ho])), hj_ar dA hh len u, (ho, .inr (2, [])), hj_ar dA hr 4096 r, (hm, .inr (3, [.ref hk, .int (nI m), .ref hs, .int (nI sz)])), hj_ar dA hk 4096 (upd k t (k m)), hj_ar dA hs 4096 r2] [0, 1, 2, 3, 4, 6, 7, 5] ol.ok rfl rfl ?_
    obtain ⟨e2, t1, t2, t3⟩ := ht
    have he : g 0 = k t := hz_min_same v5 (by omega) t2 (hz_hp_min v4) (fun q hq => t3 q (Nat.zero_le _) hq)
    refine hj_icmp_eq 341 ol.ok dL_law_123 (by decide) (fun c9 => ?_) (fun c9 => ?_)
    · exact k341 hh len m sz _ _ _ _ _ _ (by omega) (by omega) ⟨by omega, by omega, v3, u1, fun P => by
        have a1 := u2 P
        have a2 := hz_ct_take (f := k) (n := m) (b := t) t2 P
        have a3 := v5 P
        rw [he] at a1
        omega, v6, v7⟩
    · exact absurd (e1.trans (he.trans e2.symm)) c9
set_option maxHeartbeats 16000000 in
set_option maxRecDepth 100000 in
theorem k_law_2 {l : Launch} {D : va_G} {dA : ClassId} {J : hj_JT} {b L c hx hq ho hr hm hk hs hh len n sz cells slots : Nat} {xs g r k r2 : Nat → Int32} (ol : hj_OkL l room_1 D dA R_law code 4 b L xs J) (hL : L ≤ 384) (hi : 6 * c + 6 ≤ L) (hcl : cells + 5 ≤ 600128) (hsl : slots + 6144 ≤ 7301098) (hv : hz_inv n len sz g r k r2) (k341 : ∀ (hh len n sz cells2 slots2 : Nat) (g r k r2 : Nat → Int32), cells2 ≤ cells + 5 → slots2 ≤ slots + 6144 → hz_inv n len sz g r k r2 → J cells2 slots2 [(hx, .inr (0, [.ref hq, .ref hr, .int (nI sz)])), (hq, .inr (1, [.ref hh, .int (nI n), .ref ho])), hj_ar dA hh len g, (ho, .inr (2, [])), hj_ar dA hr 4096 r, (hm, .inr (3, [.ref hk, .int (nI n), .ref hs, .int (nI sz)])), hj_ar dA hk 4096 k, hj_ar dA hs 4096 r2] 341 [(0, .ref b), (1, .ref hx), (2, .ref hm), (3, .int (nI (6 * c)))] []) : J cells slots [(hx, .inr (0, [.ref hq, .ref hr, .int (nI sz)])), (hq, .inr (1, [.ref hh, .int (nI n), .ref ho])), hj_ar dA hh len g, (ho, .inr (2, [])), hj_ar dA hr 4096 r, (hm, .inr (3, [.ref hk, .int (nI n), .ref hs, .int (nI sz)])), hj_ar dA hk 4096 k, hj_ar dA hs 4096 r2] 128 [(0, .ref b), (1, .ref hx), (2, .ref hm), (3, .int (nI (6 * c)))] [] := by
  obtain ⟨v1, v2, v3, v4, v5, v6, v7⟩ := hv
  rcases Nat.eq_zero_or_pos n with h0 | h0
  · subst h0
    refine hj_aload_n ol.ok dL_law_128 1 rfl rfl ?_
    refine hj_callVi [hj_ar dA hh len g, (ho, .inr (2, [])), hj_ar dA hr 4096 r, (hm, .inr (3, [.ref hk, .int (nI 0), .ref hs, .int (nI sz)])), hj_ar dA hk 4096 k, hj_ar dA hs 4096 r2] [0, 1] [2, 3, 4, 5, 6, 7] 0 ol.ok dL_law_129 (k_xleast0 l D dA hx hq hr hh ho sz) (lw_V q188 q189 q190 q4 q191) (by decide +kernel) rfl 0 rfl rfl ⟨Nat.le_of_ble_eq_true rfl, Nat.le_of_ble_eq_true rfl⟩ ⟨by show _ + 0 ≤ 600128; omega, by show _ + 0 ≤ 7301098; omega⟩ rfl rfl (by decide) (by decide) (by decide) rfl (Nat.le_of_ble_eq_true rfl) (fun z1 _ e1 => ?_)
    show J cells slots [hj_ar dA hh len g, (ho, .inr (2, [])), hj_ar dA hr 4096 r, (hm, .inr (3, [.ref hk, .int (nI 0), .ref hs, .int (nI sz)])), hj_ar dA hk 4096 k, hj_ar dA hs 4096 r2, (hx, .inr (0, [.ref hq, .ref hr, .int (nI sz)])), (hq, .inr (1, [.ref hh, .int (nI 0), .ref ho]))] 132 [(0, .ref b), (1, .ref hx), (2, .ref hm), (3, .int (nI (6 * c)))] [.int z1]
    refine hj_pick [(hx, .inr (0, [.ref hq, .ref hr, .int (nI sz)])), (hq, .inr (1, [.ref hh, .int (nI 0), .ref ho])), hj_ar dA hh len g, (ho, .inr (2, [])), hj_ar dA hr 4096 r, (hm, .inr (3, [.ref hk, .int (nI 0), .ref hs, .int (nI sz)])), hj_ar dA hk 4096 k, hj_ar dA hs 4096 r2] [6, 7, 0, 1, 2, 3, 4, 5] ol.ok rfl rfl ?_
    refine hj_aload_n ol.ok dL_law_132 2 rfl rfl ?_
    refine hj_callVi [(hx, .inr (0, [.ref hq, .ref hr, .int (nI sz)])), (hq, .inr (1, [.ref hh, .int (nI 0), .ref ho])), hj_ar dA hh len g, (ho, .inr (2, [])), hj_ar dA hr 4096 r, hj_ar dA hk 4096 k, hj_ar dA hs 4096 r2] [5] [0, 1, 2, 3, 4, 6, 7] 0 ol.ok dL_law_133 (k_mleast0 l D dA hm hk hs sz) (lw_V q311 q312 q313 q8 q314) (by decide +kernel) rfl 5 rfl rfl ⟨Nat.le_of_ble_eq_true rfl, Nat.le_of_ble_eq_true rfl⟩ ⟨by show _ + 0 ≤ 600128; omega, by show _ + 0 ≤ 7301098; omega⟩ rfl rfl (by decide) (by decide) (by decide) rfl (Nat.le_of_ble_eq_true rfl) (fun z2 _ e2 => ?_)
    show J cells slots [(hx, .inr (0, [.ref hq, .ref hr, .int (nI sz)])), (hq, .inr (1, [.ref hh, .int (nI 0), .ref ho])), hj_ar dA hh len g, (ho, .inr (2, [])), hj_ar dA hr 4096 r, hj_ar dA hk 4096 k, hj_ar dA hs 4096 r2, (hm, .inr (3, [.ref hk, .int (nI 0), .ref hs, .int (nI sz)]))] 136 [(0, .ref b), (1, .ref hx), (2, .ref hm), (3, .int (nI (6 * c)))] [.int z2, .int z1]
    refine hj_pick [(hx, .inr (0, [.ref hq, .ref hr, .int (nI sz)])), (hq, .inr (1, [.ref hh, .int (nI 0), .ref ho])), hj_ar dA hh len g, (ho, .inr (2, [])), hj_ar dA hr 4096 r, (hm, .inr (3, [.ref hk, .int (nI 0), .ref hs, .int (nI sz)])), hj_ar dA hk 4096 k, hj_ar dA hs 4096 r2] [0, 1, 2, 3, 4, 7, 5, 6] ol.ok rfl rfl ?_
    refine hj_icmp_eq 341 ol.ok dL_law_136 (by decide) (fun c9 => ?_) (fun c9 => ?_)
    · exact k341 hh len 0 sz _ _ _ _ _ _ (by omega) (by omega) ⟨v1, v2, v3, v4, v5, v6, v7⟩
    · exact absurd (e1.trans e2.symm) c9
  · refine hj_aload_n ol.ok dL_law_128 1 rfl rfl ?_
    refine hj_callVi [(ho, .inr (2, [])), hj_ar dA hr 4096 r, (hm, .inr (3, [.ref hk, .int (nI n), .ref hs, .int (nI sz)])), hj_ar dA hk 4096 k, hj_ar dA hs 4096 r2] [0, 1, 2] [3, 4, 5, 6, 7] 0 ol.ok dL_law_129 (k_xleast l D dA hx hq hr hh ho sz n len g h0 v2 (by omega)) (lw_V q188 q189 q190 q4 q191) (by decide +kernel) rfl 0 rfl rfl ⟨Nat.le_of_ble_eq_true rfl, Nat.le_of_ble_eq_true rfl⟩ ⟨by show _ + 0 ≤ 600128; omega, by show _ + 0 ≤ 7301098; omega⟩ rfl rfl (by decide) (by decide) (by decide) rfl (Nat.le_of_ble_eq_true rfl) (fun z1 _ e1 => ?_)
    show J cells slots [(ho, .inr (2, [])), hj_ar dA hr 4096 r, (hm, .inr (3, [.ref hk, .int (nI n), .ref hs, .int (nI sz)])), hj_ar dA hk 4096 k, hj_ar dA hs 4096 r2, (hx, .inr (0, [.ref hq, .ref hr, .int (nI sz)])), (hq, .inr (1, [.ref hh, .int (nI n), .ref ho])), hj_ar dA hh len g] 132 [(0, .ref b), (1, .ref hx), (2, .ref hm), (3, .int (nI (6 * c)))] [.int z1]
    refine hj_pick [(hx, .inr (0, [.ref hq, .ref hr, .int (nI sz)])), (hq, .inr (1, [.ref hh, .int (nI n), .ref ho])), hj_ar dA hh len g, (ho, .inr (2, [])), hj_ar dA hr 4096 r, (hm, .inr (3, [.ref hk, .int (nI n), .ref hs, .int (nI sz)])), hj_ar dA hk 4096 k, hj_ar dA hs 4096 r2] [5, 6, 7, 0, 1, 2, 3, 4] ol.ok rfl rfl ?_
    refine hj_aload_n ol.ok dL_law_132 2 rfl rfl ?_
    refine hj_callVi [(hx, .inr (0, [.ref hq, .ref hr, .int (nI sz)])), (hq, .inr (1, [.ref hh, .int (nI n), .ref ho])), hj_ar dA hh len g, (ho, .inr (2, [])), hj_ar dA hr 4096 r, hj_ar dA hs 4096 r2] [5, 6] [0, 1, 2, 3, 4, 7] 0 ol.ok dL_law_133 (k_mleast l D dA hm hk hs n sz k h0 v1) (lw_V q311 q312 q313 q8 q314) (by decide +kernel) rfl 5 rfl rfl ⟨Nat.le_of_ble_eq_true rfl, Nat.le_of_ble_eq_true rfl⟩ ⟨by show _ + 0 ≤ 600128; omega, by show _ + 0 ≤ 7301098; omega⟩ rfl rfl (by decide) (by decide) (by decide) rfl (Nat.le_of_ble_eq_true rfl) (fun z2 t ht => ?_)
    show J cells slots [(hx, .inr (0, [.ref hq, .ref hr, .int (nI sz)])), (hq, .inr (1, [.ref hh, .int (nI n), .ref ho])), hj_ar dA hh len g, (ho, .inr (2, [])), hj_ar dA hr 4096 r, hj_ar dA hs 4096 r2, (hm, .inr (3, [.ref hk, .int (nI n), .ref hs, .int (nI sz)])), hj_ar dA hk 4096 k] 136 [(0, .ref b), (1, .ref hx), (2, .ref hm), (3, .int (nI (6 * c)))] [.int z2, .int z1]
    refine hj_pick [(hx, .inr (0, [.ref hq, .ref hr, .int (nI sz)])), (hq, .inr (1, [.ref hh, .int (nI n), .ref ho])), hj_ar dA hh len g, (ho, .inr (2, [])), hj_ar dA hr 4096 r, (hm, .inr (3, [.ref hk, .int (nI n), .ref hs, .int (nI sz)])), hj_ar dA hk 4096 k, hj_ar dA hs 4096 r2] [0, 1, 2, 3, 4, 6, 7, 5] ol.ok rfl rfl ?_
    obtain ⟨e2, t1, t2, t3⟩ := ht
    have he : g 0 = k t := hz_min_same v5 h0 t2 (hz_hp_min v4) (fun q hq => t3 q (Nat.zero_le _) hq)
    refine hj_icmp_eq 341 ol.ok dL_law_136 (by decide) (fun c9 => ?_) (fun c9 => ?_)
    · exact k341 hh len n sz _ _ _ _ _ _ (by omega) (by omega) ⟨v1, v2, v3, v4, v5, v6, v7⟩
    · exact absurd (e1.trans (he.trans e2.symm)) c9
set_option maxHeartbeats 16000000 in
set_option maxRecDepth 100000 in
theorem k_law_3 {l : Launch} {D : va_G} {dA : ClassId} {J : hj_JT} {b L c hx hq ho hr hm hk hs hh len n sz cells slots : Nat} {xs g r k r2 : Nat → Int32} (ol : hj_OkL l room_1 D dA R_law code 4 b L xs J) (hL : L ≤ 384) (hi : 6 * c + 6 ≤ L) (hcl : cells + 5 ≤ 600128) (hsl : slots + 6144 ≤ 7301098) (hv : hz_inv n len sz g r k r2) (k341 : ∀ (hh len n sz cells2 slots2 : Nat) (g r k r2 : Nat → Int32), cells2 ≤ cells + 5 → slots2 ≤ slots + 6144 → hz_inv n len sz g r k r2 → J cells2 slots2 [(hx, .inr (0, [.ref hq, .ref hr, .int (nI sz)])), (hq, .inr (1, [.ref hh, .int (nI n), .ref ho])), hj_ar dA hh len g, (ho, .inr (2, [])), hj_ar dA hr 4096 r, (hm, .inr (3, [.ref hk, .int (nI n), .ref hs, .int (nI sz)])), hj_ar dA hk 4096 k, hj_ar dA hs 4096 r2] 341 [(0, .ref b), (1, .ref hx), (2, .ref hm), (3, .int (nI (6 * c)))] []) : J cells slots [(hx, .inr (0, [.ref hq, .ref hr, .int (nI sz)])), (hq, .inr (1, [.ref hh, .int (nI n), .ref ho])), hj_ar dA hh len g, (ho, .inr (2, [])), hj_ar dA hr 4096 r, (hm, .inr (3, [.ref hk, .int (nI n), .ref hs, .int (nI sz)])), hj_ar dA hk 4096 k, hj_ar dA hs 4096 r2] 141 [(0, .ref b), (1, .ref hx), (2, .ref hm), (3, .int (nI (6 * c)))] [] := by
  obtain ⟨v1, v2, v3, v4, v5, v6, v7⟩ := hv
  refine hj_aload_n ol.ok dL_law_141 1 rfl rfl ?_
  refine hj_callVi [hj_ar dA hh len g, (ho, .inr (2, [])), hj_ar dA hr 4096 r, (hm, .inr (3, [.ref hk, .int (nI n), .ref hs, .int (nI sz)])), hj_ar dA hk 4096 k, hj_ar dA hs 4096 r2] [0, 1] [2, 3, 4, 5, 6, 7] 0 ol.ok dL_law_142 (k_xwait l D dA hx hq hr hh ho sz n) (lw_V q196 q197 q198 q4 q199) (by decide +kernel) rfl 0 rfl rfl ⟨Nat.le_of_ble_eq_true rfl, Nat.le_of_ble_eq_true rfl⟩ ⟨by show _ + 0 ≤ 600128; omega, by show _ + 0 ≤ 7301098; omega⟩ rfl rfl (by decide) (by decide) (by decide) rfl (Nat.le_of_ble_eq_true rfl) (fun z1 _ e1 => ?_)
  show J cells slots [hj_ar dA hh len g, (ho, .inr (2, [])), hj_ar dA hr 4096 r, (hm, .inr (3, [.ref hk, .int (nI n), .ref hs, .int (nI sz)])), hj_ar dA hk 4096 k, hj_ar dA hs 4096 r2, (hx, .inr (0, [.ref hq, .ref hr, .int (nI sz)])), (hq, .inr (1, [.ref hh, .int (nI n), .ref ho]))] 145 [(0, .ref b), (1, .ref hx), (2, .ref hm), (3, .int (nI (6 * c)))] [.int z1]
  refine hj_pick [(hx, .inr (0, [.ref hq, .ref hr, .int (nI sz)])), (hq, .inr (1, [.ref hh, .int (nI n), .ref ho])), hj_ar dA hh len g, (ho, .inr (2, [])), hj_ar dA hr 4096 r, (hm, .inr (3, [.ref hk, .int (nI n), .ref hs, .int (nI sz)])), hj_ar dA hk 4096 k, hj_ar dA hs 4096 r2] [6, 7, 0, 1, 2, 3, 4, 5] ol.ok rfl rfl ?_
  refine hj_aload_n ol.ok dL_law_145 2 rfl rfl ?_
  refine hj_callVi [(hx, .inr (0, [.ref hq, .ref hr, .int (nI sz)])), (hq, .inr (1, [.ref hh, .int (nI n), .ref ho])), hj_ar dA hh len g, (ho, .inr (2, [])), hj_ar dA hr 4096 r, hj_ar dA hk 4096 k, hj_ar dA hs 4096 r2] [5] [0, 1, 2, 3, 4, 6, 7] 0 ol.ok dL_law_146 (k_mwait l D dA hm hk hs n sz) (lw_V q315 q316 q317 q8 q318) (by decide +kernel) rfl 5 rfl rfl ⟨Nat.le_of_ble_eq_true rfl, Nat.le_of_ble_eq_true rfl⟩ ⟨by show _ + 0 ≤ 600128; omega, by show _ + 0 ≤ 7301098; omega⟩ rfl rfl (by decide) (by decide) (by decide) rfl (Nat.le_of_ble_eq_true rfl) (fun z2 _ e2 => ?_)
  show J cells slots [(hx, .inr (0, [.ref hq, .ref hr, .int (nI sz)])), (hq, .inr (1, [.ref hh, .int (nI n), .ref ho])), hj_ar dA hh len g, (ho, .inr (2, [])), hj_ar dA hr 4096 r, hj_ar dA hk 4096 k, hj_ar dA hs 4096 r2, (hm, .inr (3, [.ref hk, .int (nI n), .ref hs, .int (nI sz)]))] 149 [(0, .ref b), (1, .ref hx), (2, .ref hm), (3, .int (nI (6 * c)))] [.int z2, .int z1]
  refine hj_pick [(hx, .inr (0, [.ref hq, .ref hr, .int (nI sz)])), (hq, .inr (1, [.ref hh, .int (nI n), .ref ho])), hj_ar dA hh len g, (ho, .inr (2, [])), hj_ar dA hr 4096 r, (hm, .inr (3, [.ref hk, .int (nI n), .ref hs, .int (nI sz)])), hj_ar dA hk 4096 k, hj_ar dA hs 4096 r2] [0, 1, 2, 3, 4, 7, 5, 6] ol.ok rfl rfl ?_
  refine hj_icmp_eq 341 ol.ok dL_law_149 (by decide) (fun c9 => ?_) (fun c9 => ?_)
  · exact k341 hh len n sz _ _ _ _ _ _ (by omega) (by omega) ⟨v1, v2, v3, v4, v5, v6, v7⟩
  · exact absurd (e1.trans e2.symm) c9
set_option maxHeartbeats 16000000 in
set_option maxRecDepth 100000 in
theorem k_law_4 {l : Launch} {D : va_G} {dA : ClassId} {J : hj_JT} {b L c hx hq ho hr hm hk hs hh len n sz cells slots : Nat} {xs g r k r2 : Nat → Int32} (ol : hj_OkL l room_1 D dA R_law code 4 b L xs J) (hL : L ≤ 384) (hi : 6 * c + 6 ≤ L) (hcl : cells + 5 ≤ 600128) (hsl : slots + 6144 ≤ 7301098) (hv : hz_inv n len sz g r k r2) (k341 : ∀ (hh len n sz cells2 slots2 : Nat) (g r k r2 : Nat → Int32), cells2 ≤ cells + 5 → slots2 ≤ slots + 6144 → hz_inv n len sz g r k r2 → J cells2 slots2 [(hx, .inr (0, [.ref hq, .ref hr, .int (nI sz)])), (hq, .inr (1, [.ref hh, .int (nI n), .ref ho])), hj_ar dA hh len g, (ho, .inr (2, [])), hj_ar dA hr 4096 r, (hm, .inr (3, [.ref hk, .int (nI n), .ref hs, .int (nI sz)])), hj_ar dA hk 4096 k, hj_ar dA hs 4096 r2] 341 [(0, .ref b), (1, .ref hx), (2, .ref hm), (3, .int (nI (6 * c)))] []) : J cells slots [(hx, .inr (0, [.ref hq, .ref hr, .int (nI sz)])), (hq, .inr (1, [.ref hh, .int (nI n), .ref ho])), hj_ar dA hh len g, (ho, .inr (2, [])), hj_ar dA hr 4096 r, (hm, .inr (3, [.ref hk, .int (nI n), .ref hs, .int (nI sz)])), hj_ar dA hk 4096 k, hj_ar dA hs 4096 r2] 154 [(0, .ref b), (1, .ref hx), (2, .ref hm), (3, .int (nI (6 * c)))] [] := by
  obtain ⟨v1, v2, v3, v4, v5, v6, v7⟩ := hv
  refine hj_aload_n ol.ok dL_law_154 1 rfl rfl ?_
  refine hj_callVv [hj_ar dA hh len g, (ho, .inr (2, [])), hj_ar dA hr 4096 r, (hm, .inr (3, [.ref hk, .int (nI n), .ref hs, .int (nI sz)])), hj_ar dA hk 4096 k, hj_ar dA hs 4096 r2] [0, 1] [2, 3, 4, 5, 6, 7] 0 ol.ok dL_law_155 (k_xdrain l D dA hx hq hr hh ho sz n) (lw_V q200 q201 q202 q4 q203) (by decide +kernel) rfl 0 rfl rfl ⟨Nat.le_of_ble_eq_true rfl, Nat.le_of_ble_eq_true rfl⟩ ⟨by show _ + 0 ≤ 600128; omega, by show _ + 0 ≤ 7301098; omega⟩ rfl rfl (by decide) (by decide) (by decide) rfl (Nat.le_of_ble_eq_true rfl) (fun _ _ => ?_)
  show J cells slots [hj_ar dA hh len g, (ho, .inr (2, [])), hj_ar dA hr 4096 r, (hm, .inr (3, [.ref hk, .int (nI n), .ref hs, .int (nI sz)])), hj_ar dA hk 4096 k, hj_ar dA hs 4096 r2, (hx, .inr (0, [.ref hq, .ref hr, .int (nI sz)])), (hq, .inr (1, [.ref hh, .int (nI 0), .ref ho]))] 158 [(0, .ref b), (1, .ref hx), (2, .ref hm), (3, .int (nI (6 * c)))] []
  refine hj_pick [(hx, .inr (0, [.ref hq, .ref hr, .int (nI sz)])), (hq, .inr (1, [.ref hh, .int (nI 0), .ref ho])), hj_ar dA hh len g, (ho, .inr (2, [])), hj_ar dA hr 4096 r, (hm, .inr (3, [.ref hk, .int (nI n), .ref hs, .int (nI sz)])), hj_ar dA hk 4096 k, hj_ar dA hs 4096 r2] [6, 7, 0, 1, 2, 3, 4, 5] ol.ok rfl rfl ?_
  refine hj_aload_n ol.ok dL_law_158 2 rfl rfl ?_
  refine hj_callVv [(hx, .inr (0, [.ref hq, .ref hr, .int (nI sz)])), (hq, .inr (1, [.ref hh, .int (nI 0), .ref ho])), hj_ar dA hh len g, (ho, .inr (2, [])), hj_ar dA hr 4096 r, hj_ar dA hk 4096 k, hj_ar dA hs 4096 r2] [5] [0, 1, 2, 3, 4, 6, 7] 0 ol.ok dL_law_159 (k_mdrain l D dA hm hk hs n sz) (lw_V q319 q320 q321 q8 q322) (by decide +kernel) rfl 5 rfl rfl ⟨Nat.le_of_ble_eq_true rfl, Nat.le_of_ble_eq_true rfl⟩ ⟨by show _ + 0 ≤ 600128; omega, by show _ + 0 ≤ 7301098; omega⟩ rfl rfl (by decide) (by decide) (by decide) rfl (Nat.le_of_ble_eq_true rfl) (fun _ _ => ?_)
  show J cells slots [(hx, .inr (0, [.ref hq, .ref hr, .int (nI sz)])), (hq, .inr (1, [.ref hh, .int (nI 0), .ref ho])), hj_ar dA hh len g, (ho, .inr (2, [])), hj_ar dA hr 4096 r, hj_ar dA hk 4096 k, hj_ar dA hs 4096 r2, (hm, .inr (3, [.ref hk, .int (nI 0), .ref hs, .int (nI sz)]))] 162 [(0, .ref b), (1, .ref hx), (2, .ref hm), (3, .int (nI (6 * c)))] []
  refine hj_pick [(hx, .inr (0, [.ref hq, .ref hr, .int (nI sz)])), (hq, .inr (1, [.ref hh, .int (nI 0), .ref ho])), hj_ar dA hh len g, (ho, .inr (2, [])), hj_ar dA hr 4096 r, (hm, .inr (3, [.ref hk, .int (nI 0), .ref hs, .int (nI sz)])), hj_ar dA hk 4096 k, hj_ar dA hs 4096 r2] [0, 1, 2, 3, 4, 7, 5, 6] ol.ok rfl rfl ?_
  refine hj_goto 341 ol.ok dL_law_162 (by decide) ?_
  exact k341 hh len 0 sz _ _ _ _ _ _ (by omega) (by omega) ⟨by omega, by omega, v3, fun q q1 q2 => absurd q2 (Nat.not_lt_zero q), fun P => rfl, v6, v7⟩
set_option maxHeartbeats 16000000 in
set_option maxRecDepth 100000 in
theorem k_law_5 {l : Launch} {D : va_G} {dA : ClassId} {J : hj_JT} {b L c hx hq ho hr hm hk hs hh len n sz cells slots : Nat} {xs g r k r2 : Nat → Int32} (ol : hj_OkL l room_1 D dA R_law code 4 b L xs J) (hL : L ≤ 384) (hi : 6 * c + 6 ≤ L) (hcl : cells + 5 ≤ 600128) (hsl : slots + 6144 ≤ 7301098) (hv : hz_inv n len sz g r k r2) (k341 : ∀ (hh len n sz cells2 slots2 : Nat) (g r k r2 : Nat → Int32), cells2 ≤ cells + 5 → slots2 ≤ slots + 6144 → hz_inv n len sz g r k r2 → J cells2 slots2 [(hx, .inr (0, [.ref hq, .ref hr, .int (nI sz)])), (hq, .inr (1, [.ref hh, .int (nI n), .ref ho])), hj_ar dA hh len g, (ho, .inr (2, [])), hj_ar dA hr 4096 r, (hm, .inr (3, [.ref hk, .int (nI n), .ref hs, .int (nI sz)])), hj_ar dA hk 4096 k, hj_ar dA hs 4096 r2] 341 [(0, .ref b), (1, .ref hx), (2, .ref hm), (3, .int (nI (6 * c)))] []) : J cells slots [(hx, .inr (0, [.ref hq, .ref hr, .int (nI sz)])), (hq, .inr (1, [.ref hh, .int (nI n), .ref ho])), hj_ar dA hh len g, (ho, .inr (2, [])), hj_ar dA hr 4096 r, (hm, .inr (3, [.ref hk, .int (nI n), .ref hs, .int (nI sz)])), hj_ar dA hk 4096 k, hj_ar dA hs 4096 r2] 165 [(0, .ref b), (1, .ref hx), (2, .ref hm), (3, .int (nI (6 * c)))] [] := by
  obtain ⟨v1, v2, v3, v4, v5, v6, v7⟩ := hv
  refine hj_aload_n ol.ok dL_law_165 1 rfl rfl ?_
  refine hj_aload_n ol.ok dL_law_166 0 rfl rfl ?_
  refine hj_iload_n ol.ok dL_law_167 3 rfl rfl ?_
  refine hj_iconst (nI 1) ol.ok dL_law_168 (by decide) ?_
  refine hj_iadd_n ol.ok dL_law_169 ?_
  refine hj_sld ol dL_law_170 (by omega) (by omega) ?_
  refine hj_aload_n ol.ok dL_law_171 0 rfl rfl ?_
  refine hj_iload_n ol.ok dL_law_172 3 rfl rfl ?_
  refine hj_iconst (nI 2) ol.ok dL_law_173 (by decide) ?_
  refine hj_iadd_n ol.ok dL_law_174 ?_
  refine hj_sld ol dL_law_175 (by omega) (by omega) ?_
  refine hj_aload_n ol.ok dL_law_176 0 rfl rfl ?_
  refine hj_iload_n ol.ok dL_law_177 3 rfl rfl ?_
  refine hj_iconst (nI 3) ol.ok dL_law_178 (by decide) ?_
  refine hj_iadd_n ol.ok dL_law_179 ?_
  refine hj_sld ol dL_law_180 (by omega) (by omega) ?_
  refine hj_callVi [(hq, .inr (1, [.ref hh, .int (nI n), .ref ho])), hj_ar dA hh len g, (ho, .inr (2, [])), (hm, .inr (3, [.ref hk, .int (nI n), .ref hs, .int (nI sz)])), hj_ar dA hk 4096 k, hj_ar dA hs 4096 r2] [0, 4] [1, 2, 3, 5, 6, 7] 3 ol.ok dL_law_181 (k_xramp l D dA hx hq hr sz r (xs (6 * c + 1)) (xs (6 * c + 2)) (xs (6 * c + 3)) v6) (lw_V q208 q209 q210 q4 q211) (by decide +kernel) rfl 0 rfl rfl ⟨Nat.le_of_ble_eq_true rfl, Nat.le_of_ble_eq_true rfl⟩ ⟨by show _ + 0 ≤ 600128; omega, by show _ + 0 ≤ 7301098; omega⟩ rfl rfl (by decide) (by decide) (by decide) rfl (Nat.le_of_ble_eq_true rfl) (fun z1 _ e1 => ?_)
  show J cells slots [(hq, .inr (1, [.ref hh, .int (nI n), .ref ho])), hj_ar dA hh len g, (ho, .inr (2, [])), (hm, .inr (3, [.ref hk, .int (nI n), .ref hs, .int (nI sz)])), hj_ar dA hk 4096 k, hj_ar dA hs 4096 r2, (hx, .inr (0, [.ref hq, .ref hr, .int (nI (sz + hz_rn (xs (6 * c + 1)) sz))])), hj_ar dA hr 4096 (hz_rp r sz (hz_rn (xs (6 * c + 1)) sz) (xs (6 * c + 2)) (xs (6 * c + 3)))] 184 [(0, .ref b), (1, .ref hx), (2, .ref hm), (3, .int (nI (6 * c)))] [.int z1]
  refine hj_pick [(hx, .inr (0, [.ref hq, .ref hr, .int (nI (sz + hz_rn (xs (6 * c + 1)) sz))])), (hq, .inr (1, [.ref hh, .int (nI n), .ref ho])), hj_ar dA hh len g, (ho, .inr (2, [])), hj_ar dA hr 4096 (hz_rp r sz (hz_rn (xs (6 * c + 1)) sz) (xs (6 * c + 2)) (xs (6 * c + 3))), (hm, .inr (3, [.ref hk, .int (nI n), .ref hs, .int (nI sz)])), hj_ar dA hk 4096 k, hj_ar dA hs 4096 r2] [6, 0, 1, 2, 7, 3, 4, 5] ol.ok rfl rfl ?_
  refine hj_aload_n ol.ok dL_law_184 2 rfl rfl ?_
  refine hj_aload_n ol.ok dL_law_185 0 rfl rfl ?_
  refine hj_iload_n ol.ok dL_law_186 3 rfl rfl ?_
  refine hj_iconst (nI 1) ol.ok dL_law_187 (by decide) ?_
  refine hj_iadd_n ol.ok dL_law_188 ?_
  refine hj_sld ol dL_law_189 (by omega) (by omega) ?_
  refine hj_aload_n ol.ok dL_law_190 0 rfl rfl ?_
  refine hj_iload_n ol.ok dL_law_191 3 rfl rfl ?_
  refine hj_iconst (nI 2) ol.ok dL_law_192 (by decide) ?_
  refine hj_iadd_n ol.ok dL_law_193 ?_
  refine hj_sld ol dL_law_194 (by omega) (by omega) ?_
  refine hj_aload_n ol.ok dL_law_195 0 rfl rfl ?_
  refine hj_iload_n ol.ok dL_law_196 3 rfl rfl ?_
  refine hj_iconst (nI 3) ol.ok dL_law_197 (by decide) ?_
  refine hj_iadd_n ol.ok dL_law_198 ?_
  refine hj_sld ol dL_law_199 (by omega) (by omega) ?_
  refine hj_callVi [(hx, .inr (0, [.ref hq, .ref hr, .int (nI (sz + hz_rn (xs (6 * c + 1)) sz))])), (hq, .inr (1, [.ref hh, .int (nI n), .ref ho])), hj_ar dA hh len g, (ho, .inr (2, [])), hj_ar dA hr 4096 (hz_rp r sz (hz_rn (xs (6 * c + 1)) sz) (xs (6 * c + 2)) (xs (6 * c + 3))), hj_ar dA hk 4096 k] [5, 7] [0, 1, 2, 3, 4, 6] 3 ol.ok dL_law_200 (k_mramp l D dA hm hk hs n sz r2 (xs (6 * c + 1)) (xs (6 * c + 2)) (xs (6 * c + 3)) v6) (lw_V q323 q324 q325 q8 q326) (by decide +kernel) rfl 5 rfl rfl ⟨Nat.le_of_ble_eq_true rfl, Nat.le_of_ble_eq_true rfl⟩ ⟨by show _ + 0 ≤ 600128; omega, by show _ + 0 ≤ 7301098; omega⟩ rfl rfl (by decide) (by decide) (by decide) rfl (Nat.le_of_ble_eq_true rfl) (fun z2 _ e2 => ?_)
  show J cells slots [(hx, .inr (0, [.ref hq, .ref hr, .int (nI (sz + hz_rn (xs (6 * c + 1)) sz))])), (hq, .inr (1, [.ref hh, .int (nI n), .ref ho])), hj_ar dA hh len g, (ho, .inr (2, [])), hj_ar dA hr 4096 (hz_rp r sz (hz_rn (xs (6 * c + 1)) sz) (xs (6 * c + 2)) (xs (6 * c + 3))), hj_ar dA hk 4096 k, (hm, .inr (3, [.ref hk, .int (nI n), .ref hs, .int (nI (sz + hz_rn (xs (6 * c + 1)) sz))])), hj_ar dA hs 4096 (hz_rp r2 sz (hz_rn (xs (6 * c + 1)) sz) (xs (6 * c + 2)) (xs (6 * c + 3)))] 203 [(0, .ref b), (1, .ref hx), (2, .ref hm), (3, .int (nI (6 * c)))] [.int z2, .int z1]
  refine hj_pick [(hx, .inr (0, [.ref hq, .ref hr, .int (nI (sz + hz_rn (xs (6 * c + 1)) sz))])), (hq, .inr (1, [.ref hh, .int (nI n), .ref ho])), hj_ar dA hh len g, (ho, .inr (2, [])), hj_ar dA hr 4096 (hz_rp r sz (hz_rn (xs (6 * c + 1)) sz) (xs (6 * c + 2)) (xs (6 * c + 3))), (hm, .inr (3, [.ref hk, .int (nI n), .ref hs, .int (nI (sz + hz_rn (xs (6 * c + 1)) sz))])), hj_ar dA hk 4096 k, hj_ar dA hs 4096 (hz_rp r2 sz (hz_rn (xs (6 * c + 1)) sz) (xs (6 * c + 2)) (xs (6 * c + 3)))] [0, 1, 2, 3, 4, 6, 5, 7] ol.ok rfl rfl ?_
  refine hj_icmp_eq 341 ol.ok dL_law_203 (by decide) (fun c9 => ?_) (fun c9 => ?_)
  · exact k341 hh len n (sz + hz_rn (xs (6 * c + 1)) sz) _ _ _ _ _ _ (by omega) (by omega) ⟨v1, v2, v3, v4, v5, by unfold hz_rn; omega, fun q hq => by
      unfold hz_rp
      by_cases cq : sz ≤ q ∧ q < sz + hz_rn (xs (6 * c + 1)) sz
      · rw [if_pos cq, if_pos cq]
      · rw [if_neg cq, if_neg cq]
        exact v7 q (by omega)⟩
  · exact absurd (e1.trans e2.symm) c9
set_option maxHeartbeats 16000000 in
set_option maxRecDepth 100000 in
theorem k_law_6 {l : Launch} {D : va_G} {dA : ClassId} {J : hj_JT} {b L c hx hq ho hr hm hk hs hh len n sz cells slots : Nat} {xs g r k r2 : Nat → Int32} (ol : hj_OkL l room_1 D dA R_law code 4 b L xs J) (hL : L ≤ 384) (hi : 6 * c + 6 ≤ L) (hcl : cells + 5 ≤ 600128) (hsl : slots + 6144 ≤ 7301098) (hv : hz_inv n len sz g r k r2) (k341 : ∀ (hh len n sz cells2 slots2 : Nat) (g r k r2 : Nat → Int32), cells2 ≤ cells + 5 → slots2 ≤ slots + 6144 → hz_inv n len sz g r k r2 → J cells2 slots2 [(hx, .inr (0, [.ref hq, .ref hr, .int (nI sz)])), (hq, .inr (1, [.ref hh, .int (nI n), .ref ho])), hj_ar dA hh len g, (ho, .inr (2, [])), hj_ar dA hr 4096 r, (hm, .inr (3, [.ref hk, .int (nI n), .ref hs, .int (nI sz)])), hj_ar dA hk 4096 k, hj_ar dA hs 4096 r2] 341 [(0, .ref b), (1, .ref hx), (2, .ref hm), (3, .int (nI (6 * c)))] []) : J cells slots [(hx, .inr (0, [.ref hq, .ref hr, .int (nI sz)])), (hq, .inr (1, [.ref hh, .int (nI n), .ref ho])), hj_ar dA hh len g, (ho, .inr (2, [])), hj_ar dA hr 4096 r, (hm, .inr (3, [.ref hk, .int (nI n), .ref hs, .int (nI sz)])), hj_ar dA hk 4096 k, hj_ar dA hs 4096 r2] 208 [(0, .ref b), (1, .ref hx), (2, .ref hm), (3, .int (nI (6 * c)))] [] := by
  obtain ⟨v1, v2, v3, v4, v5, v6, v7⟩ := hv
  rcases Nat.eq_zero_or_pos sz with h0 | h0
  · subst h0
    refine hj_aload_n ol.ok dL_law_208 1 rfl rfl ?_
    refine hj_aload_n ol.ok dL_law_209 0 rfl rfl ?_
    refine hj_iload_n ol.ok dL_law_210 3 rfl rfl ?_
    refine hj_iconst (nI 1) ol.ok dL_law_211 (by decide) ?_
    refine hj_iadd_n ol.ok dL_law_212 ?_
    refine hj_sld ol dL_law_213 (by omega) (by omega) ?_
    refine hj_callVi [(hq, .inr (1, [.ref hh, .int (nI n), .ref ho])), hj_ar dA hh len g, (ho, .inr (2, [])), hj_ar dA hr 4096 r, (hm, .inr (3, [.ref hk, .int (nI n), .ref hs, .int (nI 0)])), hj_ar dA hk 4096 k, hj_ar dA hs 4096 r2] [0] [1, 2, 3, 4, 5, 6, 7] 1 ol.ok dL_law_214 (k_xrow0 l D dA hx hq hr (xs (6 * c + 1))) (lw_V q213 q214 q215 q4 q216) (by decide +kernel) rfl 0 rfl rfl ⟨Nat.le_of_ble_eq_true rfl, Nat.le_of_ble_eq_true rfl⟩ ⟨by show _ + 0 ≤ 600128; omega, by show _ + 0 ≤ 7301098; omega⟩ rfl rfl (by decide) (by decide) (by decide) rfl (Nat.le_of_ble_eq_true rfl) (fun z1 _ e1 => ?_)
    show J cells slots [(hq, .inr (1, [.ref hh, .int (nI n), .ref ho])), hj_ar dA hh len g, (ho, .inr (2, [])), hj_ar dA hr 4096 r, (hm, .inr (3, [.ref hk, .int (nI n), .ref hs, .int (nI 0)])), hj_ar dA hk 4096 k, hj_ar dA hs 4096 r2, (hx, .inr (0, [.ref hq, .ref hr, .int (nI 0)]))] 217 [(0, .ref b), (1, .ref hx), (2, .ref hm), (3, .int (nI (6 * c)))] [.int z1]
    refine hj_pick [(hx, .inr (0, [.ref hq, .ref hr, .int (nI 0)])), (hq, .inr (1, [.ref hh, .int (nI n), .ref ho])), hj_ar dA hh len g, (ho, .inr (2, [])), hj_ar dA hr 4096 r, (hm, .inr (3, [.ref hk, .int (nI n), .ref hs, .int (nI 0)])), hj_ar dA hk 4096 k, hj_ar dA hs 4096 r2] [7, 0, 1, 2, 3, 4, 5, 6] ol.ok rfl rfl ?_
    refine hj_aload_n ol.ok dL_law_217 2 rfl rfl ?_
    refine hj_aload_n ol.ok dL_law_218 0 rfl rfl ?_
    refine hj_iload_n ol.ok dL_law_219 3 rfl rfl ?_
    refine hj_iconst (nI 1) ol.ok dL_law_220 (by decide) ?_
    refine hj_iadd_n ol.ok dL_law_221 ?_
    refine hj_sld ol dL_law_222 (by omega) (by omega) ?_
    refine hj_callVi [(hx, .inr (0, [.ref hq, .ref hr, .int (nI 0)])), (hq, .inr (1, [.ref hh, .int (nI n), .ref ho])), hj_ar dA hh len g, (ho, .inr (2, [])), hj_ar dA hr 4096 r, hj_ar dA hk 4096 k, hj_ar dA hs 4096 r2] [5] [0, 1, 2, 3, 4, 6, 7] 1 ol.ok dL_law_223 (k_mrow0 l D dA hm hk hs n (xs (6 * c + 1))) (lw_V q328 q329 q330 q8 q331) (by decide +kernel) rfl 5 rfl rfl ⟨Nat.le_of_ble_eq_true rfl, Nat.le_of_ble_eq_true rfl⟩ ⟨by show _ + 0 ≤ 600128; omega, by show _ + 0 ≤ 7301098; omega⟩ rfl rfl (by decide) (by decide) (by decide) rfl (Nat.le_of_ble_eq_true rfl) (fun z2 _ e2 => ?_)
    show J cells slots [(hx, .inr (0, [.ref hq, .ref hr, .int (nI 0)])), (hq, .inr (1, [.ref hh, .int (nI n), .ref ho])), hj_ar dA hh len g, (ho, .inr (2, [])), hj_ar dA hr 4096 r, hj_ar dA hk 4096 k, hj_ar dA hs 4096 r2, (hm, .inr (3, [.ref hk, .int (nI n), .ref hs, .int (nI 0)]))] 226 [(0, .ref b), (1, .ref hx), (2, .ref hm), (3, .int (nI (6 * c)))] [.int z2, .int z1]
    refine hj_pick [(hx, .inr (0, [.ref hq, .ref hr, .int (nI 0)])), (hq, .inr (1, [.ref hh, .int (nI n), .ref ho])), hj_ar dA hh len g, (ho, .inr (2, [])), hj_ar dA hr 4096 r, (hm, .inr (3, [.ref hk, .int (nI n), .ref hs, .int (nI 0)])), hj_ar dA hk 4096 k, hj_ar dA hs 4096 r2] [0, 1, 2, 3, 4, 7, 5, 6] ol.ok rfl rfl ?_
    refine hj_icmp_eq 341 ol.ok dL_law_226 (by decide) (fun c9 => ?_) (fun c9 => ?_)
    · exact k341 hh len n 0 _ _ _ _ _ _ (by omega) (by omega) ⟨v1, v2, v3, v4, v5, v6, v7⟩
    · exact absurd (e1.trans e2.symm) c9
  · refine hj_aload_n ol.ok dL_law_208 1 rfl rfl ?_
    refine hj_aload_n ol.ok dL_law_209 0 rfl rfl ?_
    refine hj_iload_n ol.ok dL_law_210 3 rfl rfl ?_
    refine hj_iconst (nI 1) ol.ok dL_law_211 (by decide) ?_
    refine hj_iadd_n ol.ok dL_law_212 ?_
    refine hj_sld ol dL_law_213 (by omega) (by omega) ?_
    refine hj_callVi [(hq, .inr (1, [.ref hh, .int (nI n), .ref ho])), hj_ar dA hh len g, (ho, .inr (2, [])), (hm, .inr (3, [.ref hk, .int (nI n), .ref hs, .int (nI sz)])), hj_ar dA hk 4096 k, hj_ar dA hs 4096 r2] [0, 4] [1, 2, 3, 5, 6, 7] 1 ol.ok dL_law_214 (k_xrow l D dA hx hq hr sz r (xs (6 * c + 1)) h0 v6) (lw_V q213 q214 q215 q4 q216) (by decide +kernel) rfl 0 rfl rfl ⟨Nat.le_of_ble_eq_true rfl, Nat.le_of_ble_eq_true rfl⟩ ⟨by show _ + 0 ≤ 600128; omega, by show _ + 0 ≤ 7301098; omega⟩ rfl rfl (by decide) (by decide) (by decide) rfl (Nat.le_of_ble_eq_true rfl) (fun z1 _ e1 => ?_)
    show J cells slots [(hq, .inr (1, [.ref hh, .int (nI n), .ref ho])), hj_ar dA hh len g, (ho, .inr (2, [])), (hm, .inr (3, [.ref hk, .int (nI n), .ref hs, .int (nI sz)])), hj_ar dA hk 4096 k, hj_ar dA hs 4096 r2, (hx, .inr (0, [.ref hq, .ref hr, .int (nI sz)])), hj_ar dA hr 4096 r] 217 [(0, .ref b), (1, .ref hx), (2, .ref hm), (3, .int (nI (6 * c)))] [.int z1]
    refine hj_pick [(hx, .inr (0, [.ref hq, .ref hr, .int (nI sz)])), (hq, .inr (1, [.ref hh, .int (nI n), .ref ho])), hj_ar dA hh len g, (ho, .inr (2, [])), hj_ar dA hr 4096 r, (hm, .inr (3, [.ref hk, .int (nI n), .ref hs, .int (nI sz)])), hj_ar dA hk 4096 k, hj_ar dA hs 4096 r2] [6, 0, 1, 2, 7, 3, 4, 5] ol.ok rfl rfl ?_
    refine hj_aload_n ol.ok dL_law_217 2 rfl rfl ?_
    refine hj_aload_n ol.ok dL_law_218 0 rfl rfl ?_
    refine hj_iload_n ol.ok dL_law_219 3 rfl rfl ?_
    refine hj_iconst (nI 1) ol.ok dL_law_220 (by decide) ?_
    refine hj_iadd_n ol.ok dL_law_221 ?_
    refine hj_sld ol dL_law_222 (by omega) (by omega) ?_
    refine hj_callVi [(hx, .inr (0, [.ref hq, .ref hr, .int (nI sz)])), (hq, .inr (1, [.ref hh, .int (nI n), .ref ho])), hj_ar dA hh len g, (ho, .inr (2, [])), hj_ar dA hr 4096 r, hj_ar dA hk 4096 k] [5, 7] [0, 1, 2, 3, 4, 6] 1 ol.ok dL_law_223 (k_mrow l D dA hm hk hs n sz r2 (xs (6 * c + 1)) h0 v6) (lw_V q328 q329 q330 q8 q331) (by decide +kernel) rfl 5 rfl rfl ⟨Nat.le_of_ble_eq_true rfl, Nat.le_of_ble_eq_true rfl⟩ ⟨by show _ + 0 ≤ 600128; omega, by show _ + 0 ≤ 7301098; omega⟩ rfl rfl (by decide) (by decide) (by decide) rfl (Nat.le_of_ble_eq_true rfl) (fun z2 _ e2 => ?_)
    show J cells slots [(hx, .inr (0, [.ref hq, .ref hr, .int (nI sz)])), (hq, .inr (1, [.ref hh, .int (nI n), .ref ho])), hj_ar dA hh len g, (ho, .inr (2, [])), hj_ar dA hr 4096 r, hj_ar dA hk 4096 k, (hm, .inr (3, [.ref hk, .int (nI n), .ref hs, .int (nI sz)])), hj_ar dA hs 4096 r2] 226 [(0, .ref b), (1, .ref hx), (2, .ref hm), (3, .int (nI (6 * c)))] [.int z2, .int z1]
    refine hj_pick [(hx, .inr (0, [.ref hq, .ref hr, .int (nI sz)])), (hq, .inr (1, [.ref hh, .int (nI n), .ref ho])), hj_ar dA hh len g, (ho, .inr (2, [])), hj_ar dA hr 4096 r, (hm, .inr (3, [.ref hk, .int (nI n), .ref hs, .int (nI sz)])), hj_ar dA hk 4096 k, hj_ar dA hs 4096 r2] [0, 1, 2, 3, 4, 6, 5, 7] ol.ok rfl rfl ?_
    refine hj_icmp_eq 341 ol.ok dL_law_226 (by decide) (fun c9 => ?_) (fun c9 => ?_)
    · exact k341 hh len n sz _ _ _ _ _ _ (by omega) (by omega) ⟨v1, v2, v3, v4, v5, v6, v7⟩
    · exact absurd (e1.trans ((v7 _ (Nat.mod_lt _ h0)).trans e2.symm)) c9
set_option maxHeartbeats 16000000 in
set_option maxRecDepth 100000 in
theorem k_law_7 {l : Launch} {D : va_G} {dA : ClassId} {J : hj_JT} {b L c hx hq ho hr hm hk hs hh len n sz cells slots : Nat} {xs g r k r2 : Nat → Int32} (ol : hj_OkL l room_1 D dA R_law code 4 b L xs J) (hL : L ≤ 384) (hi : 6 * c + 6 ≤ L) (hcl : cells + 5 ≤ 600128) (hsl : slots + 6144 ≤ 7301098) (hv : hz_inv n len sz g r k r2) (k341 : ∀ (hh len n sz cells2 slots2 : Nat) (g r k r2 : Nat → Int32), cells2 ≤ cells + 5 → slots2 ≤ slots + 6144 → hz_inv n len sz g r k r2 → J cells2 slots2 [(hx, .inr (0, [.ref hq, .ref hr, .int (nI sz)])), (hq, .inr (1, [.ref hh, .int (nI n), .ref ho])), hj_ar dA hh len g, (ho, .inr (2, [])), hj_ar dA hr 4096 r, (hm, .inr (3, [.ref hk, .int (nI n), .ref hs, .int (nI sz)])), hj_ar dA hk 4096 k, hj_ar dA hs 4096 r2] 341 [(0, .ref b), (1, .ref hx), (2, .ref hm), (3, .int (nI (6 * c)))] []) : J cells slots [(hx, .inr (0, [.ref hq, .ref hr, .int (nI sz)])), (hq, .inr (1, [.ref hh, .int (nI n), .ref ho])), hj_ar dA hh len g, (ho, .inr (2, [])), hj_ar dA hr 4096 r, (hm, .inr (3, [.ref hk, .int (nI n), .ref hs, .int (nI sz)])), hj_ar dA hk 4096 k, hj_ar dA hs 4096 r2] 231 [(0, .ref b), (1, .ref hx), (2, .ref hm), (3, .int (nI (6 * c)))] [] := by
  obtain ⟨v1, v2, v3, v4, v5, v6, v7⟩ := hv
  refine hj_aload_n ol.ok dL_law_231 1 rfl rfl ?_
  refine hj_aload_n ol.ok dL_law_232 0 rfl rfl ?_
  refine hj_iload_n ol.ok dL_law_233 3 rfl rfl ?_
  refine hj_iconst (nI 1) ol.ok dL_law_234 (by decide) ?_
  refine hj_iadd_n ol.ok dL_law_235 ?_
  refine hj_sld ol dL_law_236 (by omega) (by omega) ?_
  refine hj_aload_n ol.ok dL_law_237 0 rfl rfl ?_
  refine hj_iload_n ol.ok dL_law_238 3 rfl rfl ?_
  refine hj_iconst (nI 2) ol.ok dL_law_239 (by decide) ?_
  refine hj_iadd_n ol.ok dL_law_240 ?_
  refine hj_sld ol dL_law_241 (by omega) (by omega) ?_
  refine hj_callVi [(hq, .inr (1, [.ref hh, .int (nI n), .ref ho])), hj_ar dA hh len g, (ho, .inr (2, [])), (hm, .inr (3, [.ref hk, .int (nI n), .ref hs, .int (nI sz)])), hj_ar dA hk 4096 k, hj_ar dA hs 4096 r2] [0, 4] [1, 2, 3, 5, 6, 7] 2 ol.ok dL_law_242 (k_xquick l D dA hx hq hr sz r (xs (6 * c + 1)) (xs (6 * c + 2)) v6) (lw_V q217 q218 q219 q4 q220) (by decide +kernel) rfl 0 rfl rfl ⟨Nat.le_of_ble_eq_true rfl, Nat.le_of_ble_eq_true rfl⟩ ⟨by show _ + 0 ≤ 600128; omega, by show _ + 0 ≤ 7301098; omega⟩ rfl rfl (by decide) (by decide) (by decide) rfl (Nat.le_of_ble_eq_true rfl) (fun z1 u hu => ?_)
  show J cells slots [(hq, .inr (1, [.ref hh, .int (nI n), .ref ho])), hj_ar dA hh len g, (ho, .inr (2, [])), (hm, .inr (3, [.ref hk, .int (nI n), .ref hs, .int (nI sz)])), hj_ar dA hk 4096 k, hj_ar dA hs 4096 r2, (hx, .inr (0, [.ref hq, .ref hr, .int (nI sz)])), hj_ar dA hr 4096 u] 245 [(0, .ref b), (1, .ref hx), (2, .ref hm), (3, .int (nI (6 * c)))] [.int z1]
  refine hj_pick [(hx, .inr (0, [.ref hq, .ref hr, .int (nI sz)])), (hq, .inr (1, [.ref hh, .int (nI n), .ref ho])), hj_ar dA hh len g, (ho, .inr (2, [])), hj_ar dA hr 4096 u, (hm, .inr (3, [.ref hk, .int (nI n), .ref hs, .int (nI sz)])), hj_ar dA hk 4096 k, hj_ar dA hs 4096 r2] [6, 0, 1, 2, 7, 3, 4, 5] ol.ok rfl rfl ?_
  refine hj_aload_n ol.ok dL_law_245 2 rfl rfl ?_
  refine hj_aload_n ol.ok dL_law_246 0 rfl rfl ?_
  refine hj_iload_n ol.ok dL_law_247 3 rfl rfl ?_
  refine hj_iconst (nI 1) ol.ok dL_law_248 (by decide) ?_
  refine hj_iadd_n ol.ok dL_law_249 ?_
  refine hj_sld ol dL_law_250 (by omega) (by omega) ?_
  refine hj_aload_n ol.ok dL_law_251 0 rfl rfl ?_
  refine hj_iload_n ol.ok dL_law_252 3 rfl rfl ?_
  refine hj_iconst (nI 2) ol.ok dL_law_253 (by decide) ?_
  refine hj_iadd_n ol.ok dL_law_254 ?_
  refine hj_sld ol dL_law_255 (by omega) (by omega) ?_
  refine hj_callVi [(hx, .inr (0, [.ref hq, .ref hr, .int (nI sz)])), (hq, .inr (1, [.ref hh, .int (nI n), .ref ho])), hj_ar dA hh len g, (ho, .inr (2, [])), hj_ar dA hr 4096 u, hj_ar dA hk 4096 k] [5, 7] [0, 1, 2, 3, 4, 6] 2 ol.ok dL_law_256 (k_mquick l D dA hm hk hs n sz r2 (xs (6 * c + 1)) (xs (6 * c + 2)) v6) (lw_V q332 q333 q334 q8 q335) (by decide +kernel) rfl 5 rfl rfl ⟨Nat.le_of_ble_eq_true rfl, Nat.le_of_ble_eq_true rfl⟩ ⟨by show _ + 0 ≤ 600128; omega, by show _ + 0 ≤ 7301098; omega⟩ rfl rfl (by decide) (by decide) (by decide) rfl (Nat.le_of_ble_eq_true rfl) (fun z2 u2 hu2 => ?_)
  show J cells slots [(hx, .inr (0, [.ref hq, .ref hr, .int (nI sz)])), (hq, .inr (1, [.ref hh, .int (nI n), .ref ho])), hj_ar dA hh len g, (ho, .inr (2, [])), hj_ar dA hr 4096 u, hj_ar dA hk 4096 k, (hm, .inr (3, [.ref hk, .int (nI n), .ref hs, .int (nI sz)])), hj_ar dA hs 4096 u2] 259 [(0, .ref b), (1, .ref hx), (2, .ref hm), (3, .int (nI (6 * c)))] [.int z2, .int z1]
  refine hj_pick [(hx, .inr (0, [.ref hq, .ref hr, .int (nI sz)])), (hq, .inr (1, [.ref hh, .int (nI n), .ref ho])), hj_ar dA hh len g, (ho, .inr (2, [])), hj_ar dA hr 4096 u, (hm, .inr (3, [.ref hk, .int (nI n), .ref hs, .int (nI sz)])), hj_ar dA hk 4096 k, hj_ar dA hs 4096 u2] [0, 1, 2, 3, 4, 6, 5, 7] ol.ok rfl rfl ?_
  refine hj_icmp_eq 341 ol.ok dL_law_259 (by decide) (fun c9 => ?_) (fun c9 => ?_)
  · exact k341 hh len n sz _ _ _ _ _ _ (by omega) (by omega) (hz_inv_sort (f := hz_of (xs (6 * c + 1)) sz) (m := hz_on (xs (6 * c + 2)) sz (hz_of (xs (6 * c + 1)) sz)) ⟨v1, v2, v3, v4, v5, v6, v7⟩ (by
      have q1 := hz_of_le (xs (6 * c + 1)) sz
      have q2 := hz_on_le (xs (6 * c + 2)) sz (hz_of (xs (6 * c + 1)) sz)
      omega) hu.2.1 hu.2.2 hu2.2.1 hu2.2.2)
  · exact absurd (hu.1.trans hu2.1.symm) c9
set_option maxHeartbeats 16000000 in
set_option maxRecDepth 100000 in
theorem k_law_8 {l : Launch} {D : va_G} {dA : ClassId} {J : hj_JT} {b L c hx hq ho hr hm hk hs hh len n sz cells slots : Nat} {xs g r k r2 : Nat → Int32} (ol : hj_OkL l room_1 D dA R_law code 4 b L xs J) (hL : L ≤ 384) (hi : 6 * c + 6 ≤ L) (hcl : cells + 5 ≤ 600128) (hsl : slots + 6144 ≤ 7301098) (hv : hz_inv n len sz g r k r2) (k341 : ∀ (hh len n sz cells2 slots2 : Nat) (g r k r2 : Nat → Int32), cells2 ≤ cells + 5 → slots2 ≤ slots + 6144 → hz_inv n len sz g r k r2 → J cells2 slots2 [(hx, .inr (0, [.ref hq, .ref hr, .int (nI sz)])), (hq, .inr (1, [.ref hh, .int (nI n), .ref ho])), hj_ar dA hh len g, (ho, .inr (2, [])), hj_ar dA hr 4096 r, (hm, .inr (3, [.ref hk, .int (nI n), .ref hs, .int (nI sz)])), hj_ar dA hk 4096 k, hj_ar dA hs 4096 r2] 341 [(0, .ref b), (1, .ref hx), (2, .ref hm), (3, .int (nI (6 * c)))] []) : J cells slots [(hx, .inr (0, [.ref hq, .ref hr, .int (nI sz)])), (hq, .inr (1, [.ref hh, .int (nI n), .ref ho])), hj_ar dA hh len g, (ho, .inr (2, [])), hj_ar dA hr 4096 r, (hm, .inr (3, [.ref hk, .int (nI n), .ref hs, .int (nI sz)])), hj_ar dA hk 4096 k, hj_ar dA hs 4096 r2] 264 [(0, .ref b), (1, .ref hx), (2, .ref hm), (3, .int (nI (6 * c)))] [] := by
  obtain ⟨v1, v2, v3, v4, v5, v6, v7⟩ := hv
  refine hj_aload_n ol.ok dL_law_264 1 rfl rfl ?_
  refine hj_aload_n ol.ok dL_law_265 0 rfl rfl ?_
  refine hj_iload_n ol.ok dL_law_266 3 rfl rfl ?_
  refine hj_iconst (nI 1) ol.ok dL_law_267 (by decide) ?_
  refine hj_iadd_n ol.ok dL_law_268 ?_
  refine hj_sld ol dL_law_269 (by omega) (by omega) ?_
  refine hj_aload_n ol.ok dL_law_270 0 rfl rfl ?_
  refine hj_iload_n ol.ok dL_law_271 3 rfl rfl ?_
  refine hj_iconst (nI 2) ol.ok dL_law_272 (by decide) ?_
  refine hj_iadd_n ol.ok dL_law_273 ?_
  refine hj_sld ol dL_law_274 (by omega) (by omega) ?_
  refine hj_callVi [(hq, .inr (1, [.ref hh, .int (nI n), .ref ho])), hj_ar dA hh len g, (ho, .inr (2, [])), (hm, .inr (3, [.ref hk, .int (nI n), .ref hs, .int (nI sz)])), hj_ar dA hk 4096 k, hj_ar dA hs 4096 r2] [0, 4] [1, 2, 3, 5, 6, 7] 2 ol.ok dL_law_275 (k_xmerge l D dA hx hq hr sz r (xs (6 * c + 1)) (xs (6 * c + 2)) v6) (lw_V q243 q244 q245 q4 q246) (by decide +kernel) rfl 0 rfl rfl ⟨Nat.le_of_ble_eq_true rfl, Nat.le_of_ble_eq_true rfl⟩ ⟨by show _ + 1 ≤ 600128; omega, by show _ + 4096 ≤ 7301098; omega⟩ rfl rfl (by decide) (by decide) (by decide) rfl (Nat.le_of_ble_eq_true rfl) (fun z1 u hu => ?_)
  show J (cells + 1) (slots + 4096) [(hq, .inr (1, [.ref hh, .int (nI n), .ref ho])), hj_ar dA hh len g, (ho, .inr (2, [])), (hm, .inr (3, [.ref hk, .int (nI n), .ref hs, .int (nI sz)])), hj_ar dA hk 4096 k, hj_ar dA hs 4096 r2, (hx, .inr (0, [.ref hq, .ref hr, .int (nI sz)])), hj_ar dA hr 4096 u] 278 [(0, .ref b), (1, .ref hx), (2, .ref hm), (3, .int (nI (6 * c)))] [.int z1]
  refine hj_pick [(hx, .inr (0, [.ref hq, .ref hr, .int (nI sz)])), (hq, .inr (1, [.ref hh, .int (nI n), .ref ho])), hj_ar dA hh len g, (ho, .inr (2, [])), hj_ar dA hr 4096 u, (hm, .inr (3, [.ref hk, .int (nI n), .ref hs, .int (nI sz)])), hj_ar dA hk 4096 k, hj_ar dA hs 4096 r2] [6, 0, 1, 2, 7, 3, 4, 5] ol.ok rfl rfl ?_
  refine hj_aload_n ol.ok dL_law_278 2 rfl rfl ?_
  refine hj_aload_n ol.ok dL_law_279 0 rfl rfl ?_
  refine hj_iload_n ol.ok dL_law_280 3 rfl rfl ?_
  refine hj_iconst (nI 1) ol.ok dL_law_281 (by decide) ?_
  refine hj_iadd_n ol.ok dL_law_282 ?_
  refine hj_sld ol dL_law_283 (by omega) (by omega) ?_
  refine hj_aload_n ol.ok dL_law_284 0 rfl rfl ?_
  refine hj_iload_n ol.ok dL_law_285 3 rfl rfl ?_
  refine hj_iconst (nI 2) ol.ok dL_law_286 (by decide) ?_
  refine hj_iadd_n ol.ok dL_law_287 ?_
  refine hj_sld ol dL_law_288 (by omega) (by omega) ?_
  refine hj_callVi [(hx, .inr (0, [.ref hq, .ref hr, .int (nI sz)])), (hq, .inr (1, [.ref hh, .int (nI n), .ref ho])), hj_ar dA hh len g, (ho, .inr (2, [])), hj_ar dA hr 4096 u, hj_ar dA hk 4096 k] [5, 7] [0, 1, 2, 3, 4, 6] 2 ol.ok dL_law_289 (k_mmerge l D dA hm hk hs n sz r2 (xs (6 * c + 1)) (xs (6 * c + 2)) v6) (lw_V q340 q341 q342 q8 q343) (by decide +kernel) rfl 5 rfl rfl ⟨Nat.le_of_ble_eq_true rfl, Nat.le_of_ble_eq_true rfl⟩ ⟨by show _ + 0 ≤ 600128; omega, by show _ + 0 ≤ 7301098; omega⟩ rfl rfl (by decide) (by decide) (by decide) rfl (Nat.le_of_ble_eq_true rfl) (fun z2 u2 hu2 => ?_)
  show J (cells + 1) (slots + 4096) [(hx, .inr (0, [.ref hq, .ref hr, .int (nI sz)])), (hq, .inr (1, [.ref hh, .int (nI n), .ref ho])), hj_ar dA hh len g, (ho, .inr (2, [])), hj_ar dA hr 4096 u, hj_ar dA hk 4096 k, (hm, .inr (3, [.ref hk, .int (nI n), .ref hs, .int (nI sz)])), hj_ar dA hs 4096 u2] 292 [(0, .ref b), (1, .ref hx), (2, .ref hm), (3, .int (nI (6 * c)))] [.int z2, .int z1]
  refine hj_pick [(hx, .inr (0, [.ref hq, .ref hr, .int (nI sz)])), (hq, .inr (1, [.ref hh, .int (nI n), .ref ho])), hj_ar dA hh len g, (ho, .inr (2, [])), hj_ar dA hr 4096 u, (hm, .inr (3, [.ref hk, .int (nI n), .ref hs, .int (nI sz)])), hj_ar dA hk 4096 k, hj_ar dA hs 4096 u2] [0, 1, 2, 3, 4, 6, 5, 7] ol.ok rfl rfl ?_
  refine hj_icmp_eq 341 ol.ok dL_law_292 (by decide) (fun c9 => ?_) (fun c9 => ?_)
  · exact k341 hh len n sz _ _ _ _ _ _ (by omega) (by omega) (hz_inv_sort (f := hz_of (xs (6 * c + 1)) sz) (m := hz_on (xs (6 * c + 2)) sz (hz_of (xs (6 * c + 1)) sz)) ⟨v1, v2, v3, v4, v5, v6, v7⟩ (by
      have q1 := hz_of_le (xs (6 * c + 1)) sz
      have q2 := hz_on_le (xs (6 * c + 2)) sz (hz_of (xs (6 * c + 1)) sz)
      omega) hu.2.1 hu.2.2 hu2.2.1 hu2.2.2)
  · exact absurd (hu.1.trans hu2.1.symm) c9
set_option maxHeartbeats 16000000 in
set_option maxRecDepth 100000 in
theorem k_law_9 {l : Launch} {D : va_G} {dA : ClassId} {J : hj_JT} {b L c hx hq ho hr hm hk hs hh len n sz cells slots : Nat} {xs g r k r2 : Nat → Int32} (ol : hj_OkL l room_1 D dA R_law code 4 b L xs J) (hL : L ≤ 384) (hi : 6 * c + 6 ≤ L) (hcl : cells + 5 ≤ 600128) (hsl : slots + 6144 ≤ 7301098) (hv : hz_inv n len sz g r k r2) (k341 : ∀ (hh len n sz cells2 slots2 : Nat) (g r k r2 : Nat → Int32), cells2 ≤ cells + 5 → slots2 ≤ slots + 6144 → hz_inv n len sz g r k r2 → J cells2 slots2 [(hx, .inr (0, [.ref hq, .ref hr, .int (nI sz)])), (hq, .inr (1, [.ref hh, .int (nI n), .ref ho])), hj_ar dA hh len g, (ho, .inr (2, [])), hj_ar dA hr 4096 r, (hm, .inr (3, [.ref hk, .int (nI n), .ref hs, .int (nI sz)])), hj_ar dA hk 4096 k, hj_ar dA hs 4096 r2] 341 [(0, .ref b), (1, .ref hx), (2, .ref hm), (3, .int (nI (6 * c)))] []) : J cells slots [(hx, .inr (0, [.ref hq, .ref hr, .int (nI sz)])), (hq, .inr (1, [.ref hh, .int (nI n), .ref ho])), hj_ar dA hh len g, (ho, .inr (2, [])), hj_ar dA hr 4096 r, (hm, .inr (3, [.ref hk, .int (nI n), .ref hs, .int (nI sz)])), hj_ar dA hk 4096 k, hj_ar dA hs 4096 r2] 297 [(0, .ref b), (1, .ref hx), (2, .ref hm), (3, .int (nI (6 * c)))] [] := by
  obtain ⟨v1, v2, v3, v4, v5, v6, v7⟩ := hv
  refine hj_aload_n ol.ok dL_law_297 1 rfl rfl ?_
  refine hj_aload_n ol.ok dL_law_298 0 rfl rfl ?_
  refine hj_iload_n ol.ok dL_law_299 3 rfl rfl ?_
  refine hj_iconst (nI 1) ol.ok dL_law_300 (by decide) ?_
  refine hj_iadd_n ol.ok dL_law_301 ?_
  refine hj_sld ol dL_law_302 (by omega) (by omega) ?_
  refine hj_aload_n ol.ok dL_law_303 0 rfl rfl ?_
  refine hj_iload_n ol.ok dL_law_304 3 rfl rfl ?_
  refine hj_iconst (nI 2) ol.ok dL_law_305 (by decide) ?_
  refine hj_iadd_n ol.ok dL_law_306 ?_
  refine hj_sld ol dL_law_307 (by omega) (by omega) ?_
  refine hj_callVi [(hq, .inr (1, [.ref hh, .int (nI n), .ref ho])), hj_ar dA hh len g, (ho, .inr (2, [])), (hm, .inr (3, [.ref hk, .int (nI n), .ref hs, .int (nI sz)])), hj_ar dA hk 4096 k, hj_ar dA hs 4096 r2] [0, 4] [1, 2, 3, 5, 6, 7] 2 ol.ok dL_law_308 (k_xradix l D dA hx hq hr sz r (xs (6 * c + 1)) (xs (6 * c + 2)) v6) (lw_V q269 q270 q271 q4 q272) (by decide +kernel) rfl 0 rfl rfl ⟨Nat.le_of_ble_eq_true rfl, Nat.le_of_ble_eq_true rfl⟩ ⟨by show _ + 5 ≤ 600128; omega, by show _ + 2810 ≤ 7301098; omega⟩ rfl rfl (by decide) (by decide) (by decide) rfl (Nat.le_of_ble_eq_true rfl) (fun z1 u hu => ?_)
  show J (cells + 5) (slots + 2810) [(hq, .inr (1, [.ref hh, .int (nI n), .ref ho])), hj_ar dA hh len g, (ho, .inr (2, [])), (hm, .inr (3, [.ref hk, .int (nI n), .ref hs, .int (nI sz)])), hj_ar dA hk 4096 k, hj_ar dA hs 4096 r2, (hx, .inr (0, [.ref hq, .ref hr, .int (nI sz)])), hj_ar dA hr 4096 u] 311 [(0, .ref b), (1, .ref hx), (2, .ref hm), (3, .int (nI (6 * c)))] [.int z1]
  refine hj_pick [(hx, .inr (0, [.ref hq, .ref hr, .int (nI sz)])), (hq, .inr (1, [.ref hh, .int (nI n), .ref ho])), hj_ar dA hh len g, (ho, .inr (2, [])), hj_ar dA hr 4096 u, (hm, .inr (3, [.ref hk, .int (nI n), .ref hs, .int (nI sz)])), hj_ar dA hk 4096 k, hj_ar dA hs 4096 r2] [6, 0, 1, 2, 7, 3, 4, 5] ol.ok rfl rfl ?_
  refine hj_aload_n ol.ok dL_law_311 2 rfl rfl ?_
  refine hj_aload_n ol.ok dL_law_312 0 rfl rfl ?_
  refine hj_iload_n ol.ok dL_law_313 3 rfl rfl ?_
  refine hj_iconst (nI 1) ol.ok dL_law_314 (by decide) ?_
  refine hj_iadd_n ol.ok dL_law_315 ?_
  refine hj_sld ol dL_law_316 (by omega) (by omega) ?_
  refine hj_aload_n ol.ok dL_law_317 0 rfl rfl ?_
  refine hj_iload_n ol.ok dL_law_318 3 rfl rfl ?_
  refine hj_iconst (nI 2) ol.ok dL_law_319 (by decide) ?_
  refine hj_iadd_n ol.ok dL_law_320 ?_
  refine hj_sld ol dL_law_321 (by omega) (by omega) ?_
  refine hj_callVi [(hx, .inr (0, [.ref hq, .ref hr, .int (nI sz)])), (hq, .inr (1, [.ref hh, .int (nI n), .ref ho])), hj_ar dA hh len g, (ho, .inr (2, [])), hj_ar dA hr 4096 u, hj_ar dA hk 4096 k] [5, 7] [0, 1, 2, 3, 4, 6] 2 ol.ok dL_law_322 (k_mradix l D dA hm hk hs n sz r2 (xs (6 * c + 1)) (xs (6 * c + 2)) v6) (lw_V q344 q345 q346 q8 q347) (by decide +kernel) rfl 5 rfl rfl ⟨Nat.le_of_ble_eq_true rfl, Nat.le_of_ble_eq_true rfl⟩ ⟨by show _ + 0 ≤ 600128; omega, by show _ + 0 ≤ 7301098; omega⟩ rfl rfl (by decide) (by decide) (by decide) rfl (Nat.le_of_ble_eq_true rfl) (fun z2 u2 hu2 => ?_)
  show J (cells + 5) (slots + 2810) [(hx, .inr (0, [.ref hq, .ref hr, .int (nI sz)])), (hq, .inr (1, [.ref hh, .int (nI n), .ref ho])), hj_ar dA hh len g, (ho, .inr (2, [])), hj_ar dA hr 4096 u, hj_ar dA hk 4096 k, (hm, .inr (3, [.ref hk, .int (nI n), .ref hs, .int (nI sz)])), hj_ar dA hs 4096 u2] 325 [(0, .ref b), (1, .ref hx), (2, .ref hm), (3, .int (nI (6 * c)))] [.int z2, .int z1]
  refine hj_pick [(hx, .inr (0, [.ref hq, .ref hr, .int (nI sz)])), (hq, .inr (1, [.ref hh, .int (nI n), .ref ho])), hj_ar dA hh len g, (ho, .inr (2, [])), hj_ar dA hr 4096 u, (hm, .inr (3, [.ref hk, .int (nI n), .ref hs, .int (nI sz)])), hj_ar dA hk 4096 k, hj_ar dA hs 4096 u2] [0, 1, 2, 3, 4, 6, 5, 7] ol.ok rfl rfl ?_
  refine hj_icmp_eq 341 ol.ok dL_law_325 (by decide) (fun c9 => ?_) (fun c9 => ?_)
  · exact k341 hh len n sz _ _ _ _ _ _ (by omega) (by omega) (hz_inv_sort (f := hz_of (xs (6 * c + 1)) sz) (m := hz_on (xs (6 * c + 2)) sz (hz_of (xs (6 * c + 1)) sz)) ⟨v1, v2, v3, v4, v5, v6, v7⟩ (by
      have q1 := hz_of_le (xs (6 * c + 1)) sz
      have q2 := hz_on_le (xs (6 * c + 2)) sz (hz_of (xs (6 * c + 1)) sz)
      omega) hu.2.1 hu.2.2 hu2.2.1 hu2.2.2)
  · exact absurd (hu.1.trans hu2.1.symm) c9
set_option maxHeartbeats 16000000 in
set_option maxRecDepth 100000 in
theorem k_law_10 {l : Launch} {D : va_G} {dA : ClassId} {J : hj_JT} {b L c hx hq ho hr hm hk hs hh len n sz cells slots : Nat} {xs g r k r2 : Nat → Int32} (ol : hj_OkL l room_1 D dA R_law code 4 b L xs J) (hL : L ≤ 384) (hi : 6 * c + 6 ≤ L) (hcl : cells + 5 ≤ 600128) (hsl : slots + 6144 ≤ 7301098) (hv : hz_inv n len sz g r k r2) (k341 : ∀ (hh len n sz cells2 slots2 : Nat) (g r k r2 : Nat → Int32), cells2 ≤ cells + 5 → slots2 ≤ slots + 6144 → hz_inv n len sz g r k r2 → J cells2 slots2 [(hx, .inr (0, [.ref hq, .ref hr, .int (nI sz)])), (hq, .inr (1, [.ref hh, .int (nI n), .ref ho])), hj_ar dA hh len g, (ho, .inr (2, [])), hj_ar dA hr 4096 r, (hm, .inr (3, [.ref hk, .int (nI n), .ref hs, .int (nI sz)])), hj_ar dA hk 4096 k, hj_ar dA hs 4096 r2] 341 [(0, .ref b), (1, .ref hx), (2, .ref hm), (3, .int (nI (6 * c)))] []) : J cells slots [(hx, .inr (0, [.ref hq, .ref hr, .int (nI sz)])), (hq, .inr (1, [.ref hh, .int (nI n), .ref ho])), hj_ar dA hh len g, (ho, .inr (2, [])), hj_ar dA hr 4096 r, (hm, .inr (3, [.ref hk, .int (nI n), .ref hs, .int (nI sz)])), hj_ar dA hk 4096 k, hj_ar dA hs 4096 r2] 330 [(0, .ref b), (1, .ref hx), (2, .ref hm), (3, .int (nI (6 * c)))] [] := by
  obtain ⟨v1, v2, v3, v4, v5, v6, v7⟩ := hv
  refine hj_aload_n ol.ok dL_law_330 1 rfl rfl ?_
  refine hj_callVv [(hq, .inr (1, [.ref hh, .int (nI n), .ref ho])), hj_ar dA hh len g, (ho, .inr (2, [])), hj_ar dA hr 4096 r, (hm, .inr (3, [.ref hk, .int (nI n), .ref hs, .int (nI sz)])), hj_ar dA hk 4096 k, hj_ar dA hs 4096 r2] [0] [1, 2, 3, 4, 5, 6, 7] 0 ol.ok dL_law_331 (k_xclear l D dA hx hq hr sz) (lw_V q276 q277 q278 q4 q279) (by decide +kernel) rfl 0 rfl rfl ⟨Nat.le_of_ble_eq_true rfl, Nat.le_of_ble_eq_true rfl⟩ ⟨by show _ + 0 ≤ 600128; omega, by show _ + 0 ≤ 7301098; omega⟩ rfl rfl (by decide) (by decide) (by decide) rfl (Nat.le_of_ble_eq_true rfl) (fun _ _ => ?_)
  show J cells slots [(hq, .inr (1, [.ref hh, .int (nI n), .ref ho])), hj_ar dA hh len g, (ho, .inr (2, [])), hj_ar dA hr 4096 r, (hm, .inr (3, [.ref hk, .int (nI n), .ref hs, .int (nI sz)])), hj_ar dA hk 4096 k, hj_ar dA hs 4096 r2, (hx, .inr (0, [.ref hq, .ref hr, .int (nI 0)]))] 334 [(0, .ref b), (1, .ref hx), (2, .ref hm), (3, .int (nI (6 * c)))] []
  refine hj_pick [(hx, .inr (0, [.ref hq, .ref hr, .int (nI 0)])), (hq, .inr (1, [.ref hh, .int (nI n), .ref ho])), hj_ar dA hh len g, (ho, .inr (2, [])), hj_ar dA hr 4096 r, (hm, .inr (3, [.ref hk, .int (nI n), .ref hs, .int (nI sz)])), hj_ar dA hk 4096 k, hj_ar dA hs 4096 r2] [7, 0, 1, 2, 3, 4, 5, 6] ol.ok rfl rfl ?_
  refine hj_aload_n ol.ok dL_law_334 2 rfl rfl ?_
  refine hj_callVv [(hx, .inr (0, [.ref hq, .ref hr, .int (nI 0)])), (hq, .inr (1, [.ref hh, .int (nI n), .ref ho])), hj_ar dA hh len g, (ho, .inr (2, [])), hj_ar dA hr 4096 r, hj_ar dA hk 4096 k, hj_ar dA hs 4096 r2] [5] [0, 1, 2, 3, 4, 6, 7] 0 ol.ok dL_law_335 (k_mclear l D dA hm hk hs n sz) (lw_V q348 q349 q350 q8 q351) (by decide +kernel) rfl 5 rfl rfl ⟨Nat.le_of_ble_eq_true rfl, Nat.le_of_ble_eq_true rfl⟩ ⟨by show _ + 0 ≤ 600128; omega, by show _ + 0 ≤ 7301098; omega⟩ rfl rfl (by decide) (by decide) (by decide) rfl (Nat.le_of_ble_eq_true rfl) (fun _ _ => ?_)
  show J cells slots [(hx, .inr (0, [.ref hq, .ref hr, .int (nI 0)])), (hq, .inr (1, [.ref hh, .int (nI n), .ref ho])), hj_ar dA hh len g, (ho, .inr (2, [])), hj_ar dA hr 4096 r, hj_ar dA hk 4096 k, hj_ar dA hs 4096 r2, (hm, .inr (3, [.ref hk, .int (nI n), .ref hs, .int (nI 0)]))] 338 [(0, .ref b), (1, .ref hx), (2, .ref hm), (3, .int (nI (6 * c)))] []
  refine hj_pick [(hx, .inr (0, [.ref hq, .ref hr, .int (nI 0)])), (hq, .inr (1, [.ref hh, .int (nI n), .ref ho])), hj_ar dA hh len g, (ho, .inr (2, [])), hj_ar dA hr 4096 r, (hm, .inr (3, [.ref hk, .int (nI n), .ref hs, .int (nI 0)])), hj_ar dA hk 4096 k, hj_ar dA hs 4096 r2] [0, 1, 2, 3, 4, 7, 5, 6] ol.ok rfl rfl ?_
  refine hj_goto 341 ol.ok dL_law_338 (by decide) ?_
  exact k341 hh len n 0 _ _ _ _ _ _ (by omega) (by omega) ⟨v1, v2, v3, v4, v5, by omega, fun q hq => absurd hq (Nat.not_lt_zero q)⟩
set_option maxHeartbeats 16000000 in
set_option maxRecDepth 100000 in
theorem k_law_loop {l : Launch} {D : va_G} {dA : ClassId} {J : hj_JT} {b L hx hq ho hr hm hk hs : Nat} {xs : Nat → Int32} (ol : hj_OkL l room_1 D dA R_law code 4 b L xs J) (hL : L ≤ 384)
    (hfin : ∀ (cells slots : Nat) (ws : va_W) (lv : hj_L), cells ≤ 600128 → slots ≤ 7301098 → J cells slots ws 348 lv [.int 1]) :
    ∀ (t c hh len n sz cells slots : Nat) (g r k r2 : Nat → Int32), 64 - c < t → c ≤ 64 → cells ≤ 8 + 5 * c → slots ≤ 12302 + 6144 * c → hz_inv n len sz g r k r2 → J cells slots [(hx, .inr (0, [.ref hq, .ref hr, .int (nI sz)])), (hq, .inr (1, [.ref hh, .int (nI n), .ref ho])), hj_ar dA hh len g, (ho, .inr (2, [])), hj_ar dA hr 4096 r, (hm, .inr (3, [.ref hk, .int (nI n), .ref hs, .int (nI sz)])), hj_ar dA hk 4096 k, hj_ar dA hs 4096 r2] 18 [(0, .ref b), (1, .ref hx), (2, .ref hm), (3, .int (nI (6 * c)))] [] := by
  intro t
  induction t with
  | zero => intro c hh len n sz cells slots g r k r2 h1; omega
  | succ t ih =>
    intro c hh len n sz cells slots g r k r2 ht hc hcl hsl hv
    refine hj_iload_n ol.ok dL_law_18 3 rfl rfl ?_
    refine hj_aload_n ol.ok dL_law_19 0 rfl rfl ?_
    refine hj_slen ol dL_law_20 ?_
    refine hj_bipush (nI 6) ol.ok dL_law_21 (by decide) ?_
    refine hj_isub_e (nI L - nI 6) ol.ok dL_law_23  rfl ?_
    refine hj_icmp_gt 347 ol.ok dL_law_24 (by decide) (fun c1 => ?_) (fun c1 => ?_)
    · refine hj_iconst (nI 1) ol.ok dL_law_347 (by decide) ?_
      exact hfin _ _ _ _ (by omega) (by omega)
    · have hi : 6 * c + 6 ≤ L := by rw [hz_lt, pk_sub_toInt (by omega) (by omega), nI_toInt (by omega)] at c1; omega
      have k341 : ∀ (hh len n sz cells2 slots2 : Nat) (g r k r2 : Nat → Int32), cells2 ≤ cells + 5 → slots2 ≤ slots + 6144 → hz_inv n len sz g r k r2 → J cells2 slots2 [(hx, .inr (0, [.ref hq, .ref hr, .int (nI sz)])), (hq, .inr (1, [.ref hh, .int (nI n), .ref ho])), hj_ar dA hh len g, (ho, .inr (2, [])), hj_ar dA hr 4096 r, (hm, .inr (3, [.ref hk, .int (nI n), .ref hs, .int (nI sz)])), hj_ar dA hk 4096 k, hj_ar dA hs 4096 r2] 341 [(0, .ref b), (1, .ref hx), (2, .ref hm), (3, .int (nI (6 * c)))] [] := by
        intro hh len n sz cells2 slots2 g r k r2 q1 q2 q3
        refine hj_iinc _ [(0, .ref b), (1, .ref hx), (2, .ref hm), (3, .int (nI (6 * (c + 1))))] ol.ok dL_law_341 3 rfl (by show nI (6 * c) + nI 6 = _; rw [nI_add]; rfl) (by decide) rfl ?_
        refine hj_goto 18 ol.ok dL_law_344 (by decide) ?_
        exact ih (c + 1) hh len n sz cells2 slots2 g r k r2 (by omega) (by omega) (by omega) (by omega) q3
      refine hj_aload_n ol.ok dL_law_27 0 rfl rfl ?_
      refine hj_iload_n ol.ok dL_law_28 3 rfl rfl ?_
      refine hj_sld ol dL_law_29 (by omega) (by omega) ?_
      refine hj_bipush (nI 15) ol.ok dL_law_30 (by decide) ?_
      obtain ⟨j, hj, ej⟩ := pk_andE (xs (6 * c)) (m := nI 15) 4 (by decide)
      refine hj_iand_e (nI j) ol.ok dL_law_32  ej ?_
      have hjI : (nI j).toInt = (j : Int) := nI_toInt (by omega)
      by_cases hj11 : 11 ≤ j
      · refine hj_tabOut 341 ol.ok dL_law_33 (Or.inr (by rw [hjI]; omega)) (by decide) ?_
        exact k341 hh len n sz cells slots g r k r2 (by omega) (by omega) hv
      · rcases (show j = 0 ∨ j = 1 ∨ j = 2 ∨ j = 3 ∨ j = 4 ∨ j = 5 ∨ j = 6 ∨ j = 7 ∨ j = 8 ∨ j = 9 ∨ j = 10 by omega) with rfl | rfl | rfl | rfl | rfl | rfl | rfl | rfl | rfl | rfl | rfl
        · refine hj_tabIn 92 ol.ok dL_law_33 (by decide) (by decide) rfl (by decide) ?_
          exact k_law_0 ol hL hi (by omega) (by omega) hv k341
        · refine hj_tabIn 115 ol.ok dL_law_33 (by decide) (by decide) rfl (by decide) ?_
          exact k_law_1 ol hL hi (by omega) (by omega) hv k341
        · refine hj_tabIn 128 ol.ok dL_law_33 (by decide) (by decide) rfl (by decide) ?_
          exact k_law_2 ol hL hi (by omega) (by omega) hv k341
        · refine hj_tabIn 141 ol.ok dL_law_33 (by decide) (by decide) rfl (by decide) ?_
          exact k_law_3 ol hL hi (by omega) (by omega) hv k341
        · refine hj_tabIn 154 ol.ok dL_law_33 (by decide) (by decide) rfl (by decide) ?_
          exact k_law_4 ol hL hi (by omega) (by omega) hv k341
        · refine hj_tabIn 165 ol.ok dL_law_33 (by decide) (by decide) rfl (by decide) ?_
          exact k_law_5 ol hL hi (by omega) (by omega) hv k341
        · refine hj_tabIn 208 ol.ok dL_law_33 (by decide) (by decide) rfl (by decide) ?_
          exact k_law_6 ol hL hi (by omega) (by omega) hv k341
        · refine hj_tabIn 231 ol.ok dL_law_33 (by decide) (by decide) rfl (by decide) ?_
          exact k_law_7 ol hL hi (by omega) (by omega) hv k341
        · refine hj_tabIn 264 ol.ok dL_law_33 (by decide) (by decide) rfl (by decide) ?_
          exact k_law_8 ol hL hi (by omega) (by omega) hv k341
        · refine hj_tabIn 297 ol.ok dL_law_33 (by decide) (by decide) rfl (by decide) ?_
          exact k_law_9 ol hL hi (by omega) (by omega) hv k341
        · refine hj_tabIn 330 ol.ok dL_law_33 (by decide) (by decide) rfl (by decide) ?_
          exact k_law_10 ol hL hi (by omega) (by omega) hv k341
end
section
/-! THE LAW from its entry. printed by gen_start.py -/
set_option maxHeartbeats 16000000 in
set_option maxRecDepth 100000 in
theorem k_law_start {l : Launch} {D : va_G} {dA : ClassId} {J : hj_JT} {b L : Nat} {xs : Nat → Int32} (ol : hj_OkL l room_1 D dA R_law code 4 b L xs J) (ox : hj_OkX l room_1 D dA R_law code 4 false true J) (hL : L ≤ 384)
    (hfin : ∀ (cells slots : Nat) (ws : va_W) (lv : hj_L), cells ≤ 600128 → slots ≤ 7301098 → J cells slots ws 348 lv [.int 1]) : J 0 0 [] 0 [(0, .ref b)] [] := by
  refine hj_new (fs := [.null, .null, .int (nI 0)]) 0 tyX0 ol.ok dL_law_0 in_X0 tyX0_ok q18 q19 q4 rfl (fun j hj => by rcases (show j = 0 ∨ j = 1 ∨ j = 2 by omega) with rfl | rfl | rfl <;> rfl) (Nat.le_of_ble_eq_true rfl) (Nat.le_of_ble_eq_true rfl) (fun hx => ?_)
  show J 1 3 [(hx, .inr (0, [.null, .null, .int (nI 0)]))] 3 [(0, .ref b)] [.ref hx]
  refine hj_dup ol.ok dL_law_3 rfl ?_
  refine hj_callC [] [0] [] 0 ox dL_law_4 (k_xinit l D dA hx) (fun _ => rfl) (lw_meth q22) q4 q20 q21 rfl (by decide +kernel) rfl ⟨Nat.le_of_ble_eq_true rfl, Nat.le_of_ble_eq_true rfl⟩ ⟨Nat.le_of_ble_eq_true rfl, Nat.le_of_ble_eq_true rfl⟩ rfl rfl (by decide) (by decide) (by decide) rfl (Nat.le_of_ble_eq_true rfl) (fun u _ => ?_)
  obtain ⟨hq, hh, ho, hr⟩ := u
  show J 5 4106 [(hx, .inr (0, [.ref hq, .ref hr, .int (nI 0)])), (hq, .inr (1, [.ref hh, .int (nI 0), .ref ho])), hj_ar dA hh 4 (fun _ => 0), (ho, .inr (2, [])), hj_ar dA hr 4096 (fun _ => 0)] 7 [(0, .ref b)] [.ref hx]
  refine hj_astore_n [(0, .ref b), (1, .ref hx)] ol.ok dL_law_7 rfl (by decide) rfl ?_
  refine hj_new (fs := [.null, .int (nI 0), .null, .int (nI 0)]) 3 tyX4 ol.ok dL_law_8 in_X4 tyX4_ok q280 q281 q8 rfl (fun j hj => by rcases (show j = 0 ∨ j = 1 ∨ j = 2 ∨ j = 3 by omega) with rfl | rfl | rfl | rfl <;> rfl) (Nat.le_of_ble_eq_true rfl) (Nat.le_of_ble_eq_true rfl) (fun hm => ?_)
  show J 6 4110 [(hx, .inr (0, [.ref hq, .ref hr, .int (nI 0)])), (hq, .inr (1, [.ref hh, .int (nI 0), .ref ho])), hj_ar dA hh 4 (fun _ => 0), (ho, .inr (2, [])), hj_ar dA hr 4096 (fun _ => 0), (hm, .inr (3, [.null, .int (nI 0), .null, .int (nI 0)]))] 11 [(0, .ref b), (1, .ref hx)] [.ref hm]
  refine hj_dup ol.ok dL_law_11 rfl ?_
  refine hj_callC [(hx, .inr (0, [.ref hq, .ref hr, .int (nI 0)])), (hq, .inr (1, [.ref hh, .int (nI 0), .ref ho])), hj_ar dA hh 4 (fun _ => 0), (ho, .inr (2, [])), hj_ar dA hr 4096 (fun _ => 0)] [5] [0, 1, 2, 3, 4] 0 ox dL_law_12 (k_minit l D dA hm) (fun h => by cases h) (lw_meth q284) q8 q282 q283 rfl (by decide +kernel) rfl ⟨Nat.le_of_ble_eq_true rfl, Nat.le_of_ble_eq_true rfl⟩ ⟨Nat.le_of_ble_eq_true rfl, Nat.le_of_ble_eq_true rfl⟩ rfl rfl (by decide) (by decide) (by decide) rfl (Nat.le_of_ble_eq_true rfl) (fun u _ => ?_)
  obtain ⟨hk, hs⟩ := u
  show J 8 12302 [(hx, .inr (0, [.ref hq, .ref hr, .int (nI 0)])), (hq, .inr (1, [.ref hh, .int (nI 0), .ref ho])), hj_ar dA hh 4 (fun _ => 0), (ho, .inr (2, [])), hj_ar dA hr 4096 (fun _ => 0), (hm, .inr (3, [.ref hk, .int (nI 0), .ref hs, .int (nI 0)])), hj_ar dA hk 4096 (fun _ => 0), hj_ar dA hs 4096 (fun _ => 0)] 15 [(0, .ref b), (1, .ref hx)] [.ref hm]
  refine hj_astore_n [(0, .ref b), (1, .ref hx), (2, .ref hm)] ol.ok dL_law_15 rfl (by decide) rfl ?_
  refine hj_iconst (nI 0) ol.ok dL_law_16 (by decide) ?_
  refine hj_istore_n [(0, .ref b), (1, .ref hx), (2, .ref hm), (3, .int (nI 0))] ol.ok dL_law_17 rfl (by decide) rfl ?_
  exact k_law_loop ol hL hfin 65 0 hh 4 0 0 8 12302 _ _ _ _ (by omega) (by omega) (by omega) (by omega) ⟨by omega, by omega, by omega, fun q q1 q2 => absurd q2 (Nat.not_lt_zero q), fun P => rfl, by omega, fun q hq => absurd hq (Nat.not_lt_zero q)⟩
set_option maxHeartbeats 16000000 in
set_option maxRecDepth 100000 in
theorem whole_start {p : Program} {e : Env} {s : State} {m : MethodId} {below : List Frame} {meth : Method} {c : Code} (l : Launch) (hflags : l.flags = flags0) {b L : Nat} {xs : Nat → Int32} (hL : L ≤ 384) (C0 : lw_At p s m meth c b L xs) : W p l e room_1 s m #[Value.ref b] below meth c s.heap [] 0 0 (lw_Z below #[Value.ref b] s) (entryFrame m ([Value.ref b] : List Value).toArray 4) := by
  obtain ⟨hx, hb, hr, hml, hown, hts0, hSc, hbl, hlocks, hgv⟩ := C0
  have hts : ∀ w ∈ lw_all, w.before #[Value.ref b] s = true := fun w h => hts0 w (lw_all_tbl h)
  have hs := flat_of_before _ hgv
  obtain ⟨c0_, i0_, k0_⟩ := u_known (C := RX0) (T := TX0) (N := 3) (n := 3) hts0 (fun w h => lw_all_tbl (in_X0 w h)) (hts0 _ (lw_all_tbl q19))
  obtain ⟨c1_, i1_, k1_⟩ := u_known (C := RX1) (T := TX1) (N := 3) (n := 3) hts0 (fun w h => lw_all_tbl (in_X1 w h)) (hts0 _ (lw_all_tbl q27))
  obtain ⟨c2_, i2_, k2_⟩ := u_known (C := RX2) (T := hj_T2) (N := 0) (n := 0) hts0 (fun w h => by cases h) (hts0 _ (lw_all_tbl q29))
  obtain ⟨c3_, i3_, k3_⟩ := u_known (C := RX4) (T := TX4) (N := 4) (n := 4) hts0 (fun w h => lw_all_tbl (in_X4 w h)) (hts0 _ (lw_all_tbl q281))
  obtain ⟨dA, kA, comp, hnA, hkA, hkindA⟩ := Cond.arrayClass_spec (hts _ q51)
  have hK : va_K ((fun k => if k = 0 then c0_ else if k = 1 then c1_ else if k = 2 then c2_ else c3_), (fun k => if k = 0 then i0_ else if k = 1 then i1_ else if k = 2 then i2_ else i3_)) hj_cl [(dA, .int)] s := by
    refine ⟨?_, ?_⟩
    · intro k q hq
      match k, hq with
      | 0, hq => cases hq; exact k0_
      | 1, hq => cases hq; exact k1_
      | 2, hq => cases hq; exact k2_
      | 3, hq => cases hq; exact k3_
      | k + 4, hq => simp [hj_cl] at hq
    · intro k q hq
      match k, hq with
      | 0, hq => cases hq; exact ⟨fun n z => ⟨fun k h => (by cases h), kA, hkA, comp, hkindA⟩, hnA⟩
      | k + 1, hq => simp at hq
  have hNA : ∀ a : Nat, a < s.heap.size → ¬ s.heap.size ≤ a := fun a h1 h2 => Nat.not_le.mpr h1 h2
  obtain ⟨e0, he0, -⟩ := va_Tof (N := 0) (f := fun _ => .null) (A := fun q => s.heap.size ≤ q) (tm := .static "IntArrays" "EMPTY_ARRAY" "[I") (ty := .int) (args := #[Value.ref b]) (s := s) (by decide) (hs _ (by decide +kernel)) (va_eqt (z := 0) (hs _ (by decide +kernel))) (fun j hj => absurd hj (Nat.not_lt_zero j)) hNA
  have hZ : hj_Z (fun q => s.heap.size ≤ q) s s.heap := ⟨e0, va_Zref (hts0 _ q40) (hts _ q7) he0 hNA⟩
  have hXX : hj_XX s := by
    refine ⟨va_Fw.of (hts0 _ q96) (hts0 _ q95) (hts0 _ q101) (hts0 _ q99) (hts0 _ q97), va_Fw.of (hts0 _ q115) (hts0 _ q114) (hts0 _ q119) (hts0 _ q118) (hts0 _ q116), va_Nw.of rfl (hs _ (by decide +kernel)), va_Nw.of rfl (hs _ (by decide +kernel)), ?_, va_Nw.of rfl (hts0 _ q107), va_Nw.of rfl (hts0 _ q30), va_Nw.of rfl (hts0 _ q265)⟩
    have h5 : (Cond.landsInDefault RX1 hj_xE hj_yE).before #[Value.ref b] s = true := hs _ (by decide +kernel)
    exact h5
  have hA : ∀ q : Nat, s.heap.size ≤ q → (fun q => s.heap.size ≤ q) q := fun q h => h
  have hl := lv_entry ([.ref b] : List Value) (n := 4) (Nat.le_of_ble_eq_true rfl)
  rw [lg_entry_eq]
  refine k_law_start (J := hj_V p l e room_1 s m #[Value.ref b] below meth c 4 _ (fun q => s.heap.size ≤ q) (lw_Z below #[Value.ref b] s)) (b := b) (xs := xs) ⟨p, e, s, m, _, below, meth, c, _, _, rfl, ⟨hx, hb, hml, hown, hts⟩, hK, hA, hXX, hSc, hbl, hNA b hbl⟩ ⟨p, e, s, m, _, below, meth, c, _, _, rfl, ⟨hx, hb, hml, hown, hts⟩, hK, hA, hXX, (fun h => by cases h), fun _ => hZ⟩ hL ?_ s.heap [] _ (fun k q h => by simp at h) ⟨fun i j p q h => by simp at h, fun k q h => by simp at h⟩ va_S.rf hl
  intro cells slots ws lv h1 h2 H locs ls hP hD hS hl
  refine W.widen h1 h2 ?_
  refine va_forget (fun q hq => hS.2.2 q hq) ?_
  exact lw_ret hx hb hr hlocks dL_law_348
end
section
-- ===== YOUR PART ENDS =====
set_option maxHeartbeats 4000000 in
theorem lw_walk (l : Launch) (hflags : l.flags = flags0) (b : Addr) (xs : List Int32) : MetFree l x (headSpec (Jvm.Cond.code x code maxLocals ret :: tables_1) room_1) (lw_P b xs) (fun _ _ _ _ _ => True) lw_Q := by
  refine MetFree.of_bodyS (code := code) (maxLocals := maxLocals) (ret := ret) (by decide) ?_ ?_
  · intro args s m h hn
    obtain ⟨meth, c, h1, h2, h3, h4, h5, h6, -, -⟩ := Cond.code_spec hn (atoms_spec (ws := Jvm.Cond.code x code maxLocals ret :: tables_1) h _ List.mem_cons_self)
    exact ⟨meth, c, h1, h2, h3, h4, h5, h6⟩
  · intro p e s m args below meth c s₁ B hml0 hP _
    obtain ⟨rfl, hx, hbd, hgv⟩ := hP
    obtain ⟨scr, harrAt, hlist, hof, hsmall⟩ := hx
    obtain ⟨hcb, hkn, -, -⟩ := State.arrayAt?_spec harrAt
    have hown : s.vm.findClass R_law = some m.cls := findClass_of_methodNamed B.named
    have hts0 : ∀ c ∈ (Jvm.Cond.code x code maxLocals ret :: tables_1), c.before #[Value.ref b] s = true := atoms_spec (ws := Jvm.Cond.code x code maxLocals ret :: tables_1) B.pre
    have hts : ∀ w ∈ lw_tbl, w.before #[Value.ref b] s = true := k2_hts_sels lw_privs (fun w hw => hts0 w (List.mem_cons_of_mem _ hw)) lw_privs_ok
    have hml : c.maxLocals = 4 := B.maxLocals_eq (hts0 _ List.mem_cons_self)
    have X₀ : Stand p l e room_1 s m #[Value.ref b] below meth c s₁ [] 0 0 := Stand.of_body B
    have hh0 : s₁.heap = s.heap := by rw [B.state]; rfl
    have hsz : scr.slots.size = xs.length := by rw [← Array.length_toList, hlist, List.length_map]
    have hval : ∀ j : Nat, j < xs.length → scr.slots[j]? = some (.int (xs.getD j 0)) := fun j hj => by
      rw [← Array.getElem?_toList, hlist]
      simp [hj]
    have hbl : b < s.heap.size := (Array.getElem?_eq_some_iff.mp hcb).1
    have hX : va_X b xs.length (fun j => xs.getD j 0) s s.heap := ⟨scr, hcb, hof, hkn, hsz, hval⟩
    have K : W p l e room_1 s m #[Value.ref b] below meth c s₁.heap [] 0 0 (lw_Z below #[Value.ref b] s) (entryFrame m ([Value.ref b] : List Value).toArray 4) := by
      rw [hh0]
      exact whole_start l hflags hbd ⟨B.exec, B.bytes, B.returns, hml, hown, hts, hX, hbl, B.notSynchronized, hgv⟩
    obtain ⟨t, a1, o, b1, b2, b3⟩ := K s₁ rfl X₀
    exact ⟨t, o, a1, b1, b2, b3⟩
theorem lw_pre_spec {args : Array Value} {s : State} (h : (Jvm.Cond.and given_1 narrow_1).before args s = true) (hr : rest_1_c.before args s = true) : ∃ (b : Addr) (xs : List Int32), lw_P b xs args s := by
  have hs := flat_of_before _ h
  have hq := flat_of_before _ hr
  have hc : (Cond.count 1).before args s = true := hs _ (by decide +kernel)
  have harr : (Cond.arrayOf (.arg 0) .int).before args s = true := hs _ (by decide +kernel)
  have hle : (Cond.le (.length (.arg 0)) (.int 384)).before args s = true := hs _ (by decide +kernel)
  have hlen : (Cond.isInt (.length (.arg 0))).before args s = true := hq _ (by decide +kernel)
  have hall : (Cond.all (.arg 0) (.isInt (.elem (.arg 0) (.index 0)))).before args s = true := hq _ (by decide +kernel)
  obtain ⟨b, xs, hb, hx⟩ := State.ints_of_pre rfl harr hlen hall
  have hsm : xs.length < 2 ^ 31 := hx.choose_spec.2.2.2
  have hev : (Term.length (.arg 0)).eval args s none [] s = some (.int xs.length.toInt32) := hx.length_eval hb
  have hv := Cond.le_ints hev (show (Term.int 384).eval args s none [] s = some (.int 384) from rfl)
  have hd : xs.length.toInt32 ≤ 384 := by
    simpa [Cond.before, Cond.holds, hv] using hle
  have hN : xs.length ≤ 384 := (Int32.ofNat_le_ofNat hsm (by decide)).mp (show Int32.ofNat xs.length ≤ Int32.ofNat 384 from hd)
  exact ⟨b, xs, Cond.one_arg hc (show args[0]? = some (.ref b) from hb), hx, hN, h⟩
theorem lw_comes (l : Launch) (hflags : l.flags = flags0) : Comes l x (Jvm.Cond.code x code maxLocals ret :: tables_1) room_1 (fun tb e args s => Calls_1 tb e args s ∧ rest_1 tb e args s ∧ Pre_1 tb e args s)
    (fun _ _ args s o t => lw_Q args s o t) := by
  intro p e ha hc hk s m args below hf hfit hheap happ hpre
  obtain ⟨b, xs, hP⟩ := lw_pre_spec hpre.2.2 hpre.2.1
  obtain ⟨k, o, h1, h2, h3, hQ⟩ := lw_walk l hflags b xs p e ha hc hk s m args below hf ((Spec.applies_iff_loose hf).mp happ).1 hP trivial
  exact ⟨k, o, h1, h2, h3, hQ⟩
theorem lw_frame {s t : State} {o : Outcome} {args : Array Value} (h : Framed s o t [] 600128 7301098) :
    Framed s o t (fieldLocs frame_1_writes args s ++ arrayLocs frame_1_arrays args s ++ staticLocs frame_1_statics s) 600128 7301098 := h
theorem lw_limb (L : Cond) (hL : ∀ (args : Array Value) (s t : State), L.after args s (.returned (some (.int 1))) t = true) :
    ArmFor flags0 classFile x code maxLocals ret World_1 tables_1 room_1 Calls_1 rest_1 Pre_1
      (fun tb e a s o t => postC L tb e a s o t ∧ Framed s o t (fieldLocs frame_1_writes a s ++ arrayLocs frame_1_arrays a s ++ staticLocs frame_1_statics s) 600128 7301098) := by
  intro l hflags _ _ p e ha hc hk s m args below hf hfit hheap happ hpre
  obtain ⟨k, o, h1, h2, h3, rfl, hF⟩ := lw_comes l hflags p e ha hc hk s m args below hf hfit hheap happ hpre
  exact ⟨k, _, h1, h2, h3, hL args s _, lw_frame hF⟩
theorem i_vc : Claimed_1_1 ∧ Claimed_1_2 := ⟨lw_limb limb_1_1 (fun args s t => by simp [limb_1_1, Cond.after, Cond.holds, Cond.value]), lw_limb limb_1_2 (fun args s t => Cond.after_iff.mpr (by
  first | (rw [show limb_1_2 = Cond.eq .result (.int 1) from rfl, Cond.eq_ints (x := 1) (y := 1) rfl rfl]; simp; done) | (simp [limb_1_2, Cond.value, Term.eval]; done)))⟩
end
