section
-- ===== PART A: goes FIRST, ahead of the names: the tables' words, and 'selects' of the private methods out of them =====
/-- a private method of a class that the tables say can be made, by its rows of tables_1 -/
def lw_okq (q : MethodName × Nat) : Prop := (q.1.cls ≠ "java/lang/invoke/MethodHandle" ∧ q.1.cls ≠ "java/lang/invoke/VarHandle") ∧ Cond.instantiable q.1.cls q.2 ∈ tables_1 ∧ Cond.privateMethod q.1 ∈ tables_1 ∧ Cond.instanceMethod q.1 ∈ tables_1
set_option maxRecDepth 100000
theorem lw_t1 {w : Cond} (h : w ∈ tables_1_1) : w ∈ tables_1 := List.mem_append_left _ h
theorem lw_t2 {w : Cond} (h : w ∈ tables_1_2) : w ∈ tables_1 := List.mem_append_right _ h
theorem lw_p0 : lw_okq (⟨"java/lang/Throwable", "fillInStackTrace", "(I)Ljava/lang/Throwable;"⟩, 6) := ⟨⟨by decide +kernel, by decide +kernel⟩, lw_t1 (List.mem_of_getElem? (i := 149) rfl), lw_t1 (List.mem_of_getElem? (i := 147) rfl), lw_t1 (List.mem_of_getElem? (i := 148) rfl)⟩
theorem lw_p1 : lw_okq (⟨"LongHeapDeskModel", "leastAt", "()I"⟩, 2) := ⟨⟨by decide +kernel, by decide +kernel⟩, lw_t1 (List.mem_of_getElem? (i := 212) rfl), lw_t2 (List.mem_of_getElem? (i := 2) rfl), lw_t2 (List.mem_of_getElem? (i := 3) rfl)⟩
def lw_privs_1 : List (MethodName × Nat) := [(⟨"java/lang/Throwable", "fillInStackTrace", "(I)Ljava/lang/Throwable;"⟩, 6), (⟨"LongHeapDeskModel", "leastAt", "()I"⟩, 2)]
theorem lw_r1 : ∀ q ∈ lw_privs_1, lw_okq q := List.forall_mem_cons.mpr ⟨lw_p0, List.forall_mem_cons.mpr ⟨lw_p1, fun _ h => absurd h List.not_mem_nil⟩⟩
def lw_privs : List (MethodName × Nat) := lw_privs_1
def lw_tbl : List Cond := k2_sels lw_privs ++ tables_1
theorem lw_privs_ok : ∀ q ∈ lw_privs, lw_okq q := lw_r1
-- ===== ONE list of words for every method: the tables' words that hold all through a run =====
def lw_all : List Cond := lw_tbl.filter goodWord
/-- a word of the tables by its place: claim/WORDS.tsv -/
theorem lw_w {w : Cond} (i : Nat) (h : lw_tbl[i]? = some w) (g : goodWord w = true) : w ∈ lw_all := List.mem_filter.mpr ⟨List.mem_of_getElem? h, g⟩
theorem lw_all_tbl {w : Cond} (h : w ∈ lw_all) : w ∈ lw_tbl := (List.mem_filter.mp h).1
theorem lw_self : GoodIn lw_all lw_all := fun w h => ⟨h, good_of_word (List.mem_filter.mp h).2⟩
/-- a class's field words, by their places -/
theorem lw_in (ws : List Cond) (ps : List Nat) (hp : ws = ps.filterMap (fun i => lw_tbl[i]?)) (hg : ws.all goodWord = true) : ∀ w ∈ ws, w ∈ lw_all := by
  intro w h
  have h1 := List.all_eq_true.mp hg w h
  rw [hp] at h
  obtain ⟨i, -, hi⟩ := List.mem_filterMap.mp h
  exact lw_w i hi h1
/-- the words of a contract for the method y with code b, L locals, answer r -/
abbrev ws_ (y : MethodName) (b : ByteArray) (L : Nat) (r : Option FieldType) : List Cond := Cond.code y b L r :: lw_all
theorem lw_meth {y : MethodName} {b : ByteArray} {L : Nat} {r : Option FieldType} (h : Cond.code y b L r ∈ lw_all) : GoodIn lw_all (ws_ y b L r) := by
  intro w hw
  rcases List.mem_cons.mp hw with e | e
  · rw [e]
    exact lw_self _ h
  · exact lw_self _ e
theorem lw_app {a c : List Cond} (ha : ∀ w ∈ a, w ∈ lw_all) (hc : GoodIn lw_all c) : GoodIn lw_all (a ++ c) := by
  intro w hw
  rcases List.mem_append.mp hw with e | e
  · exact lw_self w (ha w e)
  · exact hc w e
/-- what a call through an object asks: cwV n hts (lw_V ..) -/
theorem lw_V {own : String} {idx : Nat} {C : String} {y : MethodName} {b : ByteArray} {L : Nat} {r : Option FieldType} (h1 : Cond.methodLink own idx y ∈ lw_all) (h2 : Cond.instanceMethod y ∈ lw_all) (h3 : Cond.selects C y y ∈ lw_all) (h4 : Cond.initialized C ∈ lw_all) (h5 : Cond.code y b L r ∈ lw_all) : GoodIn lw_all (wsV own idx C y (ws_ y b L r)) := by
  refine lw_app ?_ (lw_meth h5)
  intro w hw
  simp only [List.mem_cons, List.not_mem_nil, or_false] at hw
  rcases hw with e | e | e | e
  · rw [e]; exact h1
  · rw [e]; exact h2
  · rw [e]; exact h3
  · rw [e]; exact h4
/-- what a static call asks: va_cwS n hts (lw_S ..) -/
theorem lw_S {own : String} {idx : Nat} {y : MethodName} {b : ByteArray} {L : Nat} {r : Option FieldType} (h1 : Cond.methodLink own idx y ∈ lw_all) (h2 : Cond.static y ∈ lw_all) (h3 : Cond.initialized y.cls ∈ lw_all) (h4 : Cond.code y b L r ∈ lw_all) : GoodIn lw_all (va_wsS own idx y (ws_ y b L r)) := by
  refine lw_app ?_ (lw_meth h4)
  intro w hw
  simp only [List.mem_cons, List.not_mem_nil, or_false] at hw
  rcases hw with e | e | e
  · rw [e]; exact h1
  · rw [e]; exact h2
  · rw [e]; exact h3
/-- the words of a contract for a method WITH HANDLERS (hh: its table) -/
abbrev wsW_ (y : MethodName) (b : ByteArray) (L : Nat) (r : Option FieldType) (hh : List (Nat × Nat × Nat × Nat)) : List Cond := Cond.codeWith y b L r hh :: lw_all
theorem lw_methW {y : MethodName} {b : ByteArray} {L : Nat} {r : Option FieldType} {hh : List (Nat × Nat × Nat × Nat)} (h : Cond.codeWith y b L r hh ∈ lw_all) : GoodIn lw_all (wsW_ y b L r hh) := by
  intro w hw
  rcases List.mem_cons.mp hw with e | e
  · rw [e]
    exact lw_self _ h
  · exact lw_self _ e
/-- any list of words by their places (lw_in), good -/
theorem lw_good {ws : List Cond} (h : ∀ w ∈ ws, w ∈ lw_all) : GoodIn lw_all ws := fun w hw => lw_self w (h w hw)
/-- what a call of a method with handlers asks: vx_cwVW n hts (lw_VW ..), vx_cwSW n hts (lw_SW ..) -/
theorem lw_VW {own : String} {idx : Nat} {C : String} {y : MethodName} {b : ByteArray} {L : Nat} {r : Option FieldType} {hh : List (Nat × Nat × Nat × Nat)} (h1 : Cond.methodLink own idx y ∈ lw_all) (h2 : Cond.instanceMethod y ∈ lw_all) (h3 : Cond.selects C y y ∈ lw_all) (h4 : Cond.initialized C ∈ lw_all) (h5 : Cond.codeWith y b L r hh ∈ lw_all) : GoodIn lw_all (wsV own idx C y (wsW_ y b L r hh)) := by
  refine lw_app ?_ (lw_methW h5)
  intro w hw
  simp only [List.mem_cons, List.not_mem_nil, or_false] at hw
  rcases hw with e | e | e | e
  · rw [e]; exact h1
  · rw [e]; exact h2
  · rw [e]; exact h3
  · rw [e]; exact h4
theorem lw_SW {own : String} {idx : Nat} {y : MethodName} {b : ByteArray} {L : Nat} {r : Option FieldType} {hh : List (Nat × Nat × Nat × Nat)} (h1 : Cond.methodLink own idx y ∈ lw_all) (h2 : Cond.static y ∈ lw_all) (h3 : Cond.initialized y.cls ∈ lw_all) (h4 : Cond.codeWith y b L r hh ∈ lw_all) : GoodIn lw_all (va_wsS own idx y (wsW_ y b L r hh)) := by
  refine lw_app ?_ (lw_methW h4)
  intro w hw
  simp only [List.mem_cons, List.not_mem_nil, or_false] at hw
  rcases hw with e | e | e
  · rw [e]; exact h1
  · rw [e]; exact h2
  · rw [e]; exact h3
/-- a word by its place in its run of the tables -/
theorem lw_at {r : List Cond} (hr : ∀ w ∈ r, w ∈ lw_tbl) {w : Cond} (i : Nat) (h : r[i]? = some w) : w ∈ lw_tbl := hr w (List.mem_of_getElem? h)
theorem lw_g {w : Cond} (h : w ∈ lw_tbl) (g : goodWord w = true) : w ∈ lw_all := List.mem_filter.mpr ⟨h, g⟩
theorem lw_ms : ∀ w ∈ k2_sels lw_privs, w ∈ lw_tbl := fun w h => show w ∈ k2_sels lw_privs ++ tables_1 from List.mem_append_left _ h
theorem lw_m1 : ∀ w ∈ tables_1_1, w ∈ lw_tbl := fun w h => show w ∈ k2_sels lw_privs ++ tables_1 from List.mem_append_right (k2_sels lw_privs) (show w ∈ tables_1 from List.mem_append_left _ h)
theorem lw_m2 : ∀ w ∈ tables_1_2, w ∈ lw_tbl := fun w h => show w ∈ k2_sels lw_privs ++ tables_1 from List.mem_append_right (k2_sels lw_privs) (show w ∈ tables_1 from List.mem_append_right _ h)
theorem qs0 : (Cond.selects "java/lang/Throwable" ⟨"java/lang/Throwable", "fillInStackTrace", "(I)Ljava/lang/Throwable;"⟩ ⟨"java/lang/Throwable", "fillInStackTrace", "(I)Ljava/lang/Throwable;"⟩) ∈ lw_all := lw_g (lw_at lw_ms 0 rfl) rfl
theorem qs1 : (Cond.selects "LongHeapDeskModel" ⟨"LongHeapDeskModel", "leastAt", "()I"⟩ ⟨"LongHeapDeskModel", "leastAt", "()I"⟩) ∈ lw_all := lw_g (lw_at lw_ms 1 rfl) rfl
/-! DECODE ROWS BY BYTES: one lemma an opcode; a method's code is cut into short pieces once, and a row reads its own piece alone. -/
/-- the code has just these bytes from pc on -/
def DkAt (code : ByteArray) (pc : Nat) (bs : List UInt8) : Prop := ∀ (j : Nat) (b : UInt8), bs[j]? = some b → code.data.toList[pc + j]? = some b
/-- the piece W has the bytes bs from its place j on -/
def dkIn (W : List UInt8) (j : Nat) (bs : List UInt8) : Bool := decide ((W.drop j).take bs.length = bs)
theorem dk_seg {l W T : List UInt8} {o o2 : Nat} (h : l.drop o = W ++ T) (n : Nat) (hn : W.length = n) (ho : o + n = o2) : l.drop o2 = T := by
  subst ho
  rw [← List.drop_drop, h, List.drop_left' hn]
theorem dk_at {code : ByteArray} {W T bs : List UInt8} {o pc : Nat} (h : code.data.toList.drop o = W ++ T) (j : Nat) (hp : o + j = pc) (hw : dkIn W j bs = true) : DkAt code pc bs := by
  subst hp
  intro i b e
  have h1 := of_decide_eq_true hw
  have h2 : i < bs.length := (List.getElem?_eq_some_iff.mp e).1
  have h3 : W[j + i]? = some b := by
    rw [← h1, List.getElem?_take, if_pos h2, List.getElem?_drop] at e
    exact e
  have h4 : j + i < W.length := (List.getElem?_eq_some_iff.mp h3).1
  have h5 : (code.data.toList.drop o)[j + i]? = some b := by
    rw [h, List.getElem?_append_left h4]
    exact h3
  rw [List.getElem?_drop, ← Nat.add_assoc] at h5
  exact h5
theorem dk_u1 {A : ByteArray} {p : Nat} {b : UInt8} (h : A.data.toList[p]? = some b) : (Reader.u1 : Reader DecodeError Nat) A p = .ok (b.toNat, p + 1) := by
  obtain ⟨h1, h2⟩ := List.getElem?_eq_some_iff.mp h
  have h3 : p < A.size := by simpa using h1
  have h4 : A[p]'h3 = b := h2
  have e : (Reader.u1 : Reader DecodeError Nat) A p = (if h : p < A.size then .ok (A[p].toNat, p + 1) else .error (HasTruncated.truncated p)) := by
    show (do if h : p < A.size then do set (p + 1); Pure.pure A[p].toNat else MonadExcept.throw (HasTruncated.truncated p) : Reader DecodeError Nat) A p = _
    by_cases hi : p < A.size
    · rw [dif_pos hi, dif_pos hi]; rfl
    · rw [dif_neg hi, dif_neg hi]; rfl
  rw [e, dif_pos h3, h4]
theorem dk_bind {α β : Type} {r : Reader DecodeError α} {f : α → Reader DecodeError β} {A : ByteArray} {p s : Nat} {a : α} (h : r A p = .ok (a, s)) : (r >>= f) A p = f a A s := by
  show (do let (a, s) ← r A p; f a A s : Except DecodeError (β × Nat)) = _
  rw [h]
  rfl
theorem dk_map {α β : Type} {r : Reader DecodeError α} {g : α → β} {A : ByteArray} {p s : Nat} {a : α} (h : r A p = .ok (a, s)) : (g <$> r) A p = .ok (g a, s) := by
  show (do let (a, s) ← r A p; .ok (g a, s) : Except DecodeError (β × Nat)) = _
  rw [h]
  rfl
theorem dk_u2 {A : ByteArray} {p : Nat} {a b : UInt8} (h : A.data.toList[p]? = some a) (h2 : A.data.toList[p + 1]? = some b) : (Reader.u2 : Reader DecodeError Nat) A p = .ok (a.toNat * 256 + b.toNat, p + 2) := by
  show (Reader.u1 >>= fun hi => Reader.u1 >>= fun lo => Pure.pure (hi * 256 + lo) : Reader DecodeError Nat) A p = _
  rw [dk_bind (dk_u1 h), dk_bind (dk_u1 h2)]
  rfl
theorem dk_of {code : ByteArray} {pc n : Nat} {i : Instr} (h : Decoder.instr pc code pc = .ok (i, pc + n)) : decode code pc = .ok (i, n) := by
  have e : decode code pc = (match Decoder.instr pc code pc with | .error x => .error x | .ok (j, s) => .ok (j, s - pc)) := by
    show (do let (j, s) ← Decoder.instr pc code pc; Pure.pure (j, s - pc) : Except DecodeError (Instr × Nat)) = _
    cases Decoder.instr pc code pc <;> rfl
  rw [e, h]
  show Except.ok (i, pc + n - pc) = _
  rw [Nat.add_sub_cancel_left]
theorem dk_1 {code : ByteArray} {pc : Nat} (h : DkAt code pc [1]) : decode code pc = .ok (.aconst_null, 1) := dk_of ((dk_bind (dk_u1 (h 0 _ rfl))).trans rfl)
theorem dk_3 {code : ByteArray} {pc : Nat} (h : DkAt code pc [3]) : decode code pc = .ok (.iconst 0, 1) := dk_of ((dk_bind (dk_u1 (h 0 _ rfl))).trans rfl)
theorem dk_4 {code : ByteArray} {pc : Nat} (h : DkAt code pc [4]) : decode code pc = .ok (.iconst 1, 1) := dk_of ((dk_bind (dk_u1 (h 0 _ rfl))).trans rfl)
theorem dk_5 {code : ByteArray} {pc : Nat} (h : DkAt code pc [5]) : decode code pc = .ok (.iconst 2, 1) := dk_of ((dk_bind (dk_u1 (h 0 _ rfl))).trans rfl)
theorem dk_6 {code : ByteArray} {pc : Nat} (h : DkAt code pc [6]) : decode code pc = .ok (.iconst 3, 1) := dk_of ((dk_bind (dk_u1 (h 0 _ rfl))).trans rfl)
theorem dk_9 {code : ByteArray} {pc : Nat} (h : DkAt code pc [9]) : decode code pc = .ok (.lconst 0, 1) := dk_of ((dk_bind (dk_u1 (h 0 _ rfl))).trans rfl)
theorem dk_16 {code : ByteArray} {pc : Nat} (a : UInt8) (h : DkAt code pc [16, a]) : decode code pc = .ok (.bipush (Reader.signed 8 a.toNat), 2) := dk_of ((dk_bind (dk_u1 (h 0 _ rfl))).trans ((dk_bind (dk_map (dk_u1 (h 1 _ rfl)))).trans rfl))
theorem dk_17 {code : ByteArray} {pc : Nat} (a b : UInt8) (h : DkAt code pc [17, a, b]) : decode code pc = .ok (.sipush (Reader.signed 16 (a.toNat * 256 + b.toNat)), 3) := dk_of ((dk_bind (dk_u1 (h 0 _ rfl))).trans ((dk_bind (dk_map (dk_u2 (h 1 _ rfl) (h 2 _ rfl)))).trans rfl))
theorem dk_20 {code : ByteArray} {pc : Nat} (a b : UInt8) (h : DkAt code pc [20, a, b]) : decode code pc = .ok (.ldc2_w (a.toNat * 256 + b.toNat), 3) := dk_of ((dk_bind (dk_u1 (h 0 _ rfl))).trans ((dk_bind (dk_u2 (h 1 _ rfl) (h 2 _ rfl))).trans rfl))
theorem dk_21 {code : ByteArray} {pc : Nat} (a : UInt8) (h : DkAt code pc [21, a]) : decode code pc = .ok (.iload a.toNat, 2) := dk_of ((dk_bind (dk_u1 (h 0 _ rfl))).trans ((dk_bind (dk_u1 (h 1 _ rfl))).trans rfl))
theorem dk_22 {code : ByteArray} {pc : Nat} (a : UInt8) (h : DkAt code pc [22, a]) : decode code pc = .ok (.lload a.toNat, 2) := dk_of ((dk_bind (dk_u1 (h 0 _ rfl))).trans ((dk_bind (dk_u1 (h 1 _ rfl))).trans rfl))
theorem dk_25 {code : ByteArray} {pc : Nat} (a : UInt8) (h : DkAt code pc [25, a]) : decode code pc = .ok (.aload a.toNat, 2) := dk_of ((dk_bind (dk_u1 (h 0 _ rfl))).trans ((dk_bind (dk_u1 (h 1 _ rfl))).trans rfl))
theorem dk_26 {code : ByteArray} {pc : Nat} (h : DkAt code pc [26]) : decode code pc = .ok (.iload_n 0, 1) := dk_of ((dk_bind (dk_u1 (h 0 _ rfl))).trans rfl)
theorem dk_27 {code : ByteArray} {pc : Nat} (h : DkAt code pc [27]) : decode code pc = .ok (.iload_n 1, 1) := dk_of ((dk_bind (dk_u1 (h 0 _ rfl))).trans rfl)
theorem dk_28 {code : ByteArray} {pc : Nat} (h : DkAt code pc [28]) : decode code pc = .ok (.iload_n 2, 1) := dk_of ((dk_bind (dk_u1 (h 0 _ rfl))).trans rfl)
theorem dk_29 {code : ByteArray} {pc : Nat} (h : DkAt code pc [29]) : decode code pc = .ok (.iload_n 3, 1) := dk_of ((dk_bind (dk_u1 (h 0 _ rfl))).trans rfl)
theorem dk_30 {code : ByteArray} {pc : Nat} (h : DkAt code pc [30]) : decode code pc = .ok (.lload_n 0, 1) := dk_of ((dk_bind (dk_u1 (h 0 _ rfl))).trans rfl)
theorem dk_31 {code : ByteArray} {pc : Nat} (h : DkAt code pc [31]) : decode code pc = .ok (.lload_n 1, 1) := dk_of ((dk_bind (dk_u1 (h 0 _ rfl))).trans rfl)
theorem dk_32 {code : ByteArray} {pc : Nat} (h : DkAt code pc [32]) : decode code pc = .ok (.lload_n 2, 1) := dk_of ((dk_bind (dk_u1 (h 0 _ rfl))).trans rfl)
theorem dk_42 {code : ByteArray} {pc : Nat} (h : DkAt code pc [42]) : decode code pc = .ok (.aload_n 0, 1) := dk_of ((dk_bind (dk_u1 (h 0 _ rfl))).trans rfl)
theorem dk_43 {code : ByteArray} {pc : Nat} (h : DkAt code pc [43]) : decode code pc = .ok (.aload_n 1, 1) := dk_of ((dk_bind (dk_u1 (h 0 _ rfl))).trans rfl)
theorem dk_44 {code : ByteArray} {pc : Nat} (h : DkAt code pc [44]) : decode code pc = .ok (.aload_n 2, 1) := dk_of ((dk_bind (dk_u1 (h 0 _ rfl))).trans rfl)
theorem dk_45 {code : ByteArray} {pc : Nat} (h : DkAt code pc [45]) : decode code pc = .ok (.aload_n 3, 1) := dk_of ((dk_bind (dk_u1 (h 0 _ rfl))).trans rfl)
theorem dk_46 {code : ByteArray} {pc : Nat} (h : DkAt code pc [46]) : decode code pc = .ok (.iaload, 1) := dk_of ((dk_bind (dk_u1 (h 0 _ rfl))).trans rfl)
theorem dk_47 {code : ByteArray} {pc : Nat} (h : DkAt code pc [47]) : decode code pc = .ok (.laload, 1) := dk_of ((dk_bind (dk_u1 (h 0 _ rfl))).trans rfl)
theorem dk_54 {code : ByteArray} {pc : Nat} (a : UInt8) (h : DkAt code pc [54, a]) : decode code pc = .ok (.istore a.toNat, 2) := dk_of ((dk_bind (dk_u1 (h 0 _ rfl))).trans ((dk_bind (dk_u1 (h 1 _ rfl))).trans rfl))
theorem dk_55 {code : ByteArray} {pc : Nat} (a : UInt8) (h : DkAt code pc [55, a]) : decode code pc = .ok (.lstore a.toNat, 2) := dk_of ((dk_bind (dk_u1 (h 0 _ rfl))).trans ((dk_bind (dk_u1 (h 1 _ rfl))).trans rfl))
theorem dk_58 {code : ByteArray} {pc : Nat} (a : UInt8) (h : DkAt code pc [58, a]) : decode code pc = .ok (.astore a.toNat, 2) := dk_of ((dk_bind (dk_u1 (h 0 _ rfl))).trans ((dk_bind (dk_u1 (h 1 _ rfl))).trans rfl))
theorem dk_60 {code : ByteArray} {pc : Nat} (h : DkAt code pc [60]) : decode code pc = .ok (.istore_n 1, 1) := dk_of ((dk_bind (dk_u1 (h 0 _ rfl))).trans rfl)
theorem dk_61 {code : ByteArray} {pc : Nat} (h : DkAt code pc [61]) : decode code pc = .ok (.istore_n 2, 1) := dk_of ((dk_bind (dk_u1 (h 0 _ rfl))).trans rfl)
theorem dk_62 {code : ByteArray} {pc : Nat} (h : DkAt code pc [62]) : decode code pc = .ok (.istore_n 3, 1) := dk_of ((dk_bind (dk_u1 (h 0 _ rfl))).trans rfl)
theorem dk_64 {code : ByteArray} {pc : Nat} (h : DkAt code pc [64]) : decode code pc = .ok (.lstore_n 1, 1) := dk_of ((dk_bind (dk_u1 (h 0 _ rfl))).trans rfl)
theorem dk_65 {code : ByteArray} {pc : Nat} (h : DkAt code pc [65]) : decode code pc = .ok (.lstore_n 2, 1) := dk_of ((dk_bind (dk_u1 (h 0 _ rfl))).trans rfl)
theorem dk_76 {code : ByteArray} {pc : Nat} (h : DkAt code pc [76]) : decode code pc = .ok (.astore_n 1, 1) := dk_of ((dk_bind (dk_u1 (h 0 _ rfl))).trans rfl)
theorem dk_77 {code : ByteArray} {pc : Nat} (h : DkAt code pc [77]) : decode code pc = .ok (.astore_n 2, 1) := dk_of ((dk_bind (dk_u1 (h 0 _ rfl))).trans rfl)
theorem dk_80 {code : ByteArray} {pc : Nat} (h : DkAt code pc [80]) : decode code pc = .ok (.lastore, 1) := dk_of ((dk_bind (dk_u1 (h 0 _ rfl))).trans rfl)
theorem dk_87 {code : ByteArray} {pc : Nat} (h : DkAt code pc [87]) : decode code pc = .ok (.pop, 1) := dk_of ((dk_bind (dk_u1 (h 0 _ rfl))).trans rfl)
theorem dk_89 {code : ByteArray} {pc : Nat} (h : DkAt code pc [89]) : decode code pc = .ok (.dup, 1) := dk_of ((dk_bind (dk_u1 (h 0 _ rfl))).trans rfl)
theorem dk_90 {code : ByteArray} {pc : Nat} (h : DkAt code pc [90]) : decode code pc = .ok (.dup_x1, 1) := dk_of ((dk_bind (dk_u1 (h 0 _ rfl))).trans rfl)
theorem dk_96 {code : ByteArray} {pc : Nat} (h : DkAt code pc [96]) : decode code pc = .ok (.iadd, 1) := dk_of ((dk_bind (dk_u1 (h 0 _ rfl))).trans rfl)
theorem dk_97 {code : ByteArray} {pc : Nat} (h : DkAt code pc [97]) : decode code pc = .ok (.ladd, 1) := dk_of ((dk_bind (dk_u1 (h 0 _ rfl))).trans rfl)
theorem dk_100 {code : ByteArray} {pc : Nat} (h : DkAt code pc [100]) : decode code pc = .ok (.isub, 1) := dk_of ((dk_bind (dk_u1 (h 0 _ rfl))).trans rfl)
theorem dk_105 {code : ByteArray} {pc : Nat} (h : DkAt code pc [105]) : decode code pc = .ok (.lmul, 1) := dk_of ((dk_bind (dk_u1 (h 0 _ rfl))).trans rfl)
theorem dk_120 {code : ByteArray} {pc : Nat} (h : DkAt code pc [120]) : decode code pc = .ok (.ishl, 1) := dk_of ((dk_bind (dk_u1 (h 0 _ rfl))).trans rfl)
theorem dk_121 {code : ByteArray} {pc : Nat} (h : DkAt code pc [121]) : decode code pc = .ok (.lshl, 1) := dk_of ((dk_bind (dk_u1 (h 0 _ rfl))).trans rfl)
theorem dk_122 {code : ByteArray} {pc : Nat} (h : DkAt code pc [122]) : decode code pc = .ok (.ishr, 1) := dk_of ((dk_bind (dk_u1 (h 0 _ rfl))).trans rfl)
theorem dk_124 {code : ByteArray} {pc : Nat} (h : DkAt code pc [124]) : decode code pc = .ok (.iushr, 1) := dk_of ((dk_bind (dk_u1 (h 0 _ rfl))).trans rfl)
theorem dk_126 {code : ByteArray} {pc : Nat} (h : DkAt code pc [126]) : decode code pc = .ok (.iand, 1) := dk_of ((dk_bind (dk_u1 (h 0 _ rfl))).trans rfl)
theorem dk_127 {code : ByteArray} {pc : Nat} (h : DkAt code pc [127]) : decode code pc = .ok (.land, 1) := dk_of ((dk_bind (dk_u1 (h 0 _ rfl))).trans rfl)
theorem dk_129 {code : ByteArray} {pc : Nat} (h : DkAt code pc [129]) : decode code pc = .ok (.lor, 1) := dk_of ((dk_bind (dk_u1 (h 0 _ rfl))).trans rfl)
theorem dk_132 {code : ByteArray} {pc : Nat} (a b : UInt8) (h : DkAt code pc [132, a, b]) : decode code pc = .ok (.iinc a.toNat (Reader.signed 8 b.toNat), 3) := dk_of ((dk_bind (dk_u1 (h 0 _ rfl))).trans ((dk_bind (dk_u1 (h 1 _ rfl))).trans ((dk_bind (dk_map (dk_u1 (h 2 _ rfl)))).trans rfl)))
theorem dk_133 {code : ByteArray} {pc : Nat} (h : DkAt code pc [133]) : decode code pc = .ok (.i2l, 1) := dk_of ((dk_bind (dk_u1 (h 0 _ rfl))).trans rfl)
theorem dk_136 {code : ByteArray} {pc : Nat} (h : DkAt code pc [136]) : decode code pc = .ok (.l2i, 1) := dk_of ((dk_bind (dk_u1 (h 0 _ rfl))).trans rfl)
theorem dk_148 {code : ByteArray} {pc : Nat} (h : DkAt code pc [148]) : decode code pc = .ok (.lcmp, 1) := dk_of ((dk_bind (dk_u1 (h 0 _ rfl))).trans rfl)
theorem dk_153 {code : ByteArray} {pc : Nat} (a b : UInt8) (h : DkAt code pc [153, a, b]) : decode code pc = .ok (.ifCond .eq (Reader.signed 16 (a.toNat * 256 + b.toNat)), 3) := dk_of ((dk_bind (dk_u1 (h 0 _ rfl))).trans ((dk_bind (dk_map (dk_u2 (h 1 _ rfl) (h 2 _ rfl)))).trans rfl))
theorem dk_154 {code : ByteArray} {pc : Nat} (a b : UInt8) (h : DkAt code pc [154, a, b]) : decode code pc = .ok (.ifCond .ne (Reader.signed 16 (a.toNat * 256 + b.toNat)), 3) := dk_of ((dk_bind (dk_u1 (h 0 _ rfl))).trans ((dk_bind (dk_map (dk_u2 (h 1 _ rfl) (h 2 _ rfl)))).trans rfl))
theorem dk_155 {code : ByteArray} {pc : Nat} (a b : UInt8) (h : DkAt code pc [155, a, b]) : decode code pc = .ok (.ifCond .lt (Reader.signed 16 (a.toNat * 256 + b.toNat)), 3) := dk_of ((dk_bind (dk_u1 (h 0 _ rfl))).trans ((dk_bind (dk_map (dk_u2 (h 1 _ rfl) (h 2 _ rfl)))).trans rfl))
theorem dk_156 {code : ByteArray} {pc : Nat} (a b : UInt8) (h : DkAt code pc [156, a, b]) : decode code pc = .ok (.ifCond .ge (Reader.signed 16 (a.toNat * 256 + b.toNat)), 3) := dk_of ((dk_bind (dk_u1 (h 0 _ rfl))).trans ((dk_bind (dk_map (dk_u2 (h 1 _ rfl) (h 2 _ rfl)))).trans rfl))
theorem dk_157 {code : ByteArray} {pc : Nat} (a b : UInt8) (h : DkAt code pc [157, a, b]) : decode code pc = .ok (.ifCond .gt (Reader.signed 16 (a.toNat * 256 + b.toNat)), 3) := dk_of ((dk_bind (dk_u1 (h 0 _ rfl))).trans ((dk_bind (dk_map (dk_u2 (h 1 _ rfl) (h 2 _ rfl)))).trans rfl))
theorem dk_158 {code : ByteArray} {pc : Nat} (a b : UInt8) (h : DkAt code pc [158, a, b]) : decode code pc = .ok (.ifCond .le (Reader.signed 16 (a.toNat * 256 + b.toNat)), 3) := dk_of ((dk_bind (dk_u1 (h 0 _ rfl))).trans ((dk_bind (dk_map (dk_u2 (h 1 _ rfl) (h 2 _ rfl)))).trans rfl))
theorem dk_159 {code : ByteArray} {pc : Nat} (a b : UInt8) (h : DkAt code pc [159, a, b]) : decode code pc = .ok (.if_icmp .eq (Reader.signed 16 (a.toNat * 256 + b.toNat)), 3) := dk_of ((dk_bind (dk_u1 (h 0 _ rfl))).trans ((dk_bind (dk_map (dk_u2 (h 1 _ rfl) (h 2 _ rfl)))).trans rfl))
theorem dk_160 {code : ByteArray} {pc : Nat} (a b : UInt8) (h : DkAt code pc [160, a, b]) : decode code pc = .ok (.if_icmp .ne (Reader.signed 16 (a.toNat * 256 + b.toNat)), 3) := dk_of ((dk_bind (dk_u1 (h 0 _ rfl))).trans ((dk_bind (dk_map (dk_u2 (h 1 _ rfl) (h 2 _ rfl)))).trans rfl))
theorem dk_161 {code : ByteArray} {pc : Nat} (a b : UInt8) (h : DkAt code pc [161, a, b]) : decode code pc = .ok (.if_icmp .lt (Reader.signed 16 (a.toNat * 256 + b.toNat)), 3) := dk_of ((dk_bind (dk_u1 (h 0 _ rfl))).trans ((dk_bind (dk_map (dk_u2 (h 1 _ rfl) (h 2 _ rfl)))).trans rfl))
theorem dk_162 {code : ByteArray} {pc : Nat} (a b : UInt8) (h : DkAt code pc [162, a, b]) : decode code pc = .ok (.if_icmp .ge (Reader.signed 16 (a.toNat * 256 + b.toNat)), 3) := dk_of ((dk_bind (dk_u1 (h 0 _ rfl))).trans ((dk_bind (dk_map (dk_u2 (h 1 _ rfl) (h 2 _ rfl)))).trans rfl))
theorem dk_163 {code : ByteArray} {pc : Nat} (a b : UInt8) (h : DkAt code pc [163, a, b]) : decode code pc = .ok (.if_icmp .gt (Reader.signed 16 (a.toNat * 256 + b.toNat)), 3) := dk_of ((dk_bind (dk_u1 (h 0 _ rfl))).trans ((dk_bind (dk_map (dk_u2 (h 1 _ rfl) (h 2 _ rfl)))).trans rfl))
theorem dk_164 {code : ByteArray} {pc : Nat} (a b : UInt8) (h : DkAt code pc [164, a, b]) : decode code pc = .ok (.if_icmp .le (Reader.signed 16 (a.toNat * 256 + b.toNat)), 3) := dk_of ((dk_bind (dk_u1 (h 0 _ rfl))).trans ((dk_bind (dk_map (dk_u2 (h 1 _ rfl) (h 2 _ rfl)))).trans rfl))
theorem dk_167 {code : ByteArray} {pc : Nat} (a b : UInt8) (h : DkAt code pc [167, a, b]) : decode code pc = .ok (.goto (Reader.signed 16 (a.toNat * 256 + b.toNat)), 3) := dk_of ((dk_bind (dk_u1 (h 0 _ rfl))).trans ((dk_bind (dk_map (dk_u2 (h 1 _ rfl) (h 2 _ rfl)))).trans rfl))
theorem dk_172 {code : ByteArray} {pc : Nat} (h : DkAt code pc [172]) : decode code pc = .ok (.ireturn, 1) := dk_of ((dk_bind (dk_u1 (h 0 _ rfl))).trans rfl)
theorem dk_173 {code : ByteArray} {pc : Nat} (h : DkAt code pc [173]) : decode code pc = .ok (.lreturn, 1) := dk_of ((dk_bind (dk_u1 (h 0 _ rfl))).trans rfl)
theorem dk_176 {code : ByteArray} {pc : Nat} (h : DkAt code pc [176]) : decode code pc = .ok (.areturn, 1) := dk_of ((dk_bind (dk_u1 (h 0 _ rfl))).trans rfl)
theorem dk_177 {code : ByteArray} {pc : Nat} (h : DkAt code pc [177]) : decode code pc = .ok (.return_, 1) := dk_of ((dk_bind (dk_u1 (h 0 _ rfl))).trans rfl)
theorem dk_178 {code : ByteArray} {pc : Nat} (a b : UInt8) (h : DkAt code pc [178, a, b]) : decode code pc = .ok (.getstatic (a.toNat * 256 + b.toNat), 3) := dk_of ((dk_bind (dk_u1 (h 0 _ rfl))).trans ((dk_bind (dk_u2 (h 1 _ rfl) (h 2 _ rfl))).trans rfl))
theorem dk_180 {code : ByteArray} {pc : Nat} (a b : UInt8) (h : DkAt code pc [180, a, b]) : decode code pc = .ok (.getfield (a.toNat * 256 + b.toNat), 3) := dk_of ((dk_bind (dk_u1 (h 0 _ rfl))).trans ((dk_bind (dk_u2 (h 1 _ rfl) (h 2 _ rfl))).trans rfl))
theorem dk_181 {code : ByteArray} {pc : Nat} (a b : UInt8) (h : DkAt code pc [181, a, b]) : decode code pc = .ok (.putfield (a.toNat * 256 + b.toNat), 3) := dk_of ((dk_bind (dk_u1 (h 0 _ rfl))).trans ((dk_bind (dk_u2 (h 1 _ rfl) (h 2 _ rfl))).trans rfl))
theorem dk_182 {code : ByteArray} {pc : Nat} (a b : UInt8) (h : DkAt code pc [182, a, b]) : decode code pc = .ok (.invokevirtual (a.toNat * 256 + b.toNat), 3) := dk_of ((dk_bind (dk_u1 (h 0 _ rfl))).trans ((dk_bind (dk_u2 (h 1 _ rfl) (h 2 _ rfl))).trans rfl))
theorem dk_183 {code : ByteArray} {pc : Nat} (a b : UInt8) (h : DkAt code pc [183, a, b]) : decode code pc = .ok (.invokespecial (a.toNat * 256 + b.toNat), 3) := dk_of ((dk_bind (dk_u1 (h 0 _ rfl))).trans ((dk_bind (dk_u2 (h 1 _ rfl) (h 2 _ rfl))).trans rfl))
theorem dk_184 {code : ByteArray} {pc : Nat} (a b : UInt8) (h : DkAt code pc [184, a, b]) : decode code pc = .ok (.invokestatic (a.toNat * 256 + b.toNat), 3) := dk_of ((dk_bind (dk_u1 (h 0 _ rfl))).trans ((dk_bind (dk_u2 (h 1 _ rfl) (h 2 _ rfl))).trans rfl))
theorem dk_187 {code : ByteArray} {pc : Nat} (a b : UInt8) (h : DkAt code pc [187, a, b]) : decode code pc = .ok (.new (a.toNat * 256 + b.toNat), 3) := dk_of ((dk_bind (dk_u1 (h 0 _ rfl))).trans ((dk_bind (dk_u2 (h 1 _ rfl) (h 2 _ rfl))).trans rfl))
theorem dk_188_11 {code : ByteArray} {pc : Nat} (h : DkAt code pc [188, 11]) : decode code pc = .ok (.newarray .long, 2) := dk_of ((dk_bind (dk_u1 (h 0 _ rfl))).trans ((dk_bind (dk_u1 (h 1 _ rfl))).trans rfl))
theorem dk_190 {code : ByteArray} {pc : Nat} (h : DkAt code pc [190]) : decode code pc = .ok (.arraylength, 1) := dk_of ((dk_bind (dk_u1 (h 0 _ rfl))).trans rfl)
theorem dk_191 {code : ByteArray} {pc : Nat} (h : DkAt code pc [191]) : decode code pc = .ok (.athrow, 1) := dk_of ((dk_bind (dk_u1 (h 0 _ rfl))).trans rfl)
theorem dk_199 {code : ByteArray} {pc : Nat} (a b : UInt8) (h : DkAt code pc [199, a, b]) : decode code pc = .ok (.ifnonnull (Reader.signed 16 (a.toNat * 256 + b.toNat)), 3) := dk_of ((dk_bind (dk_u1 (h 0 _ rfl))).trans ((dk_bind (dk_map (dk_u2 (h 1 _ rfl) (h 2 _ rfl)))).trans rfl))
/-! LongHeapDesk -/
def RX0 : String := "LongHeapDesk"
def TX0 : u_T := fun k => match k with
  | _ => ("LongHeapDesk", "heap", "LLongHeapPriorityQueue;", false)
def tyX0 : Nat → FieldType := fun k => match k with
  | _ => .object "LongHeapPriorityQueue"
abbrev wsX00 : List Cond := u_ws RX0 TX0 1
theorem nmX0 : ∀ a, a < 1 → ∀ b, b < 1 → a ≠ b → (TX0 a).2.1 ≠ (TX0 b).2.1 := by decide +kernel
theorem tyX0_ok : ∀ k, k < 1 → parseFieldDescriptor (TX0 k).2.2.1 = some (tyX0 k) := by decide +kernel
abbrev cX0_init : ByteArray := prog_3_method_1_code
def yX0_init : MethodName := ⟨RX0, "<init>", "()V"⟩
def dkwX0_init_0 : List UInt8 := [42, 183, 0, 1, 42, 187, 0, 7, 89, 183, 0, 9, 181, 0, 10, 177]
abbrev dktX0_init_0 : List UInt8 := dkwX0_init_0 ++ []
theorem dksX0_init_0 : cX0_init.data.toList.drop 0 = dktX0_init_0 := by decide +kernel
theorem dX0_init_0 : decode cX0_init 0 = .ok (.aload_n 0, 1) := dk_42 (dk_at dksX0_init_0 0 rfl rfl)
theorem dX0_init_1 : decode cX0_init 1 = .ok (.invokespecial 1, 3) := dk_183 0 1 (dk_at dksX0_init_0 1 rfl rfl)
theorem dX0_init_4 : decode cX0_init 4 = .ok (.aload_n 0, 1) := dk_42 (dk_at dksX0_init_0 4 rfl rfl)
theorem dX0_init_5 : decode cX0_init 5 = .ok (.new 7, 3) := dk_187 0 7 (dk_at dksX0_init_0 5 rfl rfl)
theorem dX0_init_8 : decode cX0_init 8 = .ok (.dup, 1) := dk_89 (dk_at dksX0_init_0 8 rfl rfl)
theorem dX0_init_9 : decode cX0_init 9 = .ok (.invokespecial 9, 3) := dk_183 0 9 (dk_at dksX0_init_0 9 rfl rfl)
theorem dX0_init_12 : decode cX0_init 12 = .ok (.putfield 10, 3) := dk_181 0 10 (dk_at dksX0_init_0 12 rfl rfl)
theorem dX0_init_15 : decode cX0_init 15 = .ok (.return_, 1) := dk_177 (dk_at dksX0_init_0 15 rfl rfl)
abbrev cX0_enter : ByteArray := prog_3_method_3_code
def yX0_enter : MethodName := ⟨RX0, "enter", "(II)Z"⟩
def dkwX0_enter_1 : List UInt8 := [182, 0, 26, 4, 172]
abbrev dktX0_enter_1 : List UInt8 := dkwX0_enter_1 ++ []
def dkwX0_enter_0 : List UInt8 := [42, 180, 0, 10, 182, 0, 18, 17, 0, 200, 161, 0, 5, 3, 172, 42, 180, 0, 10, 27, 28, 184, 0, 22]
abbrev dktX0_enter_0 : List UInt8 := dkwX0_enter_0 ++ dktX0_enter_1
theorem dksX0_enter_0 : cX0_enter.data.toList.drop 0 = dktX0_enter_0 := by decide +kernel
theorem dksX0_enter_1 : cX0_enter.data.toList.drop 24 = dktX0_enter_1 := dk_seg dksX0_enter_0 24 rfl rfl
theorem dX0_enter_0 : decode cX0_enter 0 = .ok (.aload_n 0, 1) := dk_42 (dk_at dksX0_enter_0 0 rfl rfl)
theorem dX0_enter_1 : decode cX0_enter 1 = .ok (.getfield 10, 3) := dk_180 0 10 (dk_at dksX0_enter_0 1 rfl rfl)
theorem dX0_enter_4 : decode cX0_enter 4 = .ok (.invokevirtual 18, 3) := dk_182 0 18 (dk_at dksX0_enter_0 4 rfl rfl)
theorem dX0_enter_7 : decode cX0_enter 7 = .ok (.sipush 200, 3) := dk_17 0 200 (dk_at dksX0_enter_0 7 rfl rfl)
theorem dX0_enter_10 : decode cX0_enter 10 = .ok (.if_icmp .lt 5, 3) := dk_161 0 5 (dk_at dksX0_enter_0 10 rfl rfl)
theorem dX0_enter_13 : decode cX0_enter 13 = .ok (.iconst 0, 1) := dk_3 (dk_at dksX0_enter_0 13 rfl rfl)
theorem dX0_enter_14 : decode cX0_enter 14 = .ok (.ireturn, 1) := dk_172 (dk_at dksX0_enter_0 14 rfl rfl)
theorem dX0_enter_15 : decode cX0_enter 15 = .ok (.aload_n 0, 1) := dk_42 (dk_at dksX0_enter_0 15 rfl rfl)
theorem dX0_enter_16 : decode cX0_enter 16 = .ok (.getfield 10, 3) := dk_180 0 10 (dk_at dksX0_enter_0 16 rfl rfl)
theorem dX0_enter_19 : decode cX0_enter 19 = .ok (.iload_n 1, 1) := dk_27 (dk_at dksX0_enter_0 19 rfl rfl)
theorem dX0_enter_20 : decode cX0_enter 20 = .ok (.iload_n 2, 1) := dk_28 (dk_at dksX0_enter_0 20 rfl rfl)
theorem dX0_enter_21 : decode cX0_enter 21 = .ok (.invokestatic 22, 3) := dk_184 0 22 (dk_at dksX0_enter_0 21 rfl rfl)
theorem dX0_enter_24 : decode cX0_enter 24 = .ok (.invokevirtual 26, 3) := dk_182 0 26 (dk_at dksX0_enter_1 0 rfl rfl)
theorem dX0_enter_27 : decode cX0_enter 27 = .ok (.iconst 1, 1) := dk_4 (dk_at dksX0_enter_1 3 rfl rfl)
theorem dX0_enter_28 : decode cX0_enter 28 = .ok (.ireturn, 1) := dk_172 (dk_at dksX0_enter_1 4 rfl rfl)
abbrev cX0_of : ByteArray := prog_3_method_2_code
def yX0_of : MethodName := ⟨RX0, "of", "(II)J"⟩
def dkwX0_of_0 : List UInt8 := [26, 133, 16, 32, 121, 27, 133, 20, 0, 16, 127, 129, 173]
abbrev dktX0_of_0 : List UInt8 := dkwX0_of_0 ++ []
theorem dksX0_of_0 : cX0_of.data.toList.drop 0 = dktX0_of_0 := by decide +kernel
theorem dX0_of_0 : decode cX0_of 0 = .ok (.iload_n 0, 1) := dk_26 (dk_at dksX0_of_0 0 rfl rfl)
theorem dX0_of_1 : decode cX0_of 1 = .ok (.i2l, 1) := dk_133 (dk_at dksX0_of_0 1 rfl rfl)
theorem dX0_of_2 : decode cX0_of 2 = .ok (.bipush 32, 2) := dk_16 32 (dk_at dksX0_of_0 2 rfl rfl)
theorem dX0_of_4 : decode cX0_of 4 = .ok (.lshl, 1) := dk_121 (dk_at dksX0_of_0 4 rfl rfl)
theorem dX0_of_5 : decode cX0_of 5 = .ok (.iload_n 1, 1) := dk_27 (dk_at dksX0_of_0 5 rfl rfl)
theorem dX0_of_6 : decode cX0_of 6 = .ok (.i2l, 1) := dk_133 (dk_at dksX0_of_0 6 rfl rfl)
theorem dX0_of_7 : decode cX0_of 7 = .ok (.ldc2_w 16, 3) := dk_20 0 16 (dk_at dksX0_of_0 7 rfl rfl)
theorem dX0_of_10 : decode cX0_of 10 = .ok (.land, 1) := dk_127 (dk_at dksX0_of_0 10 rfl rfl)
theorem dX0_of_11 : decode cX0_of 11 = .ok (.lor, 1) := dk_129 (dk_at dksX0_of_0 11 rfl rfl)
theorem dX0_of_12 : decode cX0_of 12 = .ok (.lreturn, 1) := dk_173 (dk_at dksX0_of_0 12 rfl rfl)
abbrev cX0_whole : ByteArray := prog_3_method_4_code
def yX0_whole : MethodName := ⟨RX0, "whole", "(III)Z"⟩
def dkwX0_whole_3 : List UInt8 := [172]
abbrev dktX0_whole_3 : List UInt8 := dkwX0_whole_3 ++ []
def dkwX0_whole_2 : List UInt8 := [42, 187, 0, 7, 89, 25, 4, 183, 0, 32, 181, 0, 10, 25, 4, 190, 158, 0, 7, 4, 167, 0, 4, 3]
abbrev dktX0_whole_2 : List UInt8 := dkwX0_whole_2 ++ dktX0_whole_3
def dkwX0_whole_1 : List UInt8 := [25, 4, 21, 7, 22, 5, 80, 22, 5, 20, 0, 30, 105, 28, 133, 97, 55, 5, 132, 7, 1, 167, 255, 227]
abbrev dktX0_whole_1 : List UInt8 := dkwX0_whole_1 ++ dktX0_whole_2
def dkwX0_whole_0 : List UInt8 := [29, 16, 63, 126, 188, 11, 58, 4, 27, 133, 55, 5, 3, 54, 7, 21, 7, 25, 4, 190, 162, 0, 27]
abbrev dktX0_whole_0 : List UInt8 := dkwX0_whole_0 ++ dktX0_whole_1
theorem dksX0_whole_0 : cX0_whole.data.toList.drop 0 = dktX0_whole_0 := by decide +kernel
theorem dksX0_whole_1 : cX0_whole.data.toList.drop 23 = dktX0_whole_1 := dk_seg dksX0_whole_0 23 rfl rfl
theorem dksX0_whole_2 : cX0_whole.data.toList.drop 47 = dktX0_whole_2 := dk_seg dksX0_whole_1 24 rfl rfl
theorem dksX0_whole_3 : cX0_whole.data.toList.drop 71 = dktX0_whole_3 := dk_seg dksX0_whole_2 24 rfl rfl
theorem dX0_whole_0 : decode cX0_whole 0 = .ok (.iload_n 3, 1) := dk_29 (dk_at dksX0_whole_0 0 rfl rfl)
theorem dX0_whole_1 : decode cX0_whole 1 = .ok (.bipush 63, 2) := dk_16 63 (dk_at dksX0_whole_0 1 rfl rfl)
theorem dX0_whole_3 : decode cX0_whole 3 = .ok (.iand, 1) := dk_126 (dk_at dksX0_whole_0 3 rfl rfl)
theorem dX0_whole_4 : decode cX0_whole 4 = .ok (.newarray .long, 2) := dk_188_11 (dk_at dksX0_whole_0 4 rfl rfl)
theorem dX0_whole_6 : decode cX0_whole 6 = .ok (.astore 4, 2) := dk_58 4 (dk_at dksX0_whole_0 6 rfl rfl)
theorem dX0_whole_8 : decode cX0_whole 8 = .ok (.iload_n 1, 1) := dk_27 (dk_at dksX0_whole_0 8 rfl rfl)
theorem dX0_whole_9 : decode cX0_whole 9 = .ok (.i2l, 1) := dk_133 (dk_at dksX0_whole_0 9 rfl rfl)
theorem dX0_whole_10 : decode cX0_whole 10 = .ok (.lstore 5, 2) := dk_55 5 (dk_at dksX0_whole_0 10 rfl rfl)
theorem dX0_whole_12 : decode cX0_whole 12 = .ok (.iconst 0, 1) := dk_3 (dk_at dksX0_whole_0 12 rfl rfl)
theorem dX0_whole_13 : decode cX0_whole 13 = .ok (.istore 7, 2) := dk_54 7 (dk_at dksX0_whole_0 13 rfl rfl)
theorem dX0_whole_15 : decode cX0_whole 15 = .ok (.iload 7, 2) := dk_21 7 (dk_at dksX0_whole_0 15 rfl rfl)
theorem dX0_whole_17 : decode cX0_whole 17 = .ok (.aload 4, 2) := dk_25 4 (dk_at dksX0_whole_0 17 rfl rfl)
theorem dX0_whole_19 : decode cX0_whole 19 = .ok (.arraylength, 1) := dk_190 (dk_at dksX0_whole_0 19 rfl rfl)
theorem dX0_whole_20 : decode cX0_whole 20 = .ok (.if_icmp .ge 27, 3) := dk_162 0 27 (dk_at dksX0_whole_0 20 rfl rfl)
theorem dX0_whole_23 : decode cX0_whole 23 = .ok (.aload 4, 2) := dk_25 4 (dk_at dksX0_whole_1 0 rfl rfl)
theorem dX0_whole_25 : decode cX0_whole 25 = .ok (.iload 7, 2) := dk_21 7 (dk_at dksX0_whole_1 2 rfl rfl)
theorem dX0_whole_27 : decode cX0_whole 27 = .ok (.lload 5, 2) := dk_22 5 (dk_at dksX0_whole_1 4 rfl rfl)
theorem dX0_whole_29 : decode cX0_whole 29 = .ok (.lastore, 1) := dk_80 (dk_at dksX0_whole_1 6 rfl rfl)
theorem dX0_whole_30 : decode cX0_whole 30 = .ok (.lload 5, 2) := dk_22 5 (dk_at dksX0_whole_1 7 rfl rfl)
theorem dX0_whole_32 : decode cX0_whole 32 = .ok (.ldc2_w 30, 3) := dk_20 0 30 (dk_at dksX0_whole_1 9 rfl rfl)
theorem dX0_whole_35 : decode cX0_whole 35 = .ok (.lmul, 1) := dk_105 (dk_at dksX0_whole_1 12 rfl rfl)
theorem dX0_whole_36 : decode cX0_whole 36 = .ok (.iload_n 2, 1) := dk_28 (dk_at dksX0_whole_1 13 rfl rfl)
theorem dX0_whole_37 : decode cX0_whole 37 = .ok (.i2l, 1) := dk_133 (dk_at dksX0_whole_1 14 rfl rfl)
theorem dX0_whole_38 : decode cX0_whole 38 = .ok (.ladd, 1) := dk_97 (dk_at dksX0_whole_1 15 rfl rfl)
theorem dX0_whole_39 : decode cX0_whole 39 = .ok (.lstore 5, 2) := dk_55 5 (dk_at dksX0_whole_1 16 rfl rfl)
theorem dX0_whole_41 : decode cX0_whole 41 = .ok (.iinc 7 1, 3) := dk_132 7 1 (dk_at dksX0_whole_1 18 rfl rfl)
theorem dX0_whole_44 : decode cX0_whole 44 = .ok (.goto (-29), 3) := dk_167 255 227 (dk_at dksX0_whole_1 21 rfl rfl)
theorem dX0_whole_47 : decode cX0_whole 47 = .ok (.aload_n 0, 1) := dk_42 (dk_at dksX0_whole_2 0 rfl rfl)
theorem dX0_whole_48 : decode cX0_whole 48 = .ok (.new 7, 3) := dk_187 0 7 (dk_at dksX0_whole_2 1 rfl rfl)
theorem dX0_whole_51 : decode cX0_whole 51 = .ok (.dup, 1) := dk_89 (dk_at dksX0_whole_2 4 rfl rfl)
theorem dX0_whole_52 : decode cX0_whole 52 = .ok (.aload 4, 2) := dk_25 4 (dk_at dksX0_whole_2 5 rfl rfl)
theorem dX0_whole_54 : decode cX0_whole 54 = .ok (.invokespecial 32, 3) := dk_183 0 32 (dk_at dksX0_whole_2 7 rfl rfl)
theorem dX0_whole_57 : decode cX0_whole 57 = .ok (.putfield 10, 3) := dk_181 0 10 (dk_at dksX0_whole_2 10 rfl rfl)
theorem dX0_whole_60 : decode cX0_whole 60 = .ok (.aload 4, 2) := dk_25 4 (dk_at dksX0_whole_2 13 rfl rfl)
theorem dX0_whole_62 : decode cX0_whole 62 = .ok (.arraylength, 1) := dk_190 (dk_at dksX0_whole_2 15 rfl rfl)
theorem dX0_whole_63 : decode cX0_whole 63 = .ok (.ifCond .le 7, 3) := dk_158 0 7 (dk_at dksX0_whole_2 16 rfl rfl)
theorem dX0_whole_66 : decode cX0_whole 66 = .ok (.iconst 1, 1) := dk_4 (dk_at dksX0_whole_2 19 rfl rfl)
theorem dX0_whole_67 : decode cX0_whole 67 = .ok (.goto 4, 3) := dk_167 0 4 (dk_at dksX0_whole_2 20 rfl rfl)
theorem dX0_whole_70 : decode cX0_whole 70 = .ok (.iconst 0, 1) := dk_3 (dk_at dksX0_whole_2 23 rfl rfl)
theorem dX0_whole_71 : decode cX0_whole 71 = .ok (.ireturn, 1) := dk_172 (dk_at dksX0_whole_3 0 rfl rfl)
abbrev cX0_least : ByteArray := prog_3_method_5_code
def yX0_least : MethodName := ⟨RX0, "least", "()J"⟩
def dkwX0_least_0 : List UInt8 := [42, 180, 0, 10, 182, 0, 18, 154, 0, 7, 9, 167, 0, 10, 42, 180, 0, 10, 182, 0, 35, 173]
abbrev dktX0_least_0 : List UInt8 := dkwX0_least_0 ++ []
theorem dksX0_least_0 : cX0_least.data.toList.drop 0 = dktX0_least_0 := by decide +kernel
theorem dX0_least_0 : decode cX0_least 0 = .ok (.aload_n 0, 1) := dk_42 (dk_at dksX0_least_0 0 rfl rfl)
theorem dX0_least_1 : decode cX0_least 1 = .ok (.getfield 10, 3) := dk_180 0 10 (dk_at dksX0_least_0 1 rfl rfl)
theorem dX0_least_4 : decode cX0_least 4 = .ok (.invokevirtual 18, 3) := dk_182 0 18 (dk_at dksX0_least_0 4 rfl rfl)
theorem dX0_least_7 : decode cX0_least 7 = .ok (.ifCond .ne 7, 3) := dk_154 0 7 (dk_at dksX0_least_0 7 rfl rfl)
theorem dX0_least_10 : decode cX0_least 10 = .ok (.lconst 0, 1) := dk_9 (dk_at dksX0_least_0 10 rfl rfl)
theorem dX0_least_11 : decode cX0_least 11 = .ok (.goto 10, 3) := dk_167 0 10 (dk_at dksX0_least_0 11 rfl rfl)
theorem dX0_least_14 : decode cX0_least 14 = .ok (.aload_n 0, 1) := dk_42 (dk_at dksX0_least_0 14 rfl rfl)
theorem dX0_least_15 : decode cX0_least 15 = .ok (.getfield 10, 3) := dk_180 0 10 (dk_at dksX0_least_0 15 rfl rfl)
theorem dX0_least_18 : decode cX0_least 18 = .ok (.invokevirtual 35, 3) := dk_182 0 35 (dk_at dksX0_least_0 18 rfl rfl)
theorem dX0_least_21 : decode cX0_least 21 = .ok (.lreturn, 1) := dk_173 (dk_at dksX0_least_0 21 rfl rfl)
abbrev cX0_take : ByteArray := prog_3_method_6_code
def yX0_take : MethodName := ⟨RX0, "take", "()J"⟩
def dkwX0_take_0 : List UInt8 := [42, 180, 0, 10, 182, 0, 18, 154, 0, 7, 9, 167, 0, 10, 42, 180, 0, 10, 182, 0, 39, 173]
abbrev dktX0_take_0 : List UInt8 := dkwX0_take_0 ++ []
theorem dksX0_take_0 : cX0_take.data.toList.drop 0 = dktX0_take_0 := by decide +kernel
theorem dX0_take_0 : decode cX0_take 0 = .ok (.aload_n 0, 1) := dk_42 (dk_at dksX0_take_0 0 rfl rfl)
theorem dX0_take_1 : decode cX0_take 1 = .ok (.getfield 10, 3) := dk_180 0 10 (dk_at dksX0_take_0 1 rfl rfl)
theorem dX0_take_4 : decode cX0_take 4 = .ok (.invokevirtual 18, 3) := dk_182 0 18 (dk_at dksX0_take_0 4 rfl rfl)
theorem dX0_take_7 : decode cX0_take 7 = .ok (.ifCond .ne 7, 3) := dk_154 0 7 (dk_at dksX0_take_0 7 rfl rfl)
theorem dX0_take_10 : decode cX0_take 10 = .ok (.lconst 0, 1) := dk_9 (dk_at dksX0_take_0 10 rfl rfl)
theorem dX0_take_11 : decode cX0_take 11 = .ok (.goto 10, 3) := dk_167 0 10 (dk_at dksX0_take_0 11 rfl rfl)
theorem dX0_take_14 : decode cX0_take 14 = .ok (.aload_n 0, 1) := dk_42 (dk_at dksX0_take_0 14 rfl rfl)
theorem dX0_take_15 : decode cX0_take 15 = .ok (.getfield 10, 3) := dk_180 0 10 (dk_at dksX0_take_0 15 rfl rfl)
theorem dX0_take_18 : decode cX0_take 18 = .ok (.invokevirtual 39, 3) := dk_182 0 39 (dk_at dksX0_take_0 18 rfl rfl)
theorem dX0_take_21 : decode cX0_take 21 = .ok (.lreturn, 1) := dk_173 (dk_at dksX0_take_0 21 rfl rfl)
abbrev cX0_takeMany : ByteArray := prog_3_method_7_code
def yX0_takeMany : MethodName := ⟨RX0, "takeMany", "(I)J"⟩
def dkwX0_takeMany_1 : List UInt8 := [20, 0, 42, 105, 42, 180, 0, 10, 182, 0, 39, 97, 65, 132, 4, 255, 167, 255, 224, 32, 173]
abbrev dktX0_takeMany_1 : List UInt8 := dkwX0_takeMany_1 ++ []
def dkwX0_takeMany_0 : List UInt8 := [9, 65, 27, 16, 31, 126, 54, 4, 21, 4, 158, 0, 33, 42, 180, 0, 10, 182, 0, 18, 158, 0, 23, 32]
abbrev dktX0_takeMany_0 : List UInt8 := dkwX0_takeMany_0 ++ dktX0_takeMany_1
theorem dksX0_takeMany_0 : cX0_takeMany.data.toList.drop 0 = dktX0_takeMany_0 := by decide +kernel
theorem dksX0_takeMany_1 : cX0_takeMany.data.toList.drop 24 = dktX0_takeMany_1 := dk_seg dksX0_takeMany_0 24 rfl rfl
theorem dX0_takeMany_0 : decode cX0_takeMany 0 = .ok (.lconst 0, 1) := dk_9 (dk_at dksX0_takeMany_0 0 rfl rfl)
theorem dX0_takeMany_1 : decode cX0_takeMany 1 = .ok (.lstore_n 2, 1) := dk_65 (dk_at dksX0_takeMany_0 1 rfl rfl)
theorem dX0_takeMany_2 : decode cX0_takeMany 2 = .ok (.iload_n 1, 1) := dk_27 (dk_at dksX0_takeMany_0 2 rfl rfl)
theorem dX0_takeMany_3 : decode cX0_takeMany 3 = .ok (.bipush 31, 2) := dk_16 31 (dk_at dksX0_takeMany_0 3 rfl rfl)
theorem dX0_takeMany_5 : decode cX0_takeMany 5 = .ok (.iand, 1) := dk_126 (dk_at dksX0_takeMany_0 5 rfl rfl)
theorem dX0_takeMany_6 : decode cX0_takeMany 6 = .ok (.istore 4, 2) := dk_54 4 (dk_at dksX0_takeMany_0 6 rfl rfl)
theorem dX0_takeMany_8 : decode cX0_takeMany 8 = .ok (.iload 4, 2) := dk_21 4 (dk_at dksX0_takeMany_0 8 rfl rfl)
theorem dX0_takeMany_10 : decode cX0_takeMany 10 = .ok (.ifCond .le 33, 3) := dk_158 0 33 (dk_at dksX0_takeMany_0 10 rfl rfl)
theorem dX0_takeMany_13 : decode cX0_takeMany 13 = .ok (.aload_n 0, 1) := dk_42 (dk_at dksX0_takeMany_0 13 rfl rfl)
theorem dX0_takeMany_14 : decode cX0_takeMany 14 = .ok (.getfield 10, 3) := dk_180 0 10 (dk_at dksX0_takeMany_0 14 rfl rfl)
theorem dX0_takeMany_17 : decode cX0_takeMany 17 = .ok (.invokevirtual 18, 3) := dk_182 0 18 (dk_at dksX0_takeMany_0 17 rfl rfl)
theorem dX0_takeMany_20 : decode cX0_takeMany 20 = .ok (.ifCond .le 23, 3) := dk_158 0 23 (dk_at dksX0_takeMany_0 20 rfl rfl)
theorem dX0_takeMany_23 : decode cX0_takeMany 23 = .ok (.lload_n 2, 1) := dk_32 (dk_at dksX0_takeMany_0 23 rfl rfl)
theorem dX0_takeMany_24 : decode cX0_takeMany 24 = .ok (.ldc2_w 42, 3) := dk_20 0 42 (dk_at dksX0_takeMany_1 0 rfl rfl)
theorem dX0_takeMany_27 : decode cX0_takeMany 27 = .ok (.lmul, 1) := dk_105 (dk_at dksX0_takeMany_1 3 rfl rfl)
theorem dX0_takeMany_28 : decode cX0_takeMany 28 = .ok (.aload_n 0, 1) := dk_42 (dk_at dksX0_takeMany_1 4 rfl rfl)
theorem dX0_takeMany_29 : decode cX0_takeMany 29 = .ok (.getfield 10, 3) := dk_180 0 10 (dk_at dksX0_takeMany_1 5 rfl rfl)
theorem dX0_takeMany_32 : decode cX0_takeMany 32 = .ok (.invokevirtual 39, 3) := dk_182 0 39 (dk_at dksX0_takeMany_1 8 rfl rfl)
theorem dX0_takeMany_35 : decode cX0_takeMany 35 = .ok (.ladd, 1) := dk_97 (dk_at dksX0_takeMany_1 11 rfl rfl)
theorem dX0_takeMany_36 : decode cX0_takeMany 36 = .ok (.lstore_n 2, 1) := dk_65 (dk_at dksX0_takeMany_1 12 rfl rfl)
theorem dX0_takeMany_37 : decode cX0_takeMany 37 = .ok (.iinc 4 (-1), 3) := dk_132 4 255 (dk_at dksX0_takeMany_1 13 rfl rfl)
theorem dX0_takeMany_40 : decode cX0_takeMany 40 = .ok (.goto (-32), 3) := dk_167 255 224 (dk_at dksX0_takeMany_1 16 rfl rfl)
theorem dX0_takeMany_43 : decode cX0_takeMany 43 = .ok (.lload_n 2, 1) := dk_32 (dk_at dksX0_takeMany_1 19 rfl rfl)
theorem dX0_takeMany_44 : decode cX0_takeMany 44 = .ok (.lreturn, 1) := dk_173 (dk_at dksX0_takeMany_1 20 rfl rfl)
abbrev cX0_waiting : ByteArray := prog_3_method_8_code
def yX0_waiting : MethodName := ⟨RX0, "waiting", "()I"⟩
def dkwX0_waiting_0 : List UInt8 := [42, 180, 0, 10, 182, 0, 18, 172]
abbrev dktX0_waiting_0 : List UInt8 := dkwX0_waiting_0 ++ []
theorem dksX0_waiting_0 : cX0_waiting.data.toList.drop 0 = dktX0_waiting_0 := by decide +kernel
theorem dX0_waiting_0 : decode cX0_waiting 0 = .ok (.aload_n 0, 1) := dk_42 (dk_at dksX0_waiting_0 0 rfl rfl)
theorem dX0_waiting_1 : decode cX0_waiting 1 = .ok (.getfield 10, 3) := dk_180 0 10 (dk_at dksX0_waiting_0 1 rfl rfl)
theorem dX0_waiting_4 : decode cX0_waiting 4 = .ok (.invokevirtual 18, 3) := dk_182 0 18 (dk_at dksX0_waiting_0 4 rfl rfl)
theorem dX0_waiting_7 : decode cX0_waiting 7 = .ok (.ireturn, 1) := dk_172 (dk_at dksX0_waiting_0 7 rfl rfl)
abbrev cX0_shrink : ByteArray := prog_3_method_9_code
def yX0_shrink : MethodName := ⟨RX0, "shrink", "()V"⟩
def dkwX0_shrink_0 : List UInt8 := [42, 180, 0, 10, 182, 0, 44, 177]
abbrev dktX0_shrink_0 : List UInt8 := dkwX0_shrink_0 ++ []
theorem dksX0_shrink_0 : cX0_shrink.data.toList.drop 0 = dktX0_shrink_0 := by decide +kernel
theorem dX0_shrink_0 : decode cX0_shrink 0 = .ok (.aload_n 0, 1) := dk_42 (dk_at dksX0_shrink_0 0 rfl rfl)
theorem dX0_shrink_1 : decode cX0_shrink 1 = .ok (.getfield 10, 3) := dk_180 0 10 (dk_at dksX0_shrink_0 1 rfl rfl)
theorem dX0_shrink_4 : decode cX0_shrink 4 = .ok (.invokevirtual 44, 3) := dk_182 0 44 (dk_at dksX0_shrink_0 4 rfl rfl)
theorem dX0_shrink_7 : decode cX0_shrink 7 = .ok (.return_, 1) := dk_177 (dk_at dksX0_shrink_0 7 rfl rfl)
abbrev cX0_drain : ByteArray := prog_3_method_10_code
def yX0_drain : MethodName := ⟨RX0, "drain", "()V"⟩
def dkwX0_drain_0 : List UInt8 := [42, 180, 0, 10, 182, 0, 47, 177]
abbrev dktX0_drain_0 : List UInt8 := dkwX0_drain_0 ++ []
theorem dksX0_drain_0 : cX0_drain.data.toList.drop 0 = dktX0_drain_0 := by decide +kernel
theorem dX0_drain_0 : decode cX0_drain 0 = .ok (.aload_n 0, 1) := dk_42 (dk_at dksX0_drain_0 0 rfl rfl)
theorem dX0_drain_1 : decode cX0_drain 1 = .ok (.getfield 10, 3) := dk_180 0 10 (dk_at dksX0_drain_0 1 rfl rfl)
theorem dX0_drain_4 : decode cX0_drain 4 = .ok (.invokevirtual 47, 3) := dk_182 0 47 (dk_at dksX0_drain_0 4 rfl rfl)
theorem dX0_drain_7 : decode cX0_drain 7 = .ok (.return_, 1) := dk_177 (dk_at dksX0_drain_0 7 rfl rfl)
theorem q3 : (Jvm.Cond.initialized "LongHeapDesk") ∈ lw_all := lw_g (lw_at lw_m1 1 rfl) rfl
theorem q15 : (Jvm.Cond.instantiable "LongHeapDesk" (1 : Nat)) ∈ lw_all := lw_g (lw_at lw_m1 13 rfl) rfl
theorem q17 : (Jvm.Cond.instanceMethod ({ cls := "LongHeapDesk", name := "<init>", desc := "()V" } : Jvm.MethodName)) ∈ lw_all := lw_g (lw_at lw_m1 15 rfl) rfl
theorem q18 : (Jvm.Cond.code ({ cls := "LongHeapDesk", name := "<init>", desc := "()V" } : Jvm.MethodName) prog_3_method_1_code (1 : Nat) (Option.none : Option Jvm.ClassFile.FieldType)) ∈ lw_all := lw_g (lw_at lw_m1 16 rfl) rfl
theorem q19 : (Jvm.Cond.methodLink "LongHeapDesk" (1 : Nat) ({ cls := "java/lang/Object", name := "<init>", desc := "()V" } : Jvm.MethodName)) ∈ lw_all := lw_g (lw_at lw_m1 17 rfl) rfl
theorem q22 : (Jvm.Cond.classLink "LongHeapDesk" (7 : Nat) "LongHeapPriorityQueue") ∈ lw_all := lw_g (lw_at lw_m1 20 rfl) rfl
theorem q24 : (Jvm.Cond.methodLink "LongHeapDesk" (9 : Nat) ({ cls := "LongHeapPriorityQueue", name := "<init>", desc := "()V" } : Jvm.MethodName)) ∈ lw_all := lw_g (lw_at lw_m1 22 rfl) rfl
theorem q44 : (Jvm.Cond.fieldLink "LongHeapDesk" (10 : Nat) "LongHeapDesk" "heap" "LLongHeapPriorityQueue;") ∈ lw_all := lw_g (lw_at lw_m1 42 rfl) rfl
theorem q45 : (Jvm.Cond.lays "LongHeapDesk" "LongHeapDesk" "heap" "LLongHeapPriorityQueue;") ∈ lw_all := lw_g (lw_at lw_m1 43 rfl) rfl
theorem q46 : (Jvm.Cond.soleField "LongHeapDesk" "heap") ∈ lw_all := lw_g (lw_at lw_m1 44 rfl) rfl
theorem q47 : (Jvm.Cond.superclass "LongHeapDesk" "java/lang/Object") ∈ lw_all := lw_g (lw_at lw_m1 45 rfl) rfl
theorem q49 : (Jvm.Cond.instanceMethod ({ cls := "LongHeapDesk", name := "enter", desc := "(II)Z" } : Jvm.MethodName)) ∈ lw_all := lw_g (lw_at lw_m1 47 rfl) rfl
theorem q50 : (Jvm.Cond.selects "LongHeapDesk" ({ cls := "LongHeapDesk", name := "enter", desc := "(II)Z" } : Jvm.MethodName) ({ cls := "LongHeapDesk", name := "enter", desc := "(II)Z" } : Jvm.MethodName)) ∈ lw_all := lw_g (lw_at lw_m1 48 rfl) rfl
theorem q51 : (Jvm.Cond.code ({ cls := "LongHeapDesk", name := "enter", desc := "(II)Z" } : Jvm.MethodName) prog_3_method_3_code (3 : Nat) (Option.some Jvm.ClassFile.FieldType.boolean)) ∈ lw_all := lw_g (lw_at lw_m1 49 rfl) rfl
theorem q52 : (Jvm.Cond.methodLink "LongHeapDesk" (18 : Nat) ({ cls := "LongHeapPriorityQueue", name := "size", desc := "()I" } : Jvm.MethodName)) ∈ lw_all := lw_g (lw_at lw_m1 50 rfl) rfl
theorem q56 : (Jvm.Cond.methodLink "LongHeapDesk" (22 : Nat) ({ cls := "LongHeapDesk", name := "of", desc := "(II)J" } : Jvm.MethodName)) ∈ lw_all := lw_g (lw_at lw_m1 54 rfl) rfl
theorem q57 : (Jvm.Cond.static ({ cls := "LongHeapDesk", name := "of", desc := "(II)J" } : Jvm.MethodName)) ∈ lw_all := lw_g (lw_at lw_m1 55 rfl) rfl
theorem q58 : (Jvm.Cond.code ({ cls := "LongHeapDesk", name := "of", desc := "(II)J" } : Jvm.MethodName) prog_3_method_2_code (2 : Nat) (Option.some Jvm.ClassFile.FieldType.long)) ∈ lw_all := lw_g (lw_at lw_m1 56 rfl) rfl
theorem q59 : (Jvm.Cond.constantLong "LongHeapDesk" (16 : Nat) (4294967295 : Int64)) ∈ lw_all := lw_g (lw_at lw_m1 57 rfl) rfl
theorem q60 : (Jvm.Cond.methodLink "LongHeapDesk" (26 : Nat) ({ cls := "LongHeapPriorityQueue", name := "enqueue", desc := "(J)V" } : Jvm.MethodName)) ∈ lw_all := lw_g (lw_at lw_m1 58 rfl) rfl
theorem q84 : (Jvm.Cond.instanceMethod ({ cls := "LongHeapDesk", name := "whole", desc := "(III)Z" } : Jvm.MethodName)) ∈ lw_all := lw_g (lw_at lw_m1 82 rfl) rfl
theorem q85 : (Jvm.Cond.selects "LongHeapDesk" ({ cls := "LongHeapDesk", name := "whole", desc := "(III)Z" } : Jvm.MethodName) ({ cls := "LongHeapDesk", name := "whole", desc := "(III)Z" } : Jvm.MethodName)) ∈ lw_all := lw_g (lw_at lw_m1 83 rfl) rfl
theorem q86 : (Jvm.Cond.code ({ cls := "LongHeapDesk", name := "whole", desc := "(III)Z" } : Jvm.MethodName) prog_3_method_4_code (8 : Nat) (Option.some Jvm.ClassFile.FieldType.boolean)) ∈ lw_all := lw_g (lw_at lw_m1 84 rfl) rfl
theorem q87 : (Jvm.Cond.constantLong "LongHeapDesk" (30 : Nat) (6364136223846793005 : Int64)) ∈ lw_all := lw_g (lw_at lw_m1 85 rfl) rfl
theorem q88 : (Jvm.Cond.methodLink "LongHeapDesk" (32 : Nat) ({ cls := "LongHeapPriorityQueue", name := "<init>", desc := "([J)V" } : Jvm.MethodName)) ∈ lw_all := lw_g (lw_at lw_m1 86 rfl) rfl
theorem q107 : (Jvm.Cond.instanceMethod ({ cls := "LongHeapDesk", name := "least", desc := "()J" } : Jvm.MethodName)) ∈ lw_all := lw_g (lw_at lw_m1 105 rfl) rfl
theorem q108 : (Jvm.Cond.selects "LongHeapDesk" ({ cls := "LongHeapDesk", name := "least", desc := "()J" } : Jvm.MethodName) ({ cls := "LongHeapDesk", name := "least", desc := "()J" } : Jvm.MethodName)) ∈ lw_all := lw_g (lw_at lw_m1 106 rfl) rfl
theorem q109 : (Jvm.Cond.code ({ cls := "LongHeapDesk", name := "least", desc := "()J" } : Jvm.MethodName) prog_3_method_5_code (1 : Nat) (Option.some Jvm.ClassFile.FieldType.long)) ∈ lw_all := lw_g (lw_at lw_m1 107 rfl) rfl
theorem q110 : (Jvm.Cond.methodLink "LongHeapDesk" (35 : Nat) ({ cls := "LongHeapPriorityQueue", name := "firstLong", desc := "()J" } : Jvm.MethodName)) ∈ lw_all := lw_g (lw_at lw_m1 108 rfl) rfl
theorem q176 : (Jvm.Cond.instanceMethod ({ cls := "LongHeapDesk", name := "take", desc := "()J" } : Jvm.MethodName)) ∈ lw_all := lw_g (lw_at lw_m1 174 rfl) rfl
theorem q177 : (Jvm.Cond.selects "LongHeapDesk" ({ cls := "LongHeapDesk", name := "take", desc := "()J" } : Jvm.MethodName) ({ cls := "LongHeapDesk", name := "take", desc := "()J" } : Jvm.MethodName)) ∈ lw_all := lw_g (lw_at lw_m1 175 rfl) rfl
theorem q178 : (Jvm.Cond.code ({ cls := "LongHeapDesk", name := "take", desc := "()J" } : Jvm.MethodName) prog_3_method_6_code (1 : Nat) (Option.some Jvm.ClassFile.FieldType.long)) ∈ lw_all := lw_g (lw_at lw_m1 176 rfl) rfl
theorem q179 : (Jvm.Cond.methodLink "LongHeapDesk" (39 : Nat) ({ cls := "LongHeapPriorityQueue", name := "dequeueLong", desc := "()J" } : Jvm.MethodName)) ∈ lw_all := lw_g (lw_at lw_m1 177 rfl) rfl
theorem q185 : (Jvm.Cond.instanceMethod ({ cls := "LongHeapDesk", name := "takeMany", desc := "(I)J" } : Jvm.MethodName)) ∈ lw_all := lw_g (lw_at lw_m1 183 rfl) rfl
theorem q186 : (Jvm.Cond.selects "LongHeapDesk" ({ cls := "LongHeapDesk", name := "takeMany", desc := "(I)J" } : Jvm.MethodName) ({ cls := "LongHeapDesk", name := "takeMany", desc := "(I)J" } : Jvm.MethodName)) ∈ lw_all := lw_g (lw_at lw_m1 184 rfl) rfl
theorem q187 : (Jvm.Cond.code ({ cls := "LongHeapDesk", name := "takeMany", desc := "(I)J" } : Jvm.MethodName) prog_3_method_7_code (5 : Nat) (Option.some Jvm.ClassFile.FieldType.long)) ∈ lw_all := lw_g (lw_at lw_m1 185 rfl) rfl
theorem q188 : (Jvm.Cond.constantLong "LongHeapDesk" (42 : Nat) (31 : Int64)) ∈ lw_all := lw_g (lw_at lw_m1 186 rfl) rfl
theorem q190 : (Jvm.Cond.instanceMethod ({ cls := "LongHeapDesk", name := "waiting", desc := "()I" } : Jvm.MethodName)) ∈ lw_all := lw_g (lw_at lw_m1 188 rfl) rfl
theorem q191 : (Jvm.Cond.selects "LongHeapDesk" ({ cls := "LongHeapDesk", name := "waiting", desc := "()I" } : Jvm.MethodName) ({ cls := "LongHeapDesk", name := "waiting", desc := "()I" } : Jvm.MethodName)) ∈ lw_all := lw_g (lw_at lw_m1 189 rfl) rfl
theorem q192 : (Jvm.Cond.code ({ cls := "LongHeapDesk", name := "waiting", desc := "()I" } : Jvm.MethodName) prog_3_method_8_code (1 : Nat) (Option.some Jvm.ClassFile.FieldType.int)) ∈ lw_all := lw_g (lw_at lw_m1 190 rfl) rfl
theorem q194 : (Jvm.Cond.instanceMethod ({ cls := "LongHeapDesk", name := "shrink", desc := "()V" } : Jvm.MethodName)) ∈ lw_all := lw_g (lw_at lw_m1 192 rfl) rfl
theorem q195 : (Jvm.Cond.selects "LongHeapDesk" ({ cls := "LongHeapDesk", name := "shrink", desc := "()V" } : Jvm.MethodName) ({ cls := "LongHeapDesk", name := "shrink", desc := "()V" } : Jvm.MethodName)) ∈ lw_all := lw_g (lw_at lw_m1 193 rfl) rfl
theorem q196 : (Jvm.Cond.code ({ cls := "LongHeapDesk", name := "shrink", desc := "()V" } : Jvm.MethodName) prog_3_method_9_code (1 : Nat) (Option.none : Option Jvm.ClassFile.FieldType)) ∈ lw_all := lw_g (lw_at lw_m1 194 rfl) rfl
theorem q197 : (Jvm.Cond.methodLink "LongHeapDesk" (44 : Nat) ({ cls := "LongHeapPriorityQueue", name := "trim", desc := "()V" } : Jvm.MethodName)) ∈ lw_all := lw_g (lw_at lw_m1 195 rfl) rfl
theorem q206 : (Jvm.Cond.instanceMethod ({ cls := "LongHeapDesk", name := "drain", desc := "()V" } : Jvm.MethodName)) ∈ lw_all := lw_g (lw_at lw_m1 204 rfl) rfl
theorem q207 : (Jvm.Cond.selects "LongHeapDesk" ({ cls := "LongHeapDesk", name := "drain", desc := "()V" } : Jvm.MethodName) ({ cls := "LongHeapDesk", name := "drain", desc := "()V" } : Jvm.MethodName)) ∈ lw_all := lw_g (lw_at lw_m1 205 rfl) rfl
theorem q208 : (Jvm.Cond.code ({ cls := "LongHeapDesk", name := "drain", desc := "()V" } : Jvm.MethodName) prog_3_method_10_code (1 : Nat) (Option.none : Option Jvm.ClassFile.FieldType)) ∈ lw_all := lw_g (lw_at lw_m1 206 rfl) rfl
theorem q209 : (Jvm.Cond.methodLink "LongHeapDesk" (47 : Nat) ({ cls := "LongHeapPriorityQueue", name := "clear", desc := "()V" } : Jvm.MethodName)) ∈ lw_all := lw_g (lw_at lw_m1 207 rfl) rfl
theorem q270 : (Jvm.Cond.castable "LongHeapDesk" "java/lang/Object") ∈ lw_tbl := lw_at lw_m2 28 rfl
theorem in_X0 : ∀ w ∈ wsX00, w ∈ lw_all := lw_in wsX00 [45] (by decide +kernel) (by decide +kernel)
/-! LongHeapPriorityQueue -/
def RX1 : String := "LongHeapPriorityQueue"
def TX1 : u_T := fun k => match k with
  | 0 => ("LongHeapPriorityQueue", "heap", "[J", false)
  | 1 => ("LongHeapPriorityQueue", "size", "I", false)
  | _ => ("LongHeapPriorityQueue", "c", "LLongComparator;", false)
def tyX1 : Nat → FieldType := fun k => match k with
  | 0 => .array .long
  | 1 => .int
  | _ => .object "LongComparator"
abbrev wsX10 : List Cond := u_ws RX1 TX1 3
theorem nmX1 : ∀ a, a < 3 → ∀ b, b < 3 → a ≠ b → (TX1 a).2.1 ≠ (TX1 b).2.1 := by decide +kernel
theorem tyX1_ok : ∀ k, k < 3 → parseFieldDescriptor (TX1 k).2.2.1 = some (tyX1 k) := by decide +kernel
abbrev cX1_init : ByteArray := prog_6_method_3_code
def yX1_init : MethodName := ⟨RX1, "<init>", "()V"⟩
def dkwX1_init_0 : List UInt8 := [42, 3, 1, 183, 0, 22, 177]
abbrev dktX1_init_0 : List UInt8 := dkwX1_init_0 ++ []
theorem dksX1_init_0 : cX1_init.data.toList.drop 0 = dktX1_init_0 := by decide +kernel
theorem dX1_init_0 : decode cX1_init 0 = .ok (.aload_n 0, 1) := dk_42 (dk_at dksX1_init_0 0 rfl rfl)
theorem dX1_init_1 : decode cX1_init 1 = .ok (.iconst 0, 1) := dk_3 (dk_at dksX1_init_0 1 rfl rfl)
theorem dX1_init_2 : decode cX1_init 2 = .ok (.aconst_null, 1) := dk_1 (dk_at dksX1_init_0 2 rfl rfl)
theorem dX1_init_3 : decode cX1_init 3 = .ok (.invokespecial 22, 3) := dk_183 0 22 (dk_at dksX1_init_0 3 rfl rfl)
theorem dX1_init_6 : decode cX1_init 6 = .ok (.return_, 1) := dk_177 (dk_at dksX1_init_0 6 rfl rfl)
abbrev cX1_init_2 : ByteArray := prog_6_method_1_code
def yX1_init_2 : MethodName := ⟨RX1, "<init>", "(ILLongComparator;)V"⟩
def dkwX1_init_2_1 : List UInt8 := [181, 0, 18, 177]
abbrev dktX1_init_2_1 : List UInt8 := dkwX1_init_2_1 ++ []
def dkwX1_init_2_0 : List UInt8 := [42, 183, 0, 1, 42, 178, 0, 7, 181, 0, 13, 27, 158, 0, 10, 42, 27, 188, 11, 181, 0, 13, 42, 44]
abbrev dktX1_init_2_0 : List UInt8 := dkwX1_init_2_0 ++ dktX1_init_2_1
theorem dksX1_init_2_0 : cX1_init_2.data.toList.drop 0 = dktX1_init_2_0 := by decide +kernel
theorem dksX1_init_2_1 : cX1_init_2.data.toList.drop 24 = dktX1_init_2_1 := dk_seg dksX1_init_2_0 24 rfl rfl
theorem dX1_init_2_0 : decode cX1_init_2 0 = .ok (.aload_n 0, 1) := dk_42 (dk_at dksX1_init_2_0 0 rfl rfl)
theorem dX1_init_2_1 : decode cX1_init_2 1 = .ok (.invokespecial 1, 3) := dk_183 0 1 (dk_at dksX1_init_2_0 1 rfl rfl)
theorem dX1_init_2_4 : decode cX1_init_2 4 = .ok (.aload_n 0, 1) := dk_42 (dk_at dksX1_init_2_0 4 rfl rfl)
theorem dX1_init_2_5 : decode cX1_init_2 5 = .ok (.getstatic 7, 3) := dk_178 0 7 (dk_at dksX1_init_2_0 5 rfl rfl)
theorem dX1_init_2_8 : decode cX1_init_2 8 = .ok (.putfield 13, 3) := dk_181 0 13 (dk_at dksX1_init_2_0 8 rfl rfl)
theorem dX1_init_2_11 : decode cX1_init_2 11 = .ok (.iload_n 1, 1) := dk_27 (dk_at dksX1_init_2_0 11 rfl rfl)
theorem dX1_init_2_12 : decode cX1_init_2 12 = .ok (.ifCond .le 10, 3) := dk_158 0 10 (dk_at dksX1_init_2_0 12 rfl rfl)
theorem dX1_init_2_15 : decode cX1_init_2 15 = .ok (.aload_n 0, 1) := dk_42 (dk_at dksX1_init_2_0 15 rfl rfl)
theorem dX1_init_2_16 : decode cX1_init_2 16 = .ok (.iload_n 1, 1) := dk_27 (dk_at dksX1_init_2_0 16 rfl rfl)
theorem dX1_init_2_17 : decode cX1_init_2 17 = .ok (.newarray .long, 2) := dk_188_11 (dk_at dksX1_init_2_0 17 rfl rfl)
theorem dX1_init_2_19 : decode cX1_init_2 19 = .ok (.putfield 13, 3) := dk_181 0 13 (dk_at dksX1_init_2_0 19 rfl rfl)
theorem dX1_init_2_22 : decode cX1_init_2 22 = .ok (.aload_n 0, 1) := dk_42 (dk_at dksX1_init_2_0 22 rfl rfl)
theorem dX1_init_2_23 : decode cX1_init_2 23 = .ok (.aload_n 2, 1) := dk_44 (dk_at dksX1_init_2_0 23 rfl rfl)
theorem dX1_init_2_24 : decode cX1_init_2 24 = .ok (.putfield 18, 3) := dk_181 0 18 (dk_at dksX1_init_2_1 0 rfl rfl)
theorem dX1_init_2_27 : decode cX1_init_2 27 = .ok (.return_, 1) := dk_177 (dk_at dksX1_init_2_1 3 rfl rfl)
abbrev cX1_size : ByteArray := prog_6_method_10_code
def yX1_size : MethodName := ⟨RX1, "size", "()I"⟩
theorem dX1_size_0 : decode cX1_size 0 = .ok (.aload_n 0, 1) := by decide +kernel
theorem dX1_size_1 : decode cX1_size 1 = .ok (.getfield 28, 3) := by decide +kernel
theorem dX1_size_4 : decode cX1_size 4 = .ok (.ireturn, 1) := by decide +kernel
abbrev cX1_enqueue : ByteArray := prog_6_method_7_code
def yX1_enqueue : MethodName := ⟨RX1, "enqueue", "(J)V"⟩
def dkwX1_enqueue_2 : List UInt8 := [180, 0, 13, 42, 180, 0, 28, 42, 180, 0, 28, 4, 100, 42, 180, 0, 18, 184, 0, 47, 87, 177]
abbrev dktX1_enqueue_2 : List UInt8 := dkwX1_enqueue_2 ++ []
def dkwX1_enqueue_1 : List UInt8 := [184, 0, 43, 181, 0, 13, 42, 180, 0, 13, 42, 89, 180, 0, 28, 90, 4, 96, 181, 0, 28, 31, 80, 42]
abbrev dktX1_enqueue_1 : List UInt8 := dkwX1_enqueue_1 ++ dktX1_enqueue_2
def dkwX1_enqueue_0 : List UInt8 := [42, 180, 0, 28, 42, 180, 0, 13, 190, 160, 0, 20, 42, 42, 180, 0, 13, 42, 180, 0, 28, 4, 96]
abbrev dktX1_enqueue_0 : List UInt8 := dkwX1_enqueue_0 ++ dktX1_enqueue_1
theorem dksX1_enqueue_0 : cX1_enqueue.data.toList.drop 0 = dktX1_enqueue_0 := by decide +kernel
theorem dksX1_enqueue_1 : cX1_enqueue.data.toList.drop 23 = dktX1_enqueue_1 := dk_seg dksX1_enqueue_0 23 rfl rfl
theorem dksX1_enqueue_2 : cX1_enqueue.data.toList.drop 47 = dktX1_enqueue_2 := dk_seg dksX1_enqueue_1 24 rfl rfl
theorem dX1_enqueue_0 : decode cX1_enqueue 0 = .ok (.aload_n 0, 1) := dk_42 (dk_at dksX1_enqueue_0 0 rfl rfl)
theorem dX1_enqueue_1 : decode cX1_enqueue 1 = .ok (.getfield 28, 3) := dk_180 0 28 (dk_at dksX1_enqueue_0 1 rfl rfl)
theorem dX1_enqueue_4 : decode cX1_enqueue 4 = .ok (.aload_n 0, 1) := dk_42 (dk_at dksX1_enqueue_0 4 rfl rfl)
theorem dX1_enqueue_5 : decode cX1_enqueue 5 = .ok (.getfield 13, 3) := dk_180 0 13 (dk_at dksX1_enqueue_0 5 rfl rfl)
theorem dX1_enqueue_8 : decode cX1_enqueue 8 = .ok (.arraylength, 1) := dk_190 (dk_at dksX1_enqueue_0 8 rfl rfl)
theorem dX1_enqueue_9 : decode cX1_enqueue 9 = .ok (.if_icmp .ne 20, 3) := dk_160 0 20 (dk_at dksX1_enqueue_0 9 rfl rfl)
theorem dX1_enqueue_12 : decode cX1_enqueue 12 = .ok (.aload_n 0, 1) := dk_42 (dk_at dksX1_enqueue_0 12 rfl rfl)
theorem dX1_enqueue_13 : decode cX1_enqueue 13 = .ok (.aload_n 0, 1) := dk_42 (dk_at dksX1_enqueue_0 13 rfl rfl)
theorem dX1_enqueue_14 : decode cX1_enqueue 14 = .ok (.getfield 13, 3) := dk_180 0 13 (dk_at dksX1_enqueue_0 14 rfl rfl)
theorem dX1_enqueue_17 : decode cX1_enqueue 17 = .ok (.aload_n 0, 1) := dk_42 (dk_at dksX1_enqueue_0 17 rfl rfl)
theorem dX1_enqueue_18 : decode cX1_enqueue 18 = .ok (.getfield 28, 3) := dk_180 0 28 (dk_at dksX1_enqueue_0 18 rfl rfl)
theorem dX1_enqueue_21 : decode cX1_enqueue 21 = .ok (.iconst 1, 1) := dk_4 (dk_at dksX1_enqueue_0 21 rfl rfl)
theorem dX1_enqueue_22 : decode cX1_enqueue 22 = .ok (.iadd, 1) := dk_96 (dk_at dksX1_enqueue_0 22 rfl rfl)
theorem dX1_enqueue_23 : decode cX1_enqueue 23 = .ok (.invokestatic 43, 3) := dk_184 0 43 (dk_at dksX1_enqueue_1 0 rfl rfl)
theorem dX1_enqueue_26 : decode cX1_enqueue 26 = .ok (.putfield 13, 3) := dk_181 0 13 (dk_at dksX1_enqueue_1 3 rfl rfl)
theorem dX1_enqueue_29 : decode cX1_enqueue 29 = .ok (.aload_n 0, 1) := dk_42 (dk_at dksX1_enqueue_1 6 rfl rfl)
theorem dX1_enqueue_30 : decode cX1_enqueue 30 = .ok (.getfield 13, 3) := dk_180 0 13 (dk_at dksX1_enqueue_1 7 rfl rfl)
theorem dX1_enqueue_33 : decode cX1_enqueue 33 = .ok (.aload_n 0, 1) := dk_42 (dk_at dksX1_enqueue_1 10 rfl rfl)
theorem dX1_enqueue_34 : decode cX1_enqueue 34 = .ok (.dup, 1) := dk_89 (dk_at dksX1_enqueue_1 11 rfl rfl)
theorem dX1_enqueue_35 : decode cX1_enqueue 35 = .ok (.getfield 28, 3) := dk_180 0 28 (dk_at dksX1_enqueue_1 12 rfl rfl)
theorem dX1_enqueue_38 : decode cX1_enqueue 38 = .ok (.dup_x1, 1) := dk_90 (dk_at dksX1_enqueue_1 15 rfl rfl)
theorem dX1_enqueue_39 : decode cX1_enqueue 39 = .ok (.iconst 1, 1) := dk_4 (dk_at dksX1_enqueue_1 16 rfl rfl)
theorem dX1_enqueue_40 : decode cX1_enqueue 40 = .ok (.iadd, 1) := dk_96 (dk_at dksX1_enqueue_1 17 rfl rfl)
theorem dX1_enqueue_41 : decode cX1_enqueue 41 = .ok (.putfield 28, 3) := dk_181 0 28 (dk_at dksX1_enqueue_1 18 rfl rfl)
theorem dX1_enqueue_44 : decode cX1_enqueue 44 = .ok (.lload_n 1, 1) := dk_31 (dk_at dksX1_enqueue_1 21 rfl rfl)
theorem dX1_enqueue_45 : decode cX1_enqueue 45 = .ok (.lastore, 1) := dk_80 (dk_at dksX1_enqueue_1 22 rfl rfl)
theorem dX1_enqueue_46 : decode cX1_enqueue 46 = .ok (.aload_n 0, 1) := dk_42 (dk_at dksX1_enqueue_1 23 rfl rfl)
theorem dX1_enqueue_47 : decode cX1_enqueue 47 = .ok (.getfield 13, 3) := dk_180 0 13 (dk_at dksX1_enqueue_2 0 rfl rfl)
theorem dX1_enqueue_50 : decode cX1_enqueue 50 = .ok (.aload_n 0, 1) := dk_42 (dk_at dksX1_enqueue_2 3 rfl rfl)
theorem dX1_enqueue_51 : decode cX1_enqueue 51 = .ok (.getfield 28, 3) := dk_180 0 28 (dk_at dksX1_enqueue_2 4 rfl rfl)
theorem dX1_enqueue_54 : decode cX1_enqueue 54 = .ok (.aload_n 0, 1) := dk_42 (dk_at dksX1_enqueue_2 7 rfl rfl)
theorem dX1_enqueue_55 : decode cX1_enqueue 55 = .ok (.getfield 28, 3) := dk_180 0 28 (dk_at dksX1_enqueue_2 8 rfl rfl)
theorem dX1_enqueue_58 : decode cX1_enqueue 58 = .ok (.iconst 1, 1) := dk_4 (dk_at dksX1_enqueue_2 11 rfl rfl)
theorem dX1_enqueue_59 : decode cX1_enqueue 59 = .ok (.isub, 1) := dk_100 (dk_at dksX1_enqueue_2 12 rfl rfl)
theorem dX1_enqueue_60 : decode cX1_enqueue 60 = .ok (.aload_n 0, 1) := dk_42 (dk_at dksX1_enqueue_2 13 rfl rfl)
theorem dX1_enqueue_61 : decode cX1_enqueue 61 = .ok (.getfield 18, 3) := dk_180 0 18 (dk_at dksX1_enqueue_2 14 rfl rfl)
theorem dX1_enqueue_64 : decode cX1_enqueue 64 = .ok (.invokestatic 47, 3) := dk_184 0 47 (dk_at dksX1_enqueue_2 17 rfl rfl)
theorem dX1_enqueue_67 : decode cX1_enqueue 67 = .ok (.pop, 1) := dk_87 (dk_at dksX1_enqueue_2 20 rfl rfl)
theorem dX1_enqueue_68 : decode cX1_enqueue 68 = .ok (.return_, 1) := dk_177 (dk_at dksX1_enqueue_2 21 rfl rfl)
abbrev cX1_init_3 : ByteArray := prog_6_method_6_code
def yX1_init_3 : MethodName := ⟨RX1, "<init>", "([J)V"⟩
def dkwX1_init_3_0 : List UInt8 := [42, 43, 43, 190, 183, 0, 40, 177]
abbrev dktX1_init_3_0 : List UInt8 := dkwX1_init_3_0 ++ []
theorem dksX1_init_3_0 : cX1_init_3.data.toList.drop 0 = dktX1_init_3_0 := by decide +kernel
theorem dX1_init_3_0 : decode cX1_init_3 0 = .ok (.aload_n 0, 1) := dk_42 (dk_at dksX1_init_3_0 0 rfl rfl)
theorem dX1_init_3_1 : decode cX1_init_3 1 = .ok (.aload_n 1, 1) := dk_43 (dk_at dksX1_init_3_0 1 rfl rfl)
theorem dX1_init_3_2 : decode cX1_init_3 2 = .ok (.aload_n 1, 1) := dk_43 (dk_at dksX1_init_3_0 2 rfl rfl)
theorem dX1_init_3_3 : decode cX1_init_3 3 = .ok (.arraylength, 1) := dk_190 (dk_at dksX1_init_3_0 3 rfl rfl)
theorem dX1_init_3_4 : decode cX1_init_3 4 = .ok (.invokespecial 40, 3) := dk_183 0 40 (dk_at dksX1_init_3_0 4 rfl rfl)
theorem dX1_init_3_7 : decode cX1_init_3 7 = .ok (.return_, 1) := dk_177 (dk_at dksX1_init_3_0 7 rfl rfl)
abbrev cX1_init_4 : ByteArray := prog_6_method_5_code
def yX1_init_4 : MethodName := ⟨RX1, "<init>", "([JI)V"⟩
def dkwX1_init_4_0 : List UInt8 := [42, 43, 28, 1, 183, 0, 38, 177]
abbrev dktX1_init_4_0 : List UInt8 := dkwX1_init_4_0 ++ []
theorem dksX1_init_4_0 : cX1_init_4.data.toList.drop 0 = dktX1_init_4_0 := by decide +kernel
theorem dX1_init_4_0 : decode cX1_init_4 0 = .ok (.aload_n 0, 1) := dk_42 (dk_at dksX1_init_4_0 0 rfl rfl)
theorem dX1_init_4_1 : decode cX1_init_4 1 = .ok (.aload_n 1, 1) := dk_43 (dk_at dksX1_init_4_0 1 rfl rfl)
theorem dX1_init_4_2 : decode cX1_init_4 2 = .ok (.iload_n 2, 1) := dk_28 (dk_at dksX1_init_4_0 2 rfl rfl)
theorem dX1_init_4_3 : decode cX1_init_4 3 = .ok (.aconst_null, 1) := dk_1 (dk_at dksX1_init_4_0 3 rfl rfl)
theorem dX1_init_4_4 : decode cX1_init_4 4 = .ok (.invokespecial 38, 3) := dk_183 0 38 (dk_at dksX1_init_4_0 4 rfl rfl)
theorem dX1_init_4_7 : decode cX1_init_4 7 = .ok (.return_, 1) := dk_177 (dk_at dksX1_init_4_0 7 rfl rfl)
abbrev cX1_init_5 : ByteArray := prog_6_method_4_code
def yX1_init_5 : MethodName := ⟨RX1, "<init>", "([JILLongComparator;)V"⟩
def dkwX1_init_5_0 : List UInt8 := [42, 45, 183, 0, 25, 42, 43, 181, 0, 13, 42, 28, 181, 0, 28, 43, 28, 45, 184, 0, 32, 177]
abbrev dktX1_init_5_0 : List UInt8 := dkwX1_init_5_0 ++ []
theorem dksX1_init_5_0 : cX1_init_5.data.toList.drop 0 = dktX1_init_5_0 := by decide +kernel
theorem dX1_init_5_0 : decode cX1_init_5 0 = .ok (.aload_n 0, 1) := dk_42 (dk_at dksX1_init_5_0 0 rfl rfl)
theorem dX1_init_5_1 : decode cX1_init_5 1 = .ok (.aload_n 3, 1) := dk_45 (dk_at dksX1_init_5_0 1 rfl rfl)
theorem dX1_init_5_2 : decode cX1_init_5 2 = .ok (.invokespecial 25, 3) := dk_183 0 25 (dk_at dksX1_init_5_0 2 rfl rfl)
theorem dX1_init_5_5 : decode cX1_init_5 5 = .ok (.aload_n 0, 1) := dk_42 (dk_at dksX1_init_5_0 5 rfl rfl)
theorem dX1_init_5_6 : decode cX1_init_5 6 = .ok (.aload_n 1, 1) := dk_43 (dk_at dksX1_init_5_0 6 rfl rfl)
theorem dX1_init_5_7 : decode cX1_init_5 7 = .ok (.putfield 13, 3) := dk_181 0 13 (dk_at dksX1_init_5_0 7 rfl rfl)
theorem dX1_init_5_10 : decode cX1_init_5 10 = .ok (.aload_n 0, 1) := dk_42 (dk_at dksX1_init_5_0 10 rfl rfl)
theorem dX1_init_5_11 : decode cX1_init_5 11 = .ok (.iload_n 2, 1) := dk_28 (dk_at dksX1_init_5_0 11 rfl rfl)
theorem dX1_init_5_12 : decode cX1_init_5 12 = .ok (.putfield 28, 3) := dk_181 0 28 (dk_at dksX1_init_5_0 12 rfl rfl)
theorem dX1_init_5_15 : decode cX1_init_5 15 = .ok (.aload_n 1, 1) := dk_43 (dk_at dksX1_init_5_0 15 rfl rfl)
theorem dX1_init_5_16 : decode cX1_init_5 16 = .ok (.iload_n 2, 1) := dk_28 (dk_at dksX1_init_5_0 16 rfl rfl)
theorem dX1_init_5_17 : decode cX1_init_5 17 = .ok (.aload_n 3, 1) := dk_45 (dk_at dksX1_init_5_0 17 rfl rfl)
theorem dX1_init_5_18 : decode cX1_init_5 18 = .ok (.invokestatic 32, 3) := dk_184 0 32 (dk_at dksX1_init_5_0 18 rfl rfl)
theorem dX1_init_5_21 : decode cX1_init_5 21 = .ok (.return_, 1) := dk_177 (dk_at dksX1_init_5_0 21 rfl rfl)
abbrev cX1_init_6 : ByteArray := prog_6_method_2_code
def yX1_init_6 : MethodName := ⟨RX1, "<init>", "(LLongComparator;)V"⟩
def dkwX1_init_6_0 : List UInt8 := [42, 3, 43, 183, 0, 22, 177]
abbrev dktX1_init_6_0 : List UInt8 := dkwX1_init_6_0 ++ []
theorem dksX1_init_6_0 : cX1_init_6.data.toList.drop 0 = dktX1_init_6_0 := by decide +kernel
theorem dX1_init_6_0 : decode cX1_init_6 0 = .ok (.aload_n 0, 1) := dk_42 (dk_at dksX1_init_6_0 0 rfl rfl)
theorem dX1_init_6_1 : decode cX1_init_6 1 = .ok (.iconst 0, 1) := dk_3 (dk_at dksX1_init_6_0 1 rfl rfl)
theorem dX1_init_6_2 : decode cX1_init_6 2 = .ok (.aload_n 1, 1) := dk_43 (dk_at dksX1_init_6_0 2 rfl rfl)
theorem dX1_init_6_3 : decode cX1_init_6 3 = .ok (.invokespecial 22, 3) := dk_183 0 22 (dk_at dksX1_init_6_0 3 rfl rfl)
theorem dX1_init_6_6 : decode cX1_init_6 6 = .ok (.return_, 1) := dk_177 (dk_at dksX1_init_6_0 6 rfl rfl)
abbrev cX1_firstLong : ByteArray := prog_6_method_9_code
def yX1_firstLong : MethodName := ⟨RX1, "firstLong", "()J"⟩
def dkwX1_firstLong_0 : List UInt8 := [42, 180, 0, 28, 154, 0, 11, 187, 0, 51, 89, 183, 0, 53, 191, 42, 180, 0, 13, 3, 47, 173]
abbrev dktX1_firstLong_0 : List UInt8 := dkwX1_firstLong_0 ++ []
theorem dksX1_firstLong_0 : cX1_firstLong.data.toList.drop 0 = dktX1_firstLong_0 := by decide +kernel
theorem dX1_firstLong_0 : decode cX1_firstLong 0 = .ok (.aload_n 0, 1) := dk_42 (dk_at dksX1_firstLong_0 0 rfl rfl)
theorem dX1_firstLong_1 : decode cX1_firstLong 1 = .ok (.getfield 28, 3) := dk_180 0 28 (dk_at dksX1_firstLong_0 1 rfl rfl)
theorem dX1_firstLong_4 : decode cX1_firstLong 4 = .ok (.ifCond .ne 11, 3) := dk_154 0 11 (dk_at dksX1_firstLong_0 4 rfl rfl)
theorem dX1_firstLong_7 : decode cX1_firstLong 7 = .ok (.new 51, 3) := dk_187 0 51 (dk_at dksX1_firstLong_0 7 rfl rfl)
theorem dX1_firstLong_10 : decode cX1_firstLong 10 = .ok (.dup, 1) := dk_89 (dk_at dksX1_firstLong_0 10 rfl rfl)
theorem dX1_firstLong_11 : decode cX1_firstLong 11 = .ok (.invokespecial 53, 3) := dk_183 0 53 (dk_at dksX1_firstLong_0 11 rfl rfl)
theorem dX1_firstLong_14 : decode cX1_firstLong 14 = .ok (.athrow, 1) := dk_191 (dk_at dksX1_firstLong_0 14 rfl rfl)
theorem dX1_firstLong_15 : decode cX1_firstLong 15 = .ok (.aload_n 0, 1) := dk_42 (dk_at dksX1_firstLong_0 15 rfl rfl)
theorem dX1_firstLong_16 : decode cX1_firstLong 16 = .ok (.getfield 13, 3) := dk_180 0 13 (dk_at dksX1_firstLong_0 16 rfl rfl)
theorem dX1_firstLong_19 : decode cX1_firstLong 19 = .ok (.iconst 0, 1) := dk_3 (dk_at dksX1_firstLong_0 19 rfl rfl)
theorem dX1_firstLong_20 : decode cX1_firstLong 20 = .ok (.laload, 1) := dk_47 (dk_at dksX1_firstLong_0 20 rfl rfl)
theorem dX1_firstLong_21 : decode cX1_firstLong 21 = .ok (.lreturn, 1) := dk_173 (dk_at dksX1_firstLong_0 21 rfl rfl)
abbrev cX1_dequeueLong : ByteArray := prog_6_method_8_code
def yX1_dequeueLong : MethodName := ⟨RX1, "dequeueLong", "()J"⟩
def dkwX1_dequeueLong_3 : List UInt8 := [173]
abbrev dktX1_dequeueLong_3 : List UInt8 := dkwX1_dequeueLong_3 ++ []
def dkwX1_dequeueLong_2 : List UInt8 := [180, 0, 28, 153, 0, 20, 42, 180, 0, 13, 42, 180, 0, 28, 3, 42, 180, 0, 18, 184, 0, 54, 87, 31]
abbrev dktX1_dequeueLong_2 : List UInt8 := dkwX1_dequeueLong_2 ++ dktX1_dequeueLong_3
def dkwX1_dequeueLong_1 : List UInt8 := [180, 0, 13, 3, 42, 180, 0, 13, 42, 89, 180, 0, 28, 4, 100, 90, 181, 0, 28, 47, 80, 42]
abbrev dktX1_dequeueLong_1 : List UInt8 := dkwX1_dequeueLong_1 ++ dktX1_dequeueLong_2
def dkwX1_dequeueLong_0 : List UInt8 := [42, 180, 0, 28, 154, 0, 11, 187, 0, 51, 89, 183, 0, 53, 191, 42, 180, 0, 13, 3, 47, 64, 42]
abbrev dktX1_dequeueLong_0 : List UInt8 := dkwX1_dequeueLong_0 ++ dktX1_dequeueLong_1
theorem dksX1_dequeueLong_0 : cX1_dequeueLong.data.toList.drop 0 = dktX1_dequeueLong_0 := by decide +kernel
theorem dksX1_dequeueLong_1 : cX1_dequeueLong.data.toList.drop 23 = dktX1_dequeueLong_1 := dk_seg dksX1_dequeueLong_0 23 rfl rfl
theorem dksX1_dequeueLong_2 : cX1_dequeueLong.data.toList.drop 45 = dktX1_dequeueLong_2 := dk_seg dksX1_dequeueLong_1 22 rfl rfl
theorem dksX1_dequeueLong_3 : cX1_dequeueLong.data.toList.drop 69 = dktX1_dequeueLong_3 := dk_seg dksX1_dequeueLong_2 24 rfl rfl
theorem dX1_dequeueLong_0 : decode cX1_dequeueLong 0 = .ok (.aload_n 0, 1) := dk_42 (dk_at dksX1_dequeueLong_0 0 rfl rfl)
theorem dX1_dequeueLong_1 : decode cX1_dequeueLong 1 = .ok (.getfield 28, 3) := dk_180 0 28 (dk_at dksX1_dequeueLong_0 1 rfl rfl)
theorem dX1_dequeueLong_4 : decode cX1_dequeueLong 4 = .ok (.ifCond .ne 11, 3) := dk_154 0 11 (dk_at dksX1_dequeueLong_0 4 rfl rfl)
theorem dX1_dequeueLong_7 : decode cX1_dequeueLong 7 = .ok (.new 51, 3) := dk_187 0 51 (dk_at dksX1_dequeueLong_0 7 rfl rfl)
theorem dX1_dequeueLong_10 : decode cX1_dequeueLong 10 = .ok (.dup, 1) := dk_89 (dk_at dksX1_dequeueLong_0 10 rfl rfl)
theorem dX1_dequeueLong_11 : decode cX1_dequeueLong 11 = .ok (.invokespecial 53, 3) := dk_183 0 53 (dk_at dksX1_dequeueLong_0 11 rfl rfl)
theorem dX1_dequeueLong_14 : decode cX1_dequeueLong 14 = .ok (.athrow, 1) := dk_191 (dk_at dksX1_dequeueLong_0 14 rfl rfl)
theorem dX1_dequeueLong_15 : decode cX1_dequeueLong 15 = .ok (.aload_n 0, 1) := dk_42 (dk_at dksX1_dequeueLong_0 15 rfl rfl)
theorem dX1_dequeueLong_16 : decode cX1_dequeueLong 16 = .ok (.getfield 13, 3) := dk_180 0 13 (dk_at dksX1_dequeueLong_0 16 rfl rfl)
theorem dX1_dequeueLong_19 : decode cX1_dequeueLong 19 = .ok (.iconst 0, 1) := dk_3 (dk_at dksX1_dequeueLong_0 19 rfl rfl)
theorem dX1_dequeueLong_20 : decode cX1_dequeueLong 20 = .ok (.laload, 1) := dk_47 (dk_at dksX1_dequeueLong_0 20 rfl rfl)
theorem dX1_dequeueLong_21 : decode cX1_dequeueLong 21 = .ok (.lstore_n 1, 1) := dk_64 (dk_at dksX1_dequeueLong_0 21 rfl rfl)
theorem dX1_dequeueLong_22 : decode cX1_dequeueLong 22 = .ok (.aload_n 0, 1) := dk_42 (dk_at dksX1_dequeueLong_0 22 rfl rfl)
theorem dX1_dequeueLong_23 : decode cX1_dequeueLong 23 = .ok (.getfield 13, 3) := dk_180 0 13 (dk_at dksX1_dequeueLong_1 0 rfl rfl)
theorem dX1_dequeueLong_26 : decode cX1_dequeueLong 26 = .ok (.iconst 0, 1) := dk_3 (dk_at dksX1_dequeueLong_1 3 rfl rfl)
theorem dX1_dequeueLong_27 : decode cX1_dequeueLong 27 = .ok (.aload_n 0, 1) := dk_42 (dk_at dksX1_dequeueLong_1 4 rfl rfl)
theorem dX1_dequeueLong_28 : decode cX1_dequeueLong 28 = .ok (.getfield 13, 3) := dk_180 0 13 (dk_at dksX1_dequeueLong_1 5 rfl rfl)
theorem dX1_dequeueLong_31 : decode cX1_dequeueLong 31 = .ok (.aload_n 0, 1) := dk_42 (dk_at dksX1_dequeueLong_1 8 rfl rfl)
theorem dX1_dequeueLong_32 : decode cX1_dequeueLong 32 = .ok (.dup, 1) := dk_89 (dk_at dksX1_dequeueLong_1 9 rfl rfl)
theorem dX1_dequeueLong_33 : decode cX1_dequeueLong 33 = .ok (.getfield 28, 3) := dk_180 0 28 (dk_at dksX1_dequeueLong_1 10 rfl rfl)
theorem dX1_dequeueLong_36 : decode cX1_dequeueLong 36 = .ok (.iconst 1, 1) := dk_4 (dk_at dksX1_dequeueLong_1 13 rfl rfl)
theorem dX1_dequeueLong_37 : decode cX1_dequeueLong 37 = .ok (.isub, 1) := dk_100 (dk_at dksX1_dequeueLong_1 14 rfl rfl)
theorem dX1_dequeueLong_38 : decode cX1_dequeueLong 38 = .ok (.dup_x1, 1) := dk_90 (dk_at dksX1_dequeueLong_1 15 rfl rfl)
theorem dX1_dequeueLong_39 : decode cX1_dequeueLong 39 = .ok (.putfield 28, 3) := dk_181 0 28 (dk_at dksX1_dequeueLong_1 16 rfl rfl)
theorem dX1_dequeueLong_42 : decode cX1_dequeueLong 42 = .ok (.laload, 1) := dk_47 (dk_at dksX1_dequeueLong_1 19 rfl rfl)
theorem dX1_dequeueLong_43 : decode cX1_dequeueLong 43 = .ok (.lastore, 1) := dk_80 (dk_at dksX1_dequeueLong_1 20 rfl rfl)
theorem dX1_dequeueLong_44 : decode cX1_dequeueLong 44 = .ok (.aload_n 0, 1) := dk_42 (dk_at dksX1_dequeueLong_1 21 rfl rfl)
theorem dX1_dequeueLong_45 : decode cX1_dequeueLong 45 = .ok (.getfield 28, 3) := dk_180 0 28 (dk_at dksX1_dequeueLong_2 0 rfl rfl)
theorem dX1_dequeueLong_48 : decode cX1_dequeueLong 48 = .ok (.ifCond .eq 20, 3) := dk_153 0 20 (dk_at dksX1_dequeueLong_2 3 rfl rfl)
theorem dX1_dequeueLong_51 : decode cX1_dequeueLong 51 = .ok (.aload_n 0, 1) := dk_42 (dk_at dksX1_dequeueLong_2 6 rfl rfl)
theorem dX1_dequeueLong_52 : decode cX1_dequeueLong 52 = .ok (.getfield 13, 3) := dk_180 0 13 (dk_at dksX1_dequeueLong_2 7 rfl rfl)
theorem dX1_dequeueLong_55 : decode cX1_dequeueLong 55 = .ok (.aload_n 0, 1) := dk_42 (dk_at dksX1_dequeueLong_2 10 rfl rfl)
theorem dX1_dequeueLong_56 : decode cX1_dequeueLong 56 = .ok (.getfield 28, 3) := dk_180 0 28 (dk_at dksX1_dequeueLong_2 11 rfl rfl)
theorem dX1_dequeueLong_59 : decode cX1_dequeueLong 59 = .ok (.iconst 0, 1) := dk_3 (dk_at dksX1_dequeueLong_2 14 rfl rfl)
theorem dX1_dequeueLong_60 : decode cX1_dequeueLong 60 = .ok (.aload_n 0, 1) := dk_42 (dk_at dksX1_dequeueLong_2 15 rfl rfl)
theorem dX1_dequeueLong_61 : decode cX1_dequeueLong 61 = .ok (.getfield 18, 3) := dk_180 0 18 (dk_at dksX1_dequeueLong_2 16 rfl rfl)
theorem dX1_dequeueLong_64 : decode cX1_dequeueLong 64 = .ok (.invokestatic 54, 3) := dk_184 0 54 (dk_at dksX1_dequeueLong_2 19 rfl rfl)
theorem dX1_dequeueLong_67 : decode cX1_dequeueLong 67 = .ok (.pop, 1) := dk_87 (dk_at dksX1_dequeueLong_2 22 rfl rfl)
theorem dX1_dequeueLong_68 : decode cX1_dequeueLong 68 = .ok (.lload_n 1, 1) := dk_31 (dk_at dksX1_dequeueLong_2 23 rfl rfl)
theorem dX1_dequeueLong_69 : decode cX1_dequeueLong 69 = .ok (.lreturn, 1) := dk_173 (dk_at dksX1_dequeueLong_3 0 rfl rfl)
abbrev cX1_trim : ByteArray := prog_6_method_12_code
def yX1_trim : MethodName := ⟨RX1, "trim", "()V"⟩
def dkwX1_trim_0 : List UInt8 := [42, 42, 180, 0, 13, 42, 180, 0, 28, 184, 0, 57, 181, 0, 13, 177]
abbrev dktX1_trim_0 : List UInt8 := dkwX1_trim_0 ++ []
theorem dksX1_trim_0 : cX1_trim.data.toList.drop 0 = dktX1_trim_0 := by decide +kernel
theorem dX1_trim_0 : decode cX1_trim 0 = .ok (.aload_n 0, 1) := dk_42 (dk_at dksX1_trim_0 0 rfl rfl)
theorem dX1_trim_1 : decode cX1_trim 1 = .ok (.aload_n 0, 1) := dk_42 (dk_at dksX1_trim_0 1 rfl rfl)
theorem dX1_trim_2 : decode cX1_trim 2 = .ok (.getfield 13, 3) := dk_180 0 13 (dk_at dksX1_trim_0 2 rfl rfl)
theorem dX1_trim_5 : decode cX1_trim 5 = .ok (.aload_n 0, 1) := dk_42 (dk_at dksX1_trim_0 5 rfl rfl)
theorem dX1_trim_6 : decode cX1_trim 6 = .ok (.getfield 28, 3) := dk_180 0 28 (dk_at dksX1_trim_0 6 rfl rfl)
theorem dX1_trim_9 : decode cX1_trim 9 = .ok (.invokestatic 57, 3) := dk_184 0 57 (dk_at dksX1_trim_0 9 rfl rfl)
theorem dX1_trim_12 : decode cX1_trim 12 = .ok (.putfield 13, 3) := dk_181 0 13 (dk_at dksX1_trim_0 12 rfl rfl)
theorem dX1_trim_15 : decode cX1_trim 15 = .ok (.return_, 1) := dk_177 (dk_at dksX1_trim_0 15 rfl rfl)
abbrev cX1_clear : ByteArray := prog_6_method_11_code
def yX1_clear : MethodName := ⟨RX1, "clear", "()V"⟩
def dkwX1_clear_0 : List UInt8 := [42, 3, 181, 0, 28, 177]
abbrev dktX1_clear_0 : List UInt8 := dkwX1_clear_0 ++ []
theorem dksX1_clear_0 : cX1_clear.data.toList.drop 0 = dktX1_clear_0 := by decide +kernel
theorem dX1_clear_0 : decode cX1_clear 0 = .ok (.aload_n 0, 1) := dk_42 (dk_at dksX1_clear_0 0 rfl rfl)
theorem dX1_clear_1 : decode cX1_clear 1 = .ok (.iconst 0, 1) := dk_3 (dk_at dksX1_clear_0 1 rfl rfl)
theorem dX1_clear_2 : decode cX1_clear 2 = .ok (.putfield 28, 3) := dk_181 0 28 (dk_at dksX1_clear_0 2 rfl rfl)
theorem dX1_clear_5 : decode cX1_clear 5 = .ok (.return_, 1) := dk_177 (dk_at dksX1_clear_0 5 rfl rfl)
theorem q4 : (Jvm.Cond.initialized "LongHeapPriorityQueue") ∈ lw_all := lw_g (lw_at lw_m1 2 rfl) rfl
theorem q23 : (Jvm.Cond.instantiable "LongHeapPriorityQueue" (3 : Nat)) ∈ lw_all := lw_g (lw_at lw_m1 21 rfl) rfl
theorem q25 : (Jvm.Cond.instanceMethod ({ cls := "LongHeapPriorityQueue", name := "<init>", desc := "()V" } : Jvm.MethodName)) ∈ lw_all := lw_g (lw_at lw_m1 23 rfl) rfl
theorem q26 : (Jvm.Cond.code ({ cls := "LongHeapPriorityQueue", name := "<init>", desc := "()V" } : Jvm.MethodName) prog_6_method_3_code (1 : Nat) (Option.none : Option Jvm.ClassFile.FieldType)) ∈ lw_all := lw_g (lw_at lw_m1 24 rfl) rfl
theorem q27 : (Jvm.Cond.methodLink "LongHeapPriorityQueue" (22 : Nat) ({ cls := "LongHeapPriorityQueue", name := "<init>", desc := "(ILLongComparator;)V" } : Jvm.MethodName)) ∈ lw_all := lw_g (lw_at lw_m1 25 rfl) rfl
theorem q28 : (Jvm.Cond.instanceMethod ({ cls := "LongHeapPriorityQueue", name := "<init>", desc := "(ILLongComparator;)V" } : Jvm.MethodName)) ∈ lw_all := lw_g (lw_at lw_m1 26 rfl) rfl
theorem q29 : (Jvm.Cond.code ({ cls := "LongHeapPriorityQueue", name := "<init>", desc := "(ILLongComparator;)V" } : Jvm.MethodName) prog_6_method_1_code (3 : Nat) (Option.none : Option Jvm.ClassFile.FieldType)) ∈ lw_all := lw_g (lw_at lw_m1 27 rfl) rfl
theorem q30 : (Jvm.Cond.methodLink "LongHeapPriorityQueue" (1 : Nat) ({ cls := "java/lang/Object", name := "<init>", desc := "()V" } : Jvm.MethodName)) ∈ lw_all := lw_g (lw_at lw_m1 28 rfl) rfl
theorem q31 : (Jvm.Cond.fieldLink "LongHeapPriorityQueue" (7 : Nat) "LongArrays" "EMPTY_ARRAY" "[J") ∈ lw_all := lw_g (lw_at lw_m1 29 rfl) rfl
theorem q33 : (Jvm.Cond.fieldLink "LongHeapPriorityQueue" (13 : Nat) "LongHeapPriorityQueue" "heap" "[J") ∈ lw_all := lw_g (lw_at lw_m1 31 rfl) rfl
theorem q34 : (Jvm.Cond.fieldLink "LongHeapPriorityQueue" (28 : Nat) "LongHeapPriorityQueue" "size" "I") ∈ lw_all := lw_g (lw_at lw_m1 32 rfl) rfl
theorem q35 : (Jvm.Cond.fieldLink "LongHeapPriorityQueue" (18 : Nat) "LongHeapPriorityQueue" "c" "LLongComparator;") ∈ lw_all := lw_g (lw_at lw_m1 33 rfl) rfl
theorem q36 : (Jvm.Cond.lays "LongHeapPriorityQueue" "LongHeapPriorityQueue" "heap" "[J") ∈ lw_all := lw_g (lw_at lw_m1 34 rfl) rfl
theorem q37 : (Jvm.Cond.soleField "LongHeapPriorityQueue" "heap") ∈ lw_all := lw_g (lw_at lw_m1 35 rfl) rfl
theorem q38 : (Jvm.Cond.lays "LongHeapPriorityQueue" "LongHeapPriorityQueue" "size" "I") ∈ lw_all := lw_g (lw_at lw_m1 36 rfl) rfl
theorem q39 : (Jvm.Cond.soleField "LongHeapPriorityQueue" "size") ∈ lw_all := lw_g (lw_at lw_m1 37 rfl) rfl
theorem q40 : (Jvm.Cond.lays "LongHeapPriorityQueue" "LongHeapPriorityQueue" "c" "LLongComparator;") ∈ lw_all := lw_g (lw_at lw_m1 38 rfl) rfl
theorem q41 : (Jvm.Cond.soleField "LongHeapPriorityQueue" "c") ∈ lw_all := lw_g (lw_at lw_m1 39 rfl) rfl
theorem q42 : (Jvm.Cond.superclass "LongHeapPriorityQueue" "java/lang/Object") ∈ lw_all := lw_g (lw_at lw_m1 40 rfl) rfl
theorem q53 : (Jvm.Cond.instanceMethod ({ cls := "LongHeapPriorityQueue", name := "size", desc := "()I" } : Jvm.MethodName)) ∈ lw_all := lw_g (lw_at lw_m1 51 rfl) rfl
theorem q54 : (Jvm.Cond.selects "LongHeapPriorityQueue" ({ cls := "LongHeapPriorityQueue", name := "size", desc := "()I" } : Jvm.MethodName) ({ cls := "LongHeapPriorityQueue", name := "size", desc := "()I" } : Jvm.MethodName)) ∈ lw_all := lw_g (lw_at lw_m1 52 rfl) rfl
theorem q55 : (Jvm.Cond.code ({ cls := "LongHeapPriorityQueue", name := "size", desc := "()I" } : Jvm.MethodName) prog_6_method_10_code (1 : Nat) (Option.some Jvm.ClassFile.FieldType.int)) ∈ lw_all := lw_g (lw_at lw_m1 53 rfl) rfl
theorem q61 : (Jvm.Cond.instanceMethod ({ cls := "LongHeapPriorityQueue", name := "enqueue", desc := "(J)V" } : Jvm.MethodName)) ∈ lw_all := lw_g (lw_at lw_m1 59 rfl) rfl
theorem q62 : (Jvm.Cond.selects "LongHeapPriorityQueue" ({ cls := "LongHeapPriorityQueue", name := "enqueue", desc := "(J)V" } : Jvm.MethodName) ({ cls := "LongHeapPriorityQueue", name := "enqueue", desc := "(J)V" } : Jvm.MethodName)) ∈ lw_all := lw_g (lw_at lw_m1 60 rfl) rfl
theorem q63 : (Jvm.Cond.code ({ cls := "LongHeapPriorityQueue", name := "enqueue", desc := "(J)V" } : Jvm.MethodName) prog_6_method_7_code (3 : Nat) (Option.none : Option Jvm.ClassFile.FieldType)) ∈ lw_all := lw_g (lw_at lw_m1 61 rfl) rfl
theorem q64 : (Jvm.Cond.methodLink "LongHeapPriorityQueue" (43 : Nat) ({ cls := "LongArrays", name := "grow", desc := "([JI)[J" } : Jvm.MethodName)) ∈ lw_all := lw_g (lw_at lw_m1 62 rfl) rfl
theorem q80 : (Jvm.Cond.methodLink "LongHeapPriorityQueue" (47 : Nat) ({ cls := "LongHeaps", name := "upHeap", desc := "([JIILLongComparator;)I" } : Jvm.MethodName)) ∈ lw_all := lw_g (lw_at lw_m1 78 rfl) rfl
theorem q89 : (Jvm.Cond.instanceMethod ({ cls := "LongHeapPriorityQueue", name := "<init>", desc := "([J)V" } : Jvm.MethodName)) ∈ lw_all := lw_g (lw_at lw_m1 87 rfl) rfl
theorem q90 : (Jvm.Cond.code ({ cls := "LongHeapPriorityQueue", name := "<init>", desc := "([J)V" } : Jvm.MethodName) prog_6_method_6_code (2 : Nat) (Option.none : Option Jvm.ClassFile.FieldType)) ∈ lw_all := lw_g (lw_at lw_m1 88 rfl) rfl
theorem q91 : (Jvm.Cond.methodLink "LongHeapPriorityQueue" (40 : Nat) ({ cls := "LongHeapPriorityQueue", name := "<init>", desc := "([JI)V" } : Jvm.MethodName)) ∈ lw_all := lw_g (lw_at lw_m1 89 rfl) rfl
theorem q92 : (Jvm.Cond.instanceMethod ({ cls := "LongHeapPriorityQueue", name := "<init>", desc := "([JI)V" } : Jvm.MethodName)) ∈ lw_all := lw_g (lw_at lw_m1 90 rfl) rfl
theorem q93 : (Jvm.Cond.code ({ cls := "LongHeapPriorityQueue", name := "<init>", desc := "([JI)V" } : Jvm.MethodName) prog_6_method_5_code (3 : Nat) (Option.none : Option Jvm.ClassFile.FieldType)) ∈ lw_all := lw_g (lw_at lw_m1 91 rfl) rfl
theorem q94 : (Jvm.Cond.methodLink "LongHeapPriorityQueue" (38 : Nat) ({ cls := "LongHeapPriorityQueue", name := "<init>", desc := "([JILLongComparator;)V" } : Jvm.MethodName)) ∈ lw_all := lw_g (lw_at lw_m1 92 rfl) rfl
theorem q95 : (Jvm.Cond.instanceMethod ({ cls := "LongHeapPriorityQueue", name := "<init>", desc := "([JILLongComparator;)V" } : Jvm.MethodName)) ∈ lw_all := lw_g (lw_at lw_m1 93 rfl) rfl
theorem q96 : (Jvm.Cond.code ({ cls := "LongHeapPriorityQueue", name := "<init>", desc := "([JILLongComparator;)V" } : Jvm.MethodName) prog_6_method_4_code (4 : Nat) (Option.none : Option Jvm.ClassFile.FieldType)) ∈ lw_all := lw_g (lw_at lw_m1 94 rfl) rfl
theorem q97 : (Jvm.Cond.methodLink "LongHeapPriorityQueue" (25 : Nat) ({ cls := "LongHeapPriorityQueue", name := "<init>", desc := "(LLongComparator;)V" } : Jvm.MethodName)) ∈ lw_all := lw_g (lw_at lw_m1 95 rfl) rfl
theorem q98 : (Jvm.Cond.instanceMethod ({ cls := "LongHeapPriorityQueue", name := "<init>", desc := "(LLongComparator;)V" } : Jvm.MethodName)) ∈ lw_all := lw_g (lw_at lw_m1 96 rfl) rfl
theorem q99 : (Jvm.Cond.code ({ cls := "LongHeapPriorityQueue", name := "<init>", desc := "(LLongComparator;)V" } : Jvm.MethodName) prog_6_method_2_code (2 : Nat) (Option.none : Option Jvm.ClassFile.FieldType)) ∈ lw_all := lw_g (lw_at lw_m1 97 rfl) rfl
theorem q100 : (Jvm.Cond.methodLink "LongHeapPriorityQueue" (32 : Nat) ({ cls := "LongHeaps", name := "makeHeap", desc := "([JILLongComparator;)V" } : Jvm.MethodName)) ∈ lw_all := lw_g (lw_at lw_m1 98 rfl) rfl
theorem q111 : (Jvm.Cond.instanceMethod ({ cls := "LongHeapPriorityQueue", name := "firstLong", desc := "()J" } : Jvm.MethodName)) ∈ lw_all := lw_g (lw_at lw_m1 109 rfl) rfl
theorem q112 : (Jvm.Cond.selects "LongHeapPriorityQueue" ({ cls := "LongHeapPriorityQueue", name := "firstLong", desc := "()J" } : Jvm.MethodName) ({ cls := "LongHeapPriorityQueue", name := "firstLong", desc := "()J" } : Jvm.MethodName)) ∈ lw_all := lw_g (lw_at lw_m1 110 rfl) rfl
theorem q113 : (Jvm.Cond.code ({ cls := "LongHeapPriorityQueue", name := "firstLong", desc := "()J" } : Jvm.MethodName) prog_6_method_9_code (1 : Nat) (Option.some Jvm.ClassFile.FieldType.long)) ∈ lw_all := lw_g (lw_at lw_m1 111 rfl) rfl
theorem q114 : (Jvm.Cond.classLink "LongHeapPriorityQueue" (51 : Nat) "java/util/NoSuchElementException") ∈ lw_all := lw_g (lw_at lw_m1 112 rfl) rfl
theorem q153 : (Jvm.Cond.methodLink "LongHeapPriorityQueue" (53 : Nat) ({ cls := "java/util/NoSuchElementException", name := "<init>", desc := "()V" } : Jvm.MethodName)) ∈ lw_all := lw_g (lw_at lw_m1 151 rfl) rfl
theorem q180 : (Jvm.Cond.instanceMethod ({ cls := "LongHeapPriorityQueue", name := "dequeueLong", desc := "()J" } : Jvm.MethodName)) ∈ lw_all := lw_g (lw_at lw_m1 178 rfl) rfl
theorem q181 : (Jvm.Cond.selects "LongHeapPriorityQueue" ({ cls := "LongHeapPriorityQueue", name := "dequeueLong", desc := "()J" } : Jvm.MethodName) ({ cls := "LongHeapPriorityQueue", name := "dequeueLong", desc := "()J" } : Jvm.MethodName)) ∈ lw_all := lw_g (lw_at lw_m1 179 rfl) rfl
theorem q182 : (Jvm.Cond.code ({ cls := "LongHeapPriorityQueue", name := "dequeueLong", desc := "()J" } : Jvm.MethodName) prog_6_method_8_code (3 : Nat) (Option.some Jvm.ClassFile.FieldType.long)) ∈ lw_all := lw_g (lw_at lw_m1 180 rfl) rfl
theorem q183 : (Jvm.Cond.methodLink "LongHeapPriorityQueue" (54 : Nat) ({ cls := "LongHeaps", name := "downHeap", desc := "([JIILLongComparator;)I" } : Jvm.MethodName)) ∈ lw_all := lw_g (lw_at lw_m1 181 rfl) rfl
theorem q198 : (Jvm.Cond.instanceMethod ({ cls := "LongHeapPriorityQueue", name := "trim", desc := "()V" } : Jvm.MethodName)) ∈ lw_all := lw_g (lw_at lw_m1 196 rfl) rfl
theorem q199 : (Jvm.Cond.selects "LongHeapPriorityQueue" ({ cls := "LongHeapPriorityQueue", name := "trim", desc := "()V" } : Jvm.MethodName) ({ cls := "LongHeapPriorityQueue", name := "trim", desc := "()V" } : Jvm.MethodName)) ∈ lw_all := lw_g (lw_at lw_m1 197 rfl) rfl
theorem q200 : (Jvm.Cond.code ({ cls := "LongHeapPriorityQueue", name := "trim", desc := "()V" } : Jvm.MethodName) prog_6_method_12_code (1 : Nat) (Option.none : Option Jvm.ClassFile.FieldType)) ∈ lw_all := lw_g (lw_at lw_m1 198 rfl) rfl
theorem q201 : (Jvm.Cond.methodLink "LongHeapPriorityQueue" (57 : Nat) ({ cls := "LongArrays", name := "trim", desc := "([JI)[J" } : Jvm.MethodName)) ∈ lw_all := lw_g (lw_at lw_m1 199 rfl) rfl
theorem q210 : (Jvm.Cond.instanceMethod ({ cls := "LongHeapPriorityQueue", name := "clear", desc := "()V" } : Jvm.MethodName)) ∈ lw_all := lw_g (lw_at lw_m1 208 rfl) rfl
theorem q211 : (Jvm.Cond.selects "LongHeapPriorityQueue" ({ cls := "LongHeapPriorityQueue", name := "clear", desc := "()V" } : Jvm.MethodName) ({ cls := "LongHeapPriorityQueue", name := "clear", desc := "()V" } : Jvm.MethodName)) ∈ lw_all := lw_g (lw_at lw_m1 209 rfl) rfl
theorem q212 : (Jvm.Cond.code ({ cls := "LongHeapPriorityQueue", name := "clear", desc := "()V" } : Jvm.MethodName) prog_6_method_11_code (1 : Nat) (Option.none : Option Jvm.ClassFile.FieldType)) ∈ lw_all := lw_g (lw_at lw_m1 210 rfl) rfl
theorem q271 : (Jvm.Cond.castable "LongHeapPriorityQueue" "java/lang/Object") ∈ lw_tbl := lw_at lw_m2 29 rfl
theorem in_X1 : ∀ w ∈ wsX10, w ∈ lw_all := lw_in wsX10 [36, 38, 40] (by decide +kernel) (by decide +kernel)
/-! LongArrays -/
def RX2 : String := "LongArrays"
abbrev cX2_grow : ByteArray := prog_1_method_1_code
def yX2_grow : MethodName := ⟨RX2, "grow", "([JI)[J"⟩
def dkwX2_grow_0 : List UInt8 := [42, 27, 42, 190, 184, 0, 1, 176]
abbrev dktX2_grow_0 : List UInt8 := dkwX2_grow_0 ++ []
theorem dksX2_grow_0 : cX2_grow.data.toList.drop 0 = dktX2_grow_0 := by decide +kernel
theorem dX2_grow_0 : decode cX2_grow 0 = .ok (.aload_n 0, 1) := dk_42 (dk_at dksX2_grow_0 0 rfl rfl)
theorem dX2_grow_1 : decode cX2_grow 1 = .ok (.iload_n 1, 1) := dk_27 (dk_at dksX2_grow_0 1 rfl rfl)
theorem dX2_grow_2 : decode cX2_grow 2 = .ok (.aload_n 0, 1) := dk_42 (dk_at dksX2_grow_0 2 rfl rfl)
theorem dX2_grow_3 : decode cX2_grow 3 = .ok (.arraylength, 1) := dk_190 (dk_at dksX2_grow_0 3 rfl rfl)
theorem dX2_grow_4 : decode cX2_grow 4 = .ok (.invokestatic 1, 3) := dk_184 0 1 (dk_at dksX2_grow_0 4 rfl rfl)
theorem dX2_grow_7 : decode cX2_grow 7 = .ok (.areturn, 1) := dk_176 (dk_at dksX2_grow_0 7 rfl rfl)
abbrev cX2_grow_2 : ByteArray := prog_1_method_2_code
def yX2_grow_2 : MethodName := ⟨RX2, "grow", "([JII)[J"⟩
def dkwX2_grow_2_1 : List UInt8 := [184, 0, 17, 136, 62, 29, 188, 11, 58, 4, 42, 3, 25, 4, 3, 28, 184, 0, 20, 25, 4, 176, 42, 176]
abbrev dktX2_grow_2_1 : List UInt8 := dkwX2_grow_2_1 ++ []
def dkwX2_grow_2_0 : List UInt8 := [27, 42, 190, 164, 0, 42, 42, 190, 133, 42, 190, 4, 122, 133, 97, 20, 0, 9, 184, 0, 11, 27, 133]
abbrev dktX2_grow_2_0 : List UInt8 := dkwX2_grow_2_0 ++ dktX2_grow_2_1
theorem dksX2_grow_2_0 : cX2_grow_2.data.toList.drop 0 = dktX2_grow_2_0 := by decide +kernel
theorem dksX2_grow_2_1 : cX2_grow_2.data.toList.drop 23 = dktX2_grow_2_1 := dk_seg dksX2_grow_2_0 23 rfl rfl
theorem dX2_grow_2_0 : decode cX2_grow_2 0 = .ok (.iload_n 1, 1) := dk_27 (dk_at dksX2_grow_2_0 0 rfl rfl)
theorem dX2_grow_2_1 : decode cX2_grow_2 1 = .ok (.aload_n 0, 1) := dk_42 (dk_at dksX2_grow_2_0 1 rfl rfl)
theorem dX2_grow_2_2 : decode cX2_grow_2 2 = .ok (.arraylength, 1) := dk_190 (dk_at dksX2_grow_2_0 2 rfl rfl)
theorem dX2_grow_2_3 : decode cX2_grow_2 3 = .ok (.if_icmp .le 42, 3) := dk_164 0 42 (dk_at dksX2_grow_2_0 3 rfl rfl)
theorem dX2_grow_2_6 : decode cX2_grow_2 6 = .ok (.aload_n 0, 1) := dk_42 (dk_at dksX2_grow_2_0 6 rfl rfl)
theorem dX2_grow_2_7 : decode cX2_grow_2 7 = .ok (.arraylength, 1) := dk_190 (dk_at dksX2_grow_2_0 7 rfl rfl)
theorem dX2_grow_2_8 : decode cX2_grow_2 8 = .ok (.i2l, 1) := dk_133 (dk_at dksX2_grow_2_0 8 rfl rfl)
theorem dX2_grow_2_9 : decode cX2_grow_2 9 = .ok (.aload_n 0, 1) := dk_42 (dk_at dksX2_grow_2_0 9 rfl rfl)
theorem dX2_grow_2_10 : decode cX2_grow_2 10 = .ok (.arraylength, 1) := dk_190 (dk_at dksX2_grow_2_0 10 rfl rfl)
theorem dX2_grow_2_11 : decode cX2_grow_2 11 = .ok (.iconst 1, 1) := dk_4 (dk_at dksX2_grow_2_0 11 rfl rfl)
theorem dX2_grow_2_12 : decode cX2_grow_2 12 = .ok (.ishr, 1) := dk_122 (dk_at dksX2_grow_2_0 12 rfl rfl)
theorem dX2_grow_2_13 : decode cX2_grow_2 13 = .ok (.i2l, 1) := dk_133 (dk_at dksX2_grow_2_0 13 rfl rfl)
theorem dX2_grow_2_14 : decode cX2_grow_2 14 = .ok (.ladd, 1) := dk_97 (dk_at dksX2_grow_2_0 14 rfl rfl)
theorem dX2_grow_2_15 : decode cX2_grow_2 15 = .ok (.ldc2_w 9, 3) := dk_20 0 9 (dk_at dksX2_grow_2_0 15 rfl rfl)
theorem dX2_grow_2_18 : decode cX2_grow_2 18 = .ok (.invokestatic 11, 3) := dk_184 0 11 (dk_at dksX2_grow_2_0 18 rfl rfl)
theorem dX2_grow_2_21 : decode cX2_grow_2 21 = .ok (.iload_n 1, 1) := dk_27 (dk_at dksX2_grow_2_0 21 rfl rfl)
theorem dX2_grow_2_22 : decode cX2_grow_2 22 = .ok (.i2l, 1) := dk_133 (dk_at dksX2_grow_2_0 22 rfl rfl)
theorem dX2_grow_2_23 : decode cX2_grow_2 23 = .ok (.invokestatic 17, 3) := dk_184 0 17 (dk_at dksX2_grow_2_1 0 rfl rfl)
theorem dX2_grow_2_26 : decode cX2_grow_2 26 = .ok (.l2i, 1) := dk_136 (dk_at dksX2_grow_2_1 3 rfl rfl)
theorem dX2_grow_2_27 : decode cX2_grow_2 27 = .ok (.istore_n 3, 1) := dk_62 (dk_at dksX2_grow_2_1 4 rfl rfl)
theorem dX2_grow_2_28 : decode cX2_grow_2 28 = .ok (.iload_n 3, 1) := dk_29 (dk_at dksX2_grow_2_1 5 rfl rfl)
theorem dX2_grow_2_29 : decode cX2_grow_2 29 = .ok (.newarray .long, 2) := dk_188_11 (dk_at dksX2_grow_2_1 6 rfl rfl)
theorem dX2_grow_2_31 : decode cX2_grow_2 31 = .ok (.astore 4, 2) := dk_58 4 (dk_at dksX2_grow_2_1 8 rfl rfl)
theorem dX2_grow_2_33 : decode cX2_grow_2 33 = .ok (.aload_n 0, 1) := dk_42 (dk_at dksX2_grow_2_1 10 rfl rfl)
theorem dX2_grow_2_34 : decode cX2_grow_2 34 = .ok (.iconst 0, 1) := dk_3 (dk_at dksX2_grow_2_1 11 rfl rfl)
theorem dX2_grow_2_35 : decode cX2_grow_2 35 = .ok (.aload 4, 2) := dk_25 4 (dk_at dksX2_grow_2_1 12 rfl rfl)
theorem dX2_grow_2_37 : decode cX2_grow_2 37 = .ok (.iconst 0, 1) := dk_3 (dk_at dksX2_grow_2_1 14 rfl rfl)
theorem dX2_grow_2_38 : decode cX2_grow_2 38 = .ok (.iload_n 2, 1) := dk_28 (dk_at dksX2_grow_2_1 15 rfl rfl)
theorem dX2_grow_2_39 : decode cX2_grow_2 39 = .ok (.invokestatic 20, 3) := dk_184 0 20 (dk_at dksX2_grow_2_1 16 rfl rfl)
theorem dX2_grow_2_42 : decode cX2_grow_2 42 = .ok (.aload 4, 2) := dk_25 4 (dk_at dksX2_grow_2_1 19 rfl rfl)
theorem dX2_grow_2_44 : decode cX2_grow_2 44 = .ok (.areturn, 1) := dk_176 (dk_at dksX2_grow_2_1 21 rfl rfl)
theorem dX2_grow_2_45 : decode cX2_grow_2 45 = .ok (.aload_n 0, 1) := dk_42 (dk_at dksX2_grow_2_1 22 rfl rfl)
theorem dX2_grow_2_46 : decode cX2_grow_2 46 = .ok (.areturn, 1) := dk_176 (dk_at dksX2_grow_2_1 23 rfl rfl)
abbrev cX2_trim : ByteArray := prog_1_method_3_code
def yX2_trim : MethodName := ⟨RX2, "trim", "([JI)[J"⟩
def dkwX2_trim_1 : List UInt8 := [44, 3, 27, 184, 0, 20, 44, 176]
abbrev dktX2_trim_1 : List UInt8 := dkwX2_trim_1 ++ []
def dkwX2_trim_0 : List UInt8 := [27, 42, 190, 161, 0, 5, 42, 176, 27, 154, 0, 9, 178, 0, 26, 167, 0, 6, 27, 188, 11, 77, 42, 3]
abbrev dktX2_trim_0 : List UInt8 := dkwX2_trim_0 ++ dktX2_trim_1
theorem dksX2_trim_0 : cX2_trim.data.toList.drop 0 = dktX2_trim_0 := by decide +kernel
theorem dksX2_trim_1 : cX2_trim.data.toList.drop 24 = dktX2_trim_1 := dk_seg dksX2_trim_0 24 rfl rfl
theorem dX2_trim_0 : decode cX2_trim 0 = .ok (.iload_n 1, 1) := dk_27 (dk_at dksX2_trim_0 0 rfl rfl)
theorem dX2_trim_1 : decode cX2_trim 1 = .ok (.aload_n 0, 1) := dk_42 (dk_at dksX2_trim_0 1 rfl rfl)
theorem dX2_trim_2 : decode cX2_trim 2 = .ok (.arraylength, 1) := dk_190 (dk_at dksX2_trim_0 2 rfl rfl)
theorem dX2_trim_3 : decode cX2_trim 3 = .ok (.if_icmp .lt 5, 3) := dk_161 0 5 (dk_at dksX2_trim_0 3 rfl rfl)
theorem dX2_trim_6 : decode cX2_trim 6 = .ok (.aload_n 0, 1) := dk_42 (dk_at dksX2_trim_0 6 rfl rfl)
theorem dX2_trim_7 : decode cX2_trim 7 = .ok (.areturn, 1) := dk_176 (dk_at dksX2_trim_0 7 rfl rfl)
theorem dX2_trim_8 : decode cX2_trim 8 = .ok (.iload_n 1, 1) := dk_27 (dk_at dksX2_trim_0 8 rfl rfl)
theorem dX2_trim_9 : decode cX2_trim 9 = .ok (.ifCond .ne 9, 3) := dk_154 0 9 (dk_at dksX2_trim_0 9 rfl rfl)
theorem dX2_trim_12 : decode cX2_trim 12 = .ok (.getstatic 26, 3) := dk_178 0 26 (dk_at dksX2_trim_0 12 rfl rfl)
theorem dX2_trim_15 : decode cX2_trim 15 = .ok (.goto 6, 3) := dk_167 0 6 (dk_at dksX2_trim_0 15 rfl rfl)
theorem dX2_trim_18 : decode cX2_trim 18 = .ok (.iload_n 1, 1) := dk_27 (dk_at dksX2_trim_0 18 rfl rfl)
theorem dX2_trim_19 : decode cX2_trim 19 = .ok (.newarray .long, 2) := dk_188_11 (dk_at dksX2_trim_0 19 rfl rfl)
theorem dX2_trim_21 : decode cX2_trim 21 = .ok (.astore_n 2, 1) := dk_77 (dk_at dksX2_trim_0 21 rfl rfl)
theorem dX2_trim_22 : decode cX2_trim 22 = .ok (.aload_n 0, 1) := dk_42 (dk_at dksX2_trim_0 22 rfl rfl)
theorem dX2_trim_23 : decode cX2_trim 23 = .ok (.iconst 0, 1) := dk_3 (dk_at dksX2_trim_0 23 rfl rfl)
theorem dX2_trim_24 : decode cX2_trim 24 = .ok (.aload_n 2, 1) := dk_44 (dk_at dksX2_trim_1 0 rfl rfl)
theorem dX2_trim_25 : decode cX2_trim 25 = .ok (.iconst 0, 1) := dk_3 (dk_at dksX2_trim_1 1 rfl rfl)
theorem dX2_trim_26 : decode cX2_trim 26 = .ok (.iload_n 1, 1) := dk_27 (dk_at dksX2_trim_1 2 rfl rfl)
theorem dX2_trim_27 : decode cX2_trim 27 = .ok (.invokestatic 20, 3) := dk_184 0 20 (dk_at dksX2_trim_1 3 rfl rfl)
theorem dX2_trim_30 : decode cX2_trim 30 = .ok (.aload_n 2, 1) := dk_44 (dk_at dksX2_trim_1 6 rfl rfl)
theorem dX2_trim_31 : decode cX2_trim 31 = .ok (.areturn, 1) := dk_176 (dk_at dksX2_trim_1 7 rfl rfl)
theorem q5 : (Jvm.Cond.initialized "LongArrays") ∈ lw_all := lw_g (lw_at lw_m1 3 rfl) rfl
theorem q32 : (Jvm.Cond.laysStatic "LongArrays" "EMPTY_ARRAY" "[J") ∈ lw_tbl := lw_at lw_m1 30 rfl
theorem q65 : (Jvm.Cond.static ({ cls := "LongArrays", name := "grow", desc := "([JI)[J" } : Jvm.MethodName)) ∈ lw_all := lw_g (lw_at lw_m1 63 rfl) rfl
theorem q66 : (Jvm.Cond.code ({ cls := "LongArrays", name := "grow", desc := "([JI)[J" } : Jvm.MethodName) prog_1_method_1_code (2 : Nat) (Option.some (Jvm.ClassFile.FieldType.array Jvm.ClassFile.FieldType.long))) ∈ lw_all := lw_g (lw_at lw_m1 64 rfl) rfl
theorem q67 : (Jvm.Cond.methodLink "LongArrays" (1 : Nat) ({ cls := "LongArrays", name := "grow", desc := "([JII)[J" } : Jvm.MethodName)) ∈ lw_all := lw_g (lw_at lw_m1 65 rfl) rfl
theorem q68 : (Jvm.Cond.static ({ cls := "LongArrays", name := "grow", desc := "([JII)[J" } : Jvm.MethodName)) ∈ lw_all := lw_g (lw_at lw_m1 66 rfl) rfl
theorem q69 : (Jvm.Cond.code ({ cls := "LongArrays", name := "grow", desc := "([JII)[J" } : Jvm.MethodName) prog_1_method_2_code (5 : Nat) (Option.some (Jvm.ClassFile.FieldType.array Jvm.ClassFile.FieldType.long))) ∈ lw_all := lw_g (lw_at lw_m1 67 rfl) rfl
theorem q70 : (Jvm.Cond.constantLong "LongArrays" (9 : Nat) (2147483639 : Int64)) ∈ lw_all := lw_g (lw_at lw_m1 68 rfl) rfl
theorem q71 : (Jvm.Cond.methodLink "LongArrays" (11 : Nat) ({ cls := "java/lang/Math", name := "min", desc := "(JJ)J" } : Jvm.MethodName)) ∈ lw_all := lw_g (lw_at lw_m1 69 rfl) rfl
theorem q74 : (Jvm.Cond.methodLink "LongArrays" (17 : Nat) ({ cls := "java/lang/Math", name := "max", desc := "(JJ)J" } : Jvm.MethodName)) ∈ lw_all := lw_g (lw_at lw_m1 72 rfl) rfl
theorem q77 : (Jvm.Cond.methodLink "LongArrays" (20 : Nat) ({ cls := "java/lang/System", name := "arraycopy", desc := "(Ljava/lang/Object;ILjava/lang/Object;II)V" } : Jvm.MethodName)) ∈ lw_all := lw_g (lw_at lw_m1 75 rfl) rfl
theorem q202 : (Jvm.Cond.static ({ cls := "LongArrays", name := "trim", desc := "([JI)[J" } : Jvm.MethodName)) ∈ lw_all := lw_g (lw_at lw_m1 200 rfl) rfl
theorem q203 : (Jvm.Cond.code ({ cls := "LongArrays", name := "trim", desc := "([JI)[J" } : Jvm.MethodName) prog_1_method_3_code (3 : Nat) (Option.some (Jvm.ClassFile.FieldType.array Jvm.ClassFile.FieldType.long))) ∈ lw_all := lw_g (lw_at lw_m1 201 rfl) rfl
theorem q204 : (Jvm.Cond.fieldLink "LongArrays" (26 : Nat) "LongArrays" "EMPTY_ARRAY" "[J") ∈ lw_all := lw_g (lw_at lw_m1 202 rfl) rfl
/-! LongHeapDeskModel -/
def RX3 : String := "LongHeapDeskModel"
def TX3 : u_T := fun k => match k with
  | 0 => ("LongHeapDeskModel", "bag", "[J", true)
  | _ => ("LongHeapDeskModel", "many", "I", false)
def tyX3 : Nat → FieldType := fun k => match k with
  | 0 => .array .long
  | _ => .int
abbrev wsX30 : List Cond := u_ws RX3 TX3 2
theorem nmX3 : ∀ a, a < 2 → ∀ b, b < 2 → a ≠ b → (TX3 a).2.1 ≠ (TX3 b).2.1 := by decide +kernel
theorem tyX3_ok : ∀ k, k < 2 → parseFieldDescriptor (TX3 k).2.2.1 = some (tyX3 k) := by decide +kernel
abbrev cX3_init : ByteArray := prog_5_method_1_code
def yX3_init : MethodName := ⟨RX3, "<init>", "()V"⟩
def dkwX3_init_0 : List UInt8 := [42, 183, 0, 1, 42, 17, 0, 200, 188, 11, 181, 0, 9, 177]
abbrev dktX3_init_0 : List UInt8 := dkwX3_init_0 ++ []
theorem dksX3_init_0 : cX3_init.data.toList.drop 0 = dktX3_init_0 := by decide +kernel
theorem dX3_init_0 : decode cX3_init 0 = .ok (.aload_n 0, 1) := dk_42 (dk_at dksX3_init_0 0 rfl rfl)
theorem dX3_init_1 : decode cX3_init 1 = .ok (.invokespecial 1, 3) := dk_183 0 1 (dk_at dksX3_init_0 1 rfl rfl)
theorem dX3_init_4 : decode cX3_init 4 = .ok (.aload_n 0, 1) := dk_42 (dk_at dksX3_init_0 4 rfl rfl)
theorem dX3_init_5 : decode cX3_init 5 = .ok (.sipush 200, 3) := dk_17 0 200 (dk_at dksX3_init_0 5 rfl rfl)
theorem dX3_init_8 : decode cX3_init 8 = .ok (.newarray .long, 2) := dk_188_11 (dk_at dksX3_init_0 8 rfl rfl)
theorem dX3_init_10 : decode cX3_init 10 = .ok (.putfield 9, 3) := dk_181 0 9 (dk_at dksX3_init_0 10 rfl rfl)
theorem dX3_init_13 : decode cX3_init 13 = .ok (.return_, 1) := dk_177 (dk_at dksX3_init_0 13 rfl rfl)
abbrev cX3_enter : ByteArray := prog_5_method_4_code
def yX3_enter : MethodName := ⟨RX3, "enter", "(II)Z"⟩
def dkwX3_enter_1 : List UInt8 := [184, 0, 19, 80, 42, 89, 180, 0, 15, 4, 96, 181, 0, 15, 4, 172]
abbrev dktX3_enter_1 : List UInt8 := dkwX3_enter_1 ++ []
def dkwX3_enter_0 : List UInt8 := [42, 180, 0, 15, 17, 0, 200, 161, 0, 5, 3, 172, 42, 180, 0, 9, 42, 180, 0, 15, 27, 28]
abbrev dktX3_enter_0 : List UInt8 := dkwX3_enter_0 ++ dktX3_enter_1
theorem dksX3_enter_0 : cX3_enter.data.toList.drop 0 = dktX3_enter_0 := by decide +kernel
theorem dksX3_enter_1 : cX3_enter.data.toList.drop 22 = dktX3_enter_1 := dk_seg dksX3_enter_0 22 rfl rfl
theorem dX3_enter_0 : decode cX3_enter 0 = .ok (.aload_n 0, 1) := dk_42 (dk_at dksX3_enter_0 0 rfl rfl)
theorem dX3_enter_1 : decode cX3_enter 1 = .ok (.getfield 15, 3) := dk_180 0 15 (dk_at dksX3_enter_0 1 rfl rfl)
theorem dX3_enter_4 : decode cX3_enter 4 = .ok (.sipush 200, 3) := dk_17 0 200 (dk_at dksX3_enter_0 4 rfl rfl)
theorem dX3_enter_7 : decode cX3_enter 7 = .ok (.if_icmp .lt 5, 3) := dk_161 0 5 (dk_at dksX3_enter_0 7 rfl rfl)
theorem dX3_enter_10 : decode cX3_enter 10 = .ok (.iconst 0, 1) := dk_3 (dk_at dksX3_enter_0 10 rfl rfl)
theorem dX3_enter_11 : decode cX3_enter 11 = .ok (.ireturn, 1) := dk_172 (dk_at dksX3_enter_0 11 rfl rfl)
theorem dX3_enter_12 : decode cX3_enter 12 = .ok (.aload_n 0, 1) := dk_42 (dk_at dksX3_enter_0 12 rfl rfl)
theorem dX3_enter_13 : decode cX3_enter 13 = .ok (.getfield 9, 3) := dk_180 0 9 (dk_at dksX3_enter_0 13 rfl rfl)
theorem dX3_enter_16 : decode cX3_enter 16 = .ok (.aload_n 0, 1) := dk_42 (dk_at dksX3_enter_0 16 rfl rfl)
theorem dX3_enter_17 : decode cX3_enter 17 = .ok (.getfield 15, 3) := dk_180 0 15 (dk_at dksX3_enter_0 17 rfl rfl)
theorem dX3_enter_20 : decode cX3_enter 20 = .ok (.iload_n 1, 1) := dk_27 (dk_at dksX3_enter_0 20 rfl rfl)
theorem dX3_enter_21 : decode cX3_enter 21 = .ok (.iload_n 2, 1) := dk_28 (dk_at dksX3_enter_0 21 rfl rfl)
theorem dX3_enter_22 : decode cX3_enter 22 = .ok (.invokestatic 19, 3) := dk_184 0 19 (dk_at dksX3_enter_1 0 rfl rfl)
theorem dX3_enter_25 : decode cX3_enter 25 = .ok (.lastore, 1) := dk_80 (dk_at dksX3_enter_1 3 rfl rfl)
theorem dX3_enter_26 : decode cX3_enter 26 = .ok (.aload_n 0, 1) := dk_42 (dk_at dksX3_enter_1 4 rfl rfl)
theorem dX3_enter_27 : decode cX3_enter 27 = .ok (.dup, 1) := dk_89 (dk_at dksX3_enter_1 5 rfl rfl)
theorem dX3_enter_28 : decode cX3_enter 28 = .ok (.getfield 15, 3) := dk_180 0 15 (dk_at dksX3_enter_1 6 rfl rfl)
theorem dX3_enter_31 : decode cX3_enter 31 = .ok (.iconst 1, 1) := dk_4 (dk_at dksX3_enter_1 9 rfl rfl)
theorem dX3_enter_32 : decode cX3_enter 32 = .ok (.iadd, 1) := dk_96 (dk_at dksX3_enter_1 10 rfl rfl)
theorem dX3_enter_33 : decode cX3_enter 33 = .ok (.putfield 15, 3) := dk_181 0 15 (dk_at dksX3_enter_1 11 rfl rfl)
theorem dX3_enter_36 : decode cX3_enter 36 = .ok (.iconst 1, 1) := dk_4 (dk_at dksX3_enter_1 14 rfl rfl)
theorem dX3_enter_37 : decode cX3_enter 37 = .ok (.ireturn, 1) := dk_172 (dk_at dksX3_enter_1 15 rfl rfl)
abbrev cX3_wide : ByteArray := prog_5_method_2_code
def yX3_wide : MethodName := ⟨RX3, "wide", "(II)J"⟩
def dkwX3_wide_1 : List UInt8 := [97, 65, 132, 4, 255, 167, 255, 234, 32, 173]
abbrev dktX3_wide_1 : List UInt8 := dkwX3_wide_1 ++ []
def dkwX3_wide_0 : List UInt8 := [26, 133, 65, 16, 31, 54, 4, 21, 4, 155, 0, 23, 20, 0, 13, 32, 105, 27, 21, 4, 122, 4, 126, 133]
abbrev dktX3_wide_0 : List UInt8 := dkwX3_wide_0 ++ dktX3_wide_1
theorem dksX3_wide_0 : cX3_wide.data.toList.drop 0 = dktX3_wide_0 := by decide +kernel
theorem dksX3_wide_1 : cX3_wide.data.toList.drop 24 = dktX3_wide_1 := dk_seg dksX3_wide_0 24 rfl rfl
theorem dX3_wide_0 : decode cX3_wide 0 = .ok (.iload_n 0, 1) := dk_26 (dk_at dksX3_wide_0 0 rfl rfl)
theorem dX3_wide_1 : decode cX3_wide 1 = .ok (.i2l, 1) := dk_133 (dk_at dksX3_wide_0 1 rfl rfl)
theorem dX3_wide_2 : decode cX3_wide 2 = .ok (.lstore_n 2, 1) := dk_65 (dk_at dksX3_wide_0 2 rfl rfl)
theorem dX3_wide_3 : decode cX3_wide 3 = .ok (.bipush 31, 2) := dk_16 31 (dk_at dksX3_wide_0 3 rfl rfl)
theorem dX3_wide_5 : decode cX3_wide 5 = .ok (.istore 4, 2) := dk_54 4 (dk_at dksX3_wide_0 5 rfl rfl)
theorem dX3_wide_7 : decode cX3_wide 7 = .ok (.iload 4, 2) := dk_21 4 (dk_at dksX3_wide_0 7 rfl rfl)
theorem dX3_wide_9 : decode cX3_wide 9 = .ok (.ifCond .lt 23, 3) := dk_155 0 23 (dk_at dksX3_wide_0 9 rfl rfl)
theorem dX3_wide_12 : decode cX3_wide 12 = .ok (.ldc2_w 13, 3) := dk_20 0 13 (dk_at dksX3_wide_0 12 rfl rfl)
theorem dX3_wide_15 : decode cX3_wide 15 = .ok (.lload_n 2, 1) := dk_32 (dk_at dksX3_wide_0 15 rfl rfl)
theorem dX3_wide_16 : decode cX3_wide 16 = .ok (.lmul, 1) := dk_105 (dk_at dksX3_wide_0 16 rfl rfl)
theorem dX3_wide_17 : decode cX3_wide 17 = .ok (.iload_n 1, 1) := dk_27 (dk_at dksX3_wide_0 17 rfl rfl)
theorem dX3_wide_18 : decode cX3_wide 18 = .ok (.iload 4, 2) := dk_21 4 (dk_at dksX3_wide_0 18 rfl rfl)
theorem dX3_wide_20 : decode cX3_wide 20 = .ok (.ishr, 1) := dk_122 (dk_at dksX3_wide_0 20 rfl rfl)
theorem dX3_wide_21 : decode cX3_wide 21 = .ok (.iconst 1, 1) := dk_4 (dk_at dksX3_wide_0 21 rfl rfl)
theorem dX3_wide_22 : decode cX3_wide 22 = .ok (.iand, 1) := dk_126 (dk_at dksX3_wide_0 22 rfl rfl)
theorem dX3_wide_23 : decode cX3_wide 23 = .ok (.i2l, 1) := dk_133 (dk_at dksX3_wide_0 23 rfl rfl)
theorem dX3_wide_24 : decode cX3_wide 24 = .ok (.ladd, 1) := dk_97 (dk_at dksX3_wide_1 0 rfl rfl)
theorem dX3_wide_25 : decode cX3_wide 25 = .ok (.lstore_n 2, 1) := dk_65 (dk_at dksX3_wide_1 1 rfl rfl)
theorem dX3_wide_26 : decode cX3_wide 26 = .ok (.iinc 4 (-1), 3) := dk_132 4 255 (dk_at dksX3_wide_1 2 rfl rfl)
theorem dX3_wide_29 : decode cX3_wide 29 = .ok (.goto (-22), 3) := dk_167 255 234 (dk_at dksX3_wide_1 5 rfl rfl)
theorem dX3_wide_32 : decode cX3_wide 32 = .ok (.lload_n 2, 1) := dk_32 (dk_at dksX3_wide_1 8 rfl rfl)
theorem dX3_wide_33 : decode cX3_wide 33 = .ok (.lreturn, 1) := dk_173 (dk_at dksX3_wide_1 9 rfl rfl)
abbrev cX3_whole : ByteArray := prog_5_method_5_code
def yX3_whole : MethodName := ⟨RX3, "whole", "(III)Z"⟩
def dkwX3_whole_2 : List UInt8 := [167, 255, 224, 42, 180, 0, 15, 158, 0, 7, 4, 167, 0, 4, 3, 172]
abbrev dktX3_whole_2 : List UInt8 := dkwX3_whole_2 ++ []
def dkwX3_whole_1 : List UInt8 := [42, 180, 0, 9, 21, 6, 22, 4, 80, 22, 4, 20, 0, 23, 105, 28, 133, 97, 55, 4, 132, 6, 1]
abbrev dktX3_whole_1 : List UInt8 := dkwX3_whole_1 ++ dktX3_whole_2
def dkwX3_whole_0 : List UInt8 := [42, 29, 16, 63, 126, 181, 0, 15, 27, 133, 55, 4, 3, 54, 6, 21, 6, 42, 180, 0, 15, 162, 0, 29]
abbrev dktX3_whole_0 : List UInt8 := dkwX3_whole_0 ++ dktX3_whole_1
theorem dksX3_whole_0 : cX3_whole.data.toList.drop 0 = dktX3_whole_0 := by decide +kernel
theorem dksX3_whole_1 : cX3_whole.data.toList.drop 24 = dktX3_whole_1 := dk_seg dksX3_whole_0 24 rfl rfl
theorem dksX3_whole_2 : cX3_whole.data.toList.drop 47 = dktX3_whole_2 := dk_seg dksX3_whole_1 23 rfl rfl
theorem dX3_whole_0 : decode cX3_whole 0 = .ok (.aload_n 0, 1) := dk_42 (dk_at dksX3_whole_0 0 rfl rfl)
theorem dX3_whole_1 : decode cX3_whole 1 = .ok (.iload_n 3, 1) := dk_29 (dk_at dksX3_whole_0 1 rfl rfl)
theorem dX3_whole_2 : decode cX3_whole 2 = .ok (.bipush 63, 2) := dk_16 63 (dk_at dksX3_whole_0 2 rfl rfl)
theorem dX3_whole_4 : decode cX3_whole 4 = .ok (.iand, 1) := dk_126 (dk_at dksX3_whole_0 4 rfl rfl)
theorem dX3_whole_5 : decode cX3_whole 5 = .ok (.putfield 15, 3) := dk_181 0 15 (dk_at dksX3_whole_0 5 rfl rfl)
theorem dX3_whole_8 : decode cX3_whole 8 = .ok (.iload_n 1, 1) := dk_27 (dk_at dksX3_whole_0 8 rfl rfl)
theorem dX3_whole_9 : decode cX3_whole 9 = .ok (.i2l, 1) := dk_133 (dk_at dksX3_whole_0 9 rfl rfl)
theorem dX3_whole_10 : decode cX3_whole 10 = .ok (.lstore 4, 2) := dk_55 4 (dk_at dksX3_whole_0 10 rfl rfl)
theorem dX3_whole_12 : decode cX3_whole 12 = .ok (.iconst 0, 1) := dk_3 (dk_at dksX3_whole_0 12 rfl rfl)
theorem dX3_whole_13 : decode cX3_whole 13 = .ok (.istore 6, 2) := dk_54 6 (dk_at dksX3_whole_0 13 rfl rfl)
theorem dX3_whole_15 : decode cX3_whole 15 = .ok (.iload 6, 2) := dk_21 6 (dk_at dksX3_whole_0 15 rfl rfl)
theorem dX3_whole_17 : decode cX3_whole 17 = .ok (.aload_n 0, 1) := dk_42 (dk_at dksX3_whole_0 17 rfl rfl)
theorem dX3_whole_18 : decode cX3_whole 18 = .ok (.getfield 15, 3) := dk_180 0 15 (dk_at dksX3_whole_0 18 rfl rfl)
theorem dX3_whole_21 : decode cX3_whole 21 = .ok (.if_icmp .ge 29, 3) := dk_162 0 29 (dk_at dksX3_whole_0 21 rfl rfl)
theorem dX3_whole_24 : decode cX3_whole 24 = .ok (.aload_n 0, 1) := dk_42 (dk_at dksX3_whole_1 0 rfl rfl)
theorem dX3_whole_25 : decode cX3_whole 25 = .ok (.getfield 9, 3) := dk_180 0 9 (dk_at dksX3_whole_1 1 rfl rfl)
theorem dX3_whole_28 : decode cX3_whole 28 = .ok (.iload 6, 2) := dk_21 6 (dk_at dksX3_whole_1 4 rfl rfl)
theorem dX3_whole_30 : decode cX3_whole 30 = .ok (.lload 4, 2) := dk_22 4 (dk_at dksX3_whole_1 6 rfl rfl)
theorem dX3_whole_32 : decode cX3_whole 32 = .ok (.lastore, 1) := dk_80 (dk_at dksX3_whole_1 8 rfl rfl)
theorem dX3_whole_33 : decode cX3_whole 33 = .ok (.lload 4, 2) := dk_22 4 (dk_at dksX3_whole_1 9 rfl rfl)
theorem dX3_whole_35 : decode cX3_whole 35 = .ok (.ldc2_w 23, 3) := dk_20 0 23 (dk_at dksX3_whole_1 11 rfl rfl)
theorem dX3_whole_38 : decode cX3_whole 38 = .ok (.lmul, 1) := dk_105 (dk_at dksX3_whole_1 14 rfl rfl)
theorem dX3_whole_39 : decode cX3_whole 39 = .ok (.iload_n 2, 1) := dk_28 (dk_at dksX3_whole_1 15 rfl rfl)
theorem dX3_whole_40 : decode cX3_whole 40 = .ok (.i2l, 1) := dk_133 (dk_at dksX3_whole_1 16 rfl rfl)
theorem dX3_whole_41 : decode cX3_whole 41 = .ok (.ladd, 1) := dk_97 (dk_at dksX3_whole_1 17 rfl rfl)
theorem dX3_whole_42 : decode cX3_whole 42 = .ok (.lstore 4, 2) := dk_55 4 (dk_at dksX3_whole_1 18 rfl rfl)
theorem dX3_whole_44 : decode cX3_whole 44 = .ok (.iinc 6 1, 3) := dk_132 6 1 (dk_at dksX3_whole_1 20 rfl rfl)
theorem dX3_whole_47 : decode cX3_whole 47 = .ok (.goto (-32), 3) := dk_167 255 224 (dk_at dksX3_whole_2 0 rfl rfl)
theorem dX3_whole_50 : decode cX3_whole 50 = .ok (.aload_n 0, 1) := dk_42 (dk_at dksX3_whole_2 3 rfl rfl)
theorem dX3_whole_51 : decode cX3_whole 51 = .ok (.getfield 15, 3) := dk_180 0 15 (dk_at dksX3_whole_2 4 rfl rfl)
theorem dX3_whole_54 : decode cX3_whole 54 = .ok (.ifCond .le 7, 3) := dk_158 0 7 (dk_at dksX3_whole_2 7 rfl rfl)
theorem dX3_whole_57 : decode cX3_whole 57 = .ok (.iconst 1, 1) := dk_4 (dk_at dksX3_whole_2 10 rfl rfl)
theorem dX3_whole_58 : decode cX3_whole 58 = .ok (.goto 4, 3) := dk_167 0 4 (dk_at dksX3_whole_2 11 rfl rfl)
theorem dX3_whole_61 : decode cX3_whole 61 = .ok (.iconst 0, 1) := dk_3 (dk_at dksX3_whole_2 14 rfl rfl)
theorem dX3_whole_62 : decode cX3_whole 62 = .ok (.ireturn, 1) := dk_172 (dk_at dksX3_whole_2 15 rfl rfl)
abbrev cX3_least : ByteArray := prog_5_method_6_code
def yX3_least : MethodName := ⟨RX3, "least", "()J"⟩
def dkwX3_least_0 : List UInt8 := [42, 180, 0, 15, 154, 0, 7, 9, 167, 0, 12, 42, 180, 0, 9, 42, 182, 0, 25, 47, 173]
abbrev dktX3_least_0 : List UInt8 := dkwX3_least_0 ++ []
theorem dksX3_least_0 : cX3_least.data.toList.drop 0 = dktX3_least_0 := by decide +kernel
theorem dX3_least_0 : decode cX3_least 0 = .ok (.aload_n 0, 1) := dk_42 (dk_at dksX3_least_0 0 rfl rfl)
theorem dX3_least_1 : decode cX3_least 1 = .ok (.getfield 15, 3) := dk_180 0 15 (dk_at dksX3_least_0 1 rfl rfl)
theorem dX3_least_4 : decode cX3_least 4 = .ok (.ifCond .ne 7, 3) := dk_154 0 7 (dk_at dksX3_least_0 4 rfl rfl)
theorem dX3_least_7 : decode cX3_least 7 = .ok (.lconst 0, 1) := dk_9 (dk_at dksX3_least_0 7 rfl rfl)
theorem dX3_least_8 : decode cX3_least 8 = .ok (.goto 12, 3) := dk_167 0 12 (dk_at dksX3_least_0 8 rfl rfl)
theorem dX3_least_11 : decode cX3_least 11 = .ok (.aload_n 0, 1) := dk_42 (dk_at dksX3_least_0 11 rfl rfl)
theorem dX3_least_12 : decode cX3_least 12 = .ok (.getfield 9, 3) := dk_180 0 9 (dk_at dksX3_least_0 12 rfl rfl)
theorem dX3_least_15 : decode cX3_least 15 = .ok (.aload_n 0, 1) := dk_42 (dk_at dksX3_least_0 15 rfl rfl)
theorem dX3_least_16 : decode cX3_least 16 = .ok (.invokevirtual 25, 3) := dk_182 0 25 (dk_at dksX3_least_0 16 rfl rfl)
theorem dX3_least_19 : decode cX3_least 19 = .ok (.laload, 1) := dk_47 (dk_at dksX3_least_0 19 rfl rfl)
theorem dX3_least_20 : decode cX3_least 20 = .ok (.lreturn, 1) := dk_173 (dk_at dksX3_least_0 20 rfl rfl)
abbrev cX3_leastAt : ByteArray := prog_5_method_3_code
def yX3_leastAt : MethodName := ⟨RX3, "leastAt", "()I"⟩
def dkwX3_leastAt_1 : List UInt8 := [148, 156, 0, 7, 28, 167, 0, 4, 27, 60, 132, 2, 1, 167, 255, 223, 27, 172]
abbrev dktX3_leastAt_1 : List UInt8 := dkwX3_leastAt_1 ++ []
def dkwX3_leastAt_0 : List UInt8 := [3, 60, 4, 61, 28, 42, 180, 0, 15, 162, 0, 31, 42, 180, 0, 9, 28, 47, 42, 180, 0, 9, 27, 47]
abbrev dktX3_leastAt_0 : List UInt8 := dkwX3_leastAt_0 ++ dktX3_leastAt_1
theorem dksX3_leastAt_0 : cX3_leastAt.data.toList.drop 0 = dktX3_leastAt_0 := by decide +kernel
theorem dksX3_leastAt_1 : cX3_leastAt.data.toList.drop 24 = dktX3_leastAt_1 := dk_seg dksX3_leastAt_0 24 rfl rfl
theorem dX3_leastAt_0 : decode cX3_leastAt 0 = .ok (.iconst 0, 1) := dk_3 (dk_at dksX3_leastAt_0 0 rfl rfl)
theorem dX3_leastAt_1 : decode cX3_leastAt 1 = .ok (.istore_n 1, 1) := dk_60 (dk_at dksX3_leastAt_0 1 rfl rfl)
theorem dX3_leastAt_2 : decode cX3_leastAt 2 = .ok (.iconst 1, 1) := dk_4 (dk_at dksX3_leastAt_0 2 rfl rfl)
theorem dX3_leastAt_3 : decode cX3_leastAt 3 = .ok (.istore_n 2, 1) := dk_61 (dk_at dksX3_leastAt_0 3 rfl rfl)
theorem dX3_leastAt_4 : decode cX3_leastAt 4 = .ok (.iload_n 2, 1) := dk_28 (dk_at dksX3_leastAt_0 4 rfl rfl)
theorem dX3_leastAt_5 : decode cX3_leastAt 5 = .ok (.aload_n 0, 1) := dk_42 (dk_at dksX3_leastAt_0 5 rfl rfl)
theorem dX3_leastAt_6 : decode cX3_leastAt 6 = .ok (.getfield 15, 3) := dk_180 0 15 (dk_at dksX3_leastAt_0 6 rfl rfl)
theorem dX3_leastAt_9 : decode cX3_leastAt 9 = .ok (.if_icmp .ge 31, 3) := dk_162 0 31 (dk_at dksX3_leastAt_0 9 rfl rfl)
theorem dX3_leastAt_12 : decode cX3_leastAt 12 = .ok (.aload_n 0, 1) := dk_42 (dk_at dksX3_leastAt_0 12 rfl rfl)
theorem dX3_leastAt_13 : decode cX3_leastAt 13 = .ok (.getfield 9, 3) := dk_180 0 9 (dk_at dksX3_leastAt_0 13 rfl rfl)
theorem dX3_leastAt_16 : decode cX3_leastAt 16 = .ok (.iload_n 2, 1) := dk_28 (dk_at dksX3_leastAt_0 16 rfl rfl)
theorem dX3_leastAt_17 : decode cX3_leastAt 17 = .ok (.laload, 1) := dk_47 (dk_at dksX3_leastAt_0 17 rfl rfl)
theorem dX3_leastAt_18 : decode cX3_leastAt 18 = .ok (.aload_n 0, 1) := dk_42 (dk_at dksX3_leastAt_0 18 rfl rfl)
theorem dX3_leastAt_19 : decode cX3_leastAt 19 = .ok (.getfield 9, 3) := dk_180 0 9 (dk_at dksX3_leastAt_0 19 rfl rfl)
theorem dX3_leastAt_22 : decode cX3_leastAt 22 = .ok (.iload_n 1, 1) := dk_27 (dk_at dksX3_leastAt_0 22 rfl rfl)
theorem dX3_leastAt_23 : decode cX3_leastAt 23 = .ok (.laload, 1) := dk_47 (dk_at dksX3_leastAt_0 23 rfl rfl)
theorem dX3_leastAt_24 : decode cX3_leastAt 24 = .ok (.lcmp, 1) := dk_148 (dk_at dksX3_leastAt_1 0 rfl rfl)
theorem dX3_leastAt_25 : decode cX3_leastAt 25 = .ok (.ifCond .ge 7, 3) := dk_156 0 7 (dk_at dksX3_leastAt_1 1 rfl rfl)
theorem dX3_leastAt_28 : decode cX3_leastAt 28 = .ok (.iload_n 2, 1) := dk_28 (dk_at dksX3_leastAt_1 4 rfl rfl)
theorem dX3_leastAt_29 : decode cX3_leastAt 29 = .ok (.goto 4, 3) := dk_167 0 4 (dk_at dksX3_leastAt_1 5 rfl rfl)
theorem dX3_leastAt_32 : decode cX3_leastAt 32 = .ok (.iload_n 1, 1) := dk_27 (dk_at dksX3_leastAt_1 8 rfl rfl)
theorem dX3_leastAt_33 : decode cX3_leastAt 33 = .ok (.istore_n 1, 1) := dk_60 (dk_at dksX3_leastAt_1 9 rfl rfl)
theorem dX3_leastAt_34 : decode cX3_leastAt 34 = .ok (.iinc 2 1, 3) := dk_132 2 1 (dk_at dksX3_leastAt_1 10 rfl rfl)
theorem dX3_leastAt_37 : decode cX3_leastAt 37 = .ok (.goto (-33), 3) := dk_167 255 223 (dk_at dksX3_leastAt_1 13 rfl rfl)
theorem dX3_leastAt_40 : decode cX3_leastAt 40 = .ok (.iload_n 1, 1) := dk_27 (dk_at dksX3_leastAt_1 16 rfl rfl)
theorem dX3_leastAt_41 : decode cX3_leastAt 41 = .ok (.ireturn, 1) := dk_172 (dk_at dksX3_leastAt_1 17 rfl rfl)
abbrev cX3_take : ByteArray := prog_5_method_7_code
def yX3_take : MethodName := ⟨RX3, "take", "()J"⟩
def dkwX3_take_2 : List UInt8 := [173]
abbrev dktX3_take_2 : List UInt8 := dkwX3_take_2 ++ []
def dkwX3_take_1 : List UInt8 := [180, 0, 15, 4, 100, 181, 0, 15, 42, 180, 0, 9, 27, 42, 180, 0, 9, 42, 180, 0, 15, 47, 80, 32]
abbrev dktX3_take_1 : List UInt8 := dkwX3_take_1 ++ dktX3_take_2
def dkwX3_take_0 : List UInt8 := [42, 180, 0, 15, 154, 0, 5, 9, 173, 42, 182, 0, 25, 60, 42, 180, 0, 9, 27, 47, 65, 42, 89]
abbrev dktX3_take_0 : List UInt8 := dkwX3_take_0 ++ dktX3_take_1
theorem dksX3_take_0 : cX3_take.data.toList.drop 0 = dktX3_take_0 := by decide +kernel
theorem dksX3_take_1 : cX3_take.data.toList.drop 23 = dktX3_take_1 := dk_seg dksX3_take_0 23 rfl rfl
theorem dksX3_take_2 : cX3_take.data.toList.drop 47 = dktX3_take_2 := dk_seg dksX3_take_1 24 rfl rfl
theorem dX3_take_0 : decode cX3_take 0 = .ok (.aload_n 0, 1) := dk_42 (dk_at dksX3_take_0 0 rfl rfl)
theorem dX3_take_1 : decode cX3_take 1 = .ok (.getfield 15, 3) := dk_180 0 15 (dk_at dksX3_take_0 1 rfl rfl)
theorem dX3_take_4 : decode cX3_take 4 = .ok (.ifCond .ne 5, 3) := dk_154 0 5 (dk_at dksX3_take_0 4 rfl rfl)
theorem dX3_take_7 : decode cX3_take 7 = .ok (.lconst 0, 1) := dk_9 (dk_at dksX3_take_0 7 rfl rfl)
theorem dX3_take_8 : decode cX3_take 8 = .ok (.lreturn, 1) := dk_173 (dk_at dksX3_take_0 8 rfl rfl)
theorem dX3_take_9 : decode cX3_take 9 = .ok (.aload_n 0, 1) := dk_42 (dk_at dksX3_take_0 9 rfl rfl)
theorem dX3_take_10 : decode cX3_take 10 = .ok (.invokevirtual 25, 3) := dk_182 0 25 (dk_at dksX3_take_0 10 rfl rfl)
theorem dX3_take_13 : decode cX3_take 13 = .ok (.istore_n 1, 1) := dk_60 (dk_at dksX3_take_0 13 rfl rfl)
theorem dX3_take_14 : decode cX3_take 14 = .ok (.aload_n 0, 1) := dk_42 (dk_at dksX3_take_0 14 rfl rfl)
theorem dX3_take_15 : decode cX3_take 15 = .ok (.getfield 9, 3) := dk_180 0 9 (dk_at dksX3_take_0 15 rfl rfl)
theorem dX3_take_18 : decode cX3_take 18 = .ok (.iload_n 1, 1) := dk_27 (dk_at dksX3_take_0 18 rfl rfl)
theorem dX3_take_19 : decode cX3_take 19 = .ok (.laload, 1) := dk_47 (dk_at dksX3_take_0 19 rfl rfl)
theorem dX3_take_20 : decode cX3_take 20 = .ok (.lstore_n 2, 1) := dk_65 (dk_at dksX3_take_0 20 rfl rfl)
theorem dX3_take_21 : decode cX3_take 21 = .ok (.aload_n 0, 1) := dk_42 (dk_at dksX3_take_0 21 rfl rfl)
theorem dX3_take_22 : decode cX3_take 22 = .ok (.dup, 1) := dk_89 (dk_at dksX3_take_0 22 rfl rfl)
theorem dX3_take_23 : decode cX3_take 23 = .ok (.getfield 15, 3) := dk_180 0 15 (dk_at dksX3_take_1 0 rfl rfl)
theorem dX3_take_26 : decode cX3_take 26 = .ok (.iconst 1, 1) := dk_4 (dk_at dksX3_take_1 3 rfl rfl)
theorem dX3_take_27 : decode cX3_take 27 = .ok (.isub, 1) := dk_100 (dk_at dksX3_take_1 4 rfl rfl)
theorem dX3_take_28 : decode cX3_take 28 = .ok (.putfield 15, 3) := dk_181 0 15 (dk_at dksX3_take_1 5 rfl rfl)
theorem dX3_take_31 : decode cX3_take 31 = .ok (.aload_n 0, 1) := dk_42 (dk_at dksX3_take_1 8 rfl rfl)
theorem dX3_take_32 : decode cX3_take 32 = .ok (.getfield 9, 3) := dk_180 0 9 (dk_at dksX3_take_1 9 rfl rfl)
theorem dX3_take_35 : decode cX3_take 35 = .ok (.iload_n 1, 1) := dk_27 (dk_at dksX3_take_1 12 rfl rfl)
theorem dX3_take_36 : decode cX3_take 36 = .ok (.aload_n 0, 1) := dk_42 (dk_at dksX3_take_1 13 rfl rfl)
theorem dX3_take_37 : decode cX3_take 37 = .ok (.getfield 9, 3) := dk_180 0 9 (dk_at dksX3_take_1 14 rfl rfl)
theorem dX3_take_40 : decode cX3_take 40 = .ok (.aload_n 0, 1) := dk_42 (dk_at dksX3_take_1 17 rfl rfl)
theorem dX3_take_41 : decode cX3_take 41 = .ok (.getfield 15, 3) := dk_180 0 15 (dk_at dksX3_take_1 18 rfl rfl)
theorem dX3_take_44 : decode cX3_take 44 = .ok (.laload, 1) := dk_47 (dk_at dksX3_take_1 21 rfl rfl)
theorem dX3_take_45 : decode cX3_take 45 = .ok (.lastore, 1) := dk_80 (dk_at dksX3_take_1 22 rfl rfl)
theorem dX3_take_46 : decode cX3_take 46 = .ok (.lload_n 2, 1) := dk_32 (dk_at dksX3_take_1 23 rfl rfl)
theorem dX3_take_47 : decode cX3_take 47 = .ok (.lreturn, 1) := dk_173 (dk_at dksX3_take_2 0 rfl rfl)
abbrev cX3_takeMany : ByteArray := prog_5_method_8_code
def yX3_takeMany : MethodName := ⟨RX3, "takeMany", "(I)J"⟩
def dkwX3_takeMany_1 : List UInt8 := [158, 0, 20, 32, 20, 0, 29, 105, 42, 182, 0, 31, 97, 65, 132, 5, 1, 167, 255, 228, 32, 173]
abbrev dktX3_takeMany_1 : List UInt8 := dkwX3_takeMany_1 ++ []
def dkwX3_takeMany_0 : List UInt8 := [9, 65, 27, 16, 31, 126, 54, 4, 3, 54, 5, 21, 5, 21, 4, 162, 0, 27, 42, 180, 0, 15]
abbrev dktX3_takeMany_0 : List UInt8 := dkwX3_takeMany_0 ++ dktX3_takeMany_1
theorem dksX3_takeMany_0 : cX3_takeMany.data.toList.drop 0 = dktX3_takeMany_0 := by decide +kernel
theorem dksX3_takeMany_1 : cX3_takeMany.data.toList.drop 22 = dktX3_takeMany_1 := dk_seg dksX3_takeMany_0 22 rfl rfl
theorem dX3_takeMany_0 : decode cX3_takeMany 0 = .ok (.lconst 0, 1) := dk_9 (dk_at dksX3_takeMany_0 0 rfl rfl)
theorem dX3_takeMany_1 : decode cX3_takeMany 1 = .ok (.lstore_n 2, 1) := dk_65 (dk_at dksX3_takeMany_0 1 rfl rfl)
theorem dX3_takeMany_2 : decode cX3_takeMany 2 = .ok (.iload_n 1, 1) := dk_27 (dk_at dksX3_takeMany_0 2 rfl rfl)
theorem dX3_takeMany_3 : decode cX3_takeMany 3 = .ok (.bipush 31, 2) := dk_16 31 (dk_at dksX3_takeMany_0 3 rfl rfl)
theorem dX3_takeMany_5 : decode cX3_takeMany 5 = .ok (.iand, 1) := dk_126 (dk_at dksX3_takeMany_0 5 rfl rfl)
theorem dX3_takeMany_6 : decode cX3_takeMany 6 = .ok (.istore 4, 2) := dk_54 4 (dk_at dksX3_takeMany_0 6 rfl rfl)
theorem dX3_takeMany_8 : decode cX3_takeMany 8 = .ok (.iconst 0, 1) := dk_3 (dk_at dksX3_takeMany_0 8 rfl rfl)
theorem dX3_takeMany_9 : decode cX3_takeMany 9 = .ok (.istore 5, 2) := dk_54 5 (dk_at dksX3_takeMany_0 9 rfl rfl)
theorem dX3_takeMany_11 : decode cX3_takeMany 11 = .ok (.iload 5, 2) := dk_21 5 (dk_at dksX3_takeMany_0 11 rfl rfl)
theorem dX3_takeMany_13 : decode cX3_takeMany 13 = .ok (.iload 4, 2) := dk_21 4 (dk_at dksX3_takeMany_0 13 rfl rfl)
theorem dX3_takeMany_15 : decode cX3_takeMany 15 = .ok (.if_icmp .ge 27, 3) := dk_162 0 27 (dk_at dksX3_takeMany_0 15 rfl rfl)
theorem dX3_takeMany_18 : decode cX3_takeMany 18 = .ok (.aload_n 0, 1) := dk_42 (dk_at dksX3_takeMany_0 18 rfl rfl)
theorem dX3_takeMany_19 : decode cX3_takeMany 19 = .ok (.getfield 15, 3) := dk_180 0 15 (dk_at dksX3_takeMany_0 19 rfl rfl)
theorem dX3_takeMany_22 : decode cX3_takeMany 22 = .ok (.ifCond .le 20, 3) := dk_158 0 20 (dk_at dksX3_takeMany_1 0 rfl rfl)
theorem dX3_takeMany_25 : decode cX3_takeMany 25 = .ok (.lload_n 2, 1) := dk_32 (dk_at dksX3_takeMany_1 3 rfl rfl)
theorem dX3_takeMany_26 : decode cX3_takeMany 26 = .ok (.ldc2_w 29, 3) := dk_20 0 29 (dk_at dksX3_takeMany_1 4 rfl rfl)
theorem dX3_takeMany_29 : decode cX3_takeMany 29 = .ok (.lmul, 1) := dk_105 (dk_at dksX3_takeMany_1 7 rfl rfl)
theorem dX3_takeMany_30 : decode cX3_takeMany 30 = .ok (.aload_n 0, 1) := dk_42 (dk_at dksX3_takeMany_1 8 rfl rfl)
theorem dX3_takeMany_31 : decode cX3_takeMany 31 = .ok (.invokevirtual 31, 3) := dk_182 0 31 (dk_at dksX3_takeMany_1 9 rfl rfl)
theorem dX3_takeMany_34 : decode cX3_takeMany 34 = .ok (.ladd, 1) := dk_97 (dk_at dksX3_takeMany_1 12 rfl rfl)
theorem dX3_takeMany_35 : decode cX3_takeMany 35 = .ok (.lstore_n 2, 1) := dk_65 (dk_at dksX3_takeMany_1 13 rfl rfl)
theorem dX3_takeMany_36 : decode cX3_takeMany 36 = .ok (.iinc 5 1, 3) := dk_132 5 1 (dk_at dksX3_takeMany_1 14 rfl rfl)
theorem dX3_takeMany_39 : decode cX3_takeMany 39 = .ok (.goto (-28), 3) := dk_167 255 228 (dk_at dksX3_takeMany_1 17 rfl rfl)
theorem dX3_takeMany_42 : decode cX3_takeMany 42 = .ok (.lload_n 2, 1) := dk_32 (dk_at dksX3_takeMany_1 20 rfl rfl)
theorem dX3_takeMany_43 : decode cX3_takeMany 43 = .ok (.lreturn, 1) := dk_173 (dk_at dksX3_takeMany_1 21 rfl rfl)
abbrev cX3_waiting : ByteArray := prog_5_method_9_code
def yX3_waiting : MethodName := ⟨RX3, "waiting", "()I"⟩
theorem dX3_waiting_0 : decode cX3_waiting 0 = .ok (.aload_n 0, 1) := by decide +kernel
theorem dX3_waiting_1 : decode cX3_waiting 1 = .ok (.getfield 15, 3) := by decide +kernel
theorem dX3_waiting_4 : decode cX3_waiting 4 = .ok (.ireturn, 1) := by decide +kernel
abbrev cX3_shrink : ByteArray := prog_5_method_10_code
def yX3_shrink : MethodName := ⟨RX3, "shrink", "()V"⟩
theorem dX3_shrink_0 : decode cX3_shrink 0 = .ok (.return_, 1) := by decide +kernel
abbrev cX3_drain : ByteArray := prog_5_method_11_code
def yX3_drain : MethodName := ⟨RX3, "drain", "()V"⟩
def dkwX3_drain_0 : List UInt8 := [42, 3, 181, 0, 15, 177]
abbrev dktX3_drain_0 : List UInt8 := dkwX3_drain_0 ++ []
theorem dksX3_drain_0 : cX3_drain.data.toList.drop 0 = dktX3_drain_0 := by decide +kernel
theorem dX3_drain_0 : decode cX3_drain 0 = .ok (.aload_n 0, 1) := dk_42 (dk_at dksX3_drain_0 0 rfl rfl)
theorem dX3_drain_1 : decode cX3_drain 1 = .ok (.iconst 0, 1) := dk_3 (dk_at dksX3_drain_0 1 rfl rfl)
theorem dX3_drain_2 : decode cX3_drain 2 = .ok (.putfield 15, 3) := dk_181 0 15 (dk_at dksX3_drain_0 2 rfl rfl)
theorem dX3_drain_5 : decode cX3_drain 5 = .ok (.return_, 1) := dk_177 (dk_at dksX3_drain_0 5 rfl rfl)
theorem q6 : (Jvm.Cond.initialized "LongHeapDeskModel") ∈ lw_all := lw_g (lw_at lw_m1 4 rfl) rfl
theorem q214 : (Jvm.Cond.instantiable "LongHeapDeskModel" (2 : Nat)) ∈ lw_all := lw_g (lw_at lw_m1 212 rfl) rfl
theorem q216 : (Jvm.Cond.instanceMethod ({ cls := "LongHeapDeskModel", name := "<init>", desc := "()V" } : Jvm.MethodName)) ∈ lw_all := lw_g (lw_at lw_m1 214 rfl) rfl
theorem q217 : (Jvm.Cond.code ({ cls := "LongHeapDeskModel", name := "<init>", desc := "()V" } : Jvm.MethodName) prog_5_method_1_code (1 : Nat) (Option.none : Option Jvm.ClassFile.FieldType)) ∈ lw_all := lw_g (lw_at lw_m1 215 rfl) rfl
theorem q218 : (Jvm.Cond.methodLink "LongHeapDeskModel" (1 : Nat) ({ cls := "java/lang/Object", name := "<init>", desc := "()V" } : Jvm.MethodName)) ∈ lw_all := lw_g (lw_at lw_m1 216 rfl) rfl
theorem q219 : (Jvm.Cond.fieldLink "LongHeapDeskModel" (9 : Nat) "LongHeapDeskModel" "bag" "[J") ∈ lw_all := lw_g (lw_at lw_m1 217 rfl) rfl
theorem q220 : (Jvm.Cond.fieldLink "LongHeapDeskModel" (15 : Nat) "LongHeapDeskModel" "many" "I") ∈ lw_all := lw_g (lw_at lw_m1 218 rfl) rfl
theorem q221 : (Jvm.Cond.laysFinal "LongHeapDeskModel" "LongHeapDeskModel" "bag" "[J") ∈ lw_all := lw_g (lw_at lw_m1 219 rfl) rfl
theorem q222 : (Jvm.Cond.soleField "LongHeapDeskModel" "bag") ∈ lw_all := lw_g (lw_at lw_m1 220 rfl) rfl
theorem q223 : (Jvm.Cond.lays "LongHeapDeskModel" "LongHeapDeskModel" "many" "I") ∈ lw_all := lw_g (lw_at lw_m1 221 rfl) rfl
theorem q224 : (Jvm.Cond.soleField "LongHeapDeskModel" "many") ∈ lw_all := lw_g (lw_at lw_m1 222 rfl) rfl
theorem q225 : (Jvm.Cond.superclass "LongHeapDeskModel" "java/lang/Object") ∈ lw_all := lw_g (lw_at lw_m1 223 rfl) rfl
theorem q227 : (Jvm.Cond.instanceMethod ({ cls := "LongHeapDeskModel", name := "enter", desc := "(II)Z" } : Jvm.MethodName)) ∈ lw_all := lw_g (lw_at lw_m1 225 rfl) rfl
theorem q228 : (Jvm.Cond.selects "LongHeapDeskModel" ({ cls := "LongHeapDeskModel", name := "enter", desc := "(II)Z" } : Jvm.MethodName) ({ cls := "LongHeapDeskModel", name := "enter", desc := "(II)Z" } : Jvm.MethodName)) ∈ lw_all := lw_g (lw_at lw_m1 226 rfl) rfl
theorem q229 : (Jvm.Cond.code ({ cls := "LongHeapDeskModel", name := "enter", desc := "(II)Z" } : Jvm.MethodName) prog_5_method_4_code (3 : Nat) (Option.some Jvm.ClassFile.FieldType.boolean)) ∈ lw_all := lw_g (lw_at lw_m1 227 rfl) rfl
theorem q230 : (Jvm.Cond.methodLink "LongHeapDeskModel" (19 : Nat) ({ cls := "LongHeapDeskModel", name := "wide", desc := "(II)J" } : Jvm.MethodName)) ∈ lw_all := lw_g (lw_at lw_m1 228 rfl) rfl
theorem q231 : (Jvm.Cond.static ({ cls := "LongHeapDeskModel", name := "wide", desc := "(II)J" } : Jvm.MethodName)) ∈ lw_all := lw_g (lw_at lw_m1 229 rfl) rfl
theorem q232 : (Jvm.Cond.code ({ cls := "LongHeapDeskModel", name := "wide", desc := "(II)J" } : Jvm.MethodName) prog_5_method_2_code (5 : Nat) (Option.some Jvm.ClassFile.FieldType.long)) ∈ lw_all := lw_g (lw_at lw_m1 230 rfl) rfl
theorem q233 : (Jvm.Cond.constantLong "LongHeapDeskModel" (13 : Nat) (2 : Int64)) ∈ lw_all := lw_g (lw_at lw_m1 231 rfl) rfl
theorem q235 : (Jvm.Cond.instanceMethod ({ cls := "LongHeapDeskModel", name := "whole", desc := "(III)Z" } : Jvm.MethodName)) ∈ lw_all := lw_g (lw_at lw_m1 233 rfl) rfl
theorem q236 : (Jvm.Cond.selects "LongHeapDeskModel" ({ cls := "LongHeapDeskModel", name := "whole", desc := "(III)Z" } : Jvm.MethodName) ({ cls := "LongHeapDeskModel", name := "whole", desc := "(III)Z" } : Jvm.MethodName)) ∈ lw_all := lw_g (lw_at lw_m1 234 rfl) rfl
theorem q237 : (Jvm.Cond.code ({ cls := "LongHeapDeskModel", name := "whole", desc := "(III)Z" } : Jvm.MethodName) prog_5_method_5_code (7 : Nat) (Option.some Jvm.ClassFile.FieldType.boolean)) ∈ lw_all := lw_g (lw_at lw_m1 235 rfl) rfl
theorem q238 : (Jvm.Cond.constantLong "LongHeapDeskModel" (23 : Nat) (6364136223846793005 : Int64)) ∈ lw_all := lw_g (lw_at lw_m1 236 rfl) rfl
theorem q240 : (Jvm.Cond.instanceMethod ({ cls := "LongHeapDeskModel", name := "least", desc := "()J" } : Jvm.MethodName)) ∈ lw_all := lw_g (lw_at lw_m1 238 rfl) rfl
theorem q241 : (Jvm.Cond.selects "LongHeapDeskModel" ({ cls := "LongHeapDeskModel", name := "least", desc := "()J" } : Jvm.MethodName) ({ cls := "LongHeapDeskModel", name := "least", desc := "()J" } : Jvm.MethodName)) ∈ lw_all := lw_g (lw_at lw_m1 239 rfl) rfl
theorem q242 : (Jvm.Cond.code ({ cls := "LongHeapDeskModel", name := "least", desc := "()J" } : Jvm.MethodName) prog_5_method_6_code (1 : Nat) (Option.some Jvm.ClassFile.FieldType.long)) ∈ lw_all := lw_g (lw_at lw_m2 0 rfl) rfl
theorem q243 : (Jvm.Cond.methodLink "LongHeapDeskModel" (25 : Nat) ({ cls := "LongHeapDeskModel", name := "leastAt", desc := "()I" } : Jvm.MethodName)) ∈ lw_all := lw_g (lw_at lw_m2 1 rfl) rfl
theorem q244 : (Jvm.Cond.privateMethod ({ cls := "LongHeapDeskModel", name := "leastAt", desc := "()I" } : Jvm.MethodName)) ∈ lw_tbl := lw_at lw_m2 2 rfl
theorem q245 : (Jvm.Cond.instanceMethod ({ cls := "LongHeapDeskModel", name := "leastAt", desc := "()I" } : Jvm.MethodName)) ∈ lw_all := lw_g (lw_at lw_m2 3 rfl) rfl
theorem q246 : (Jvm.Cond.code ({ cls := "LongHeapDeskModel", name := "leastAt", desc := "()I" } : Jvm.MethodName) prog_5_method_3_code (3 : Nat) (Option.some Jvm.ClassFile.FieldType.int)) ∈ lw_all := lw_g (lw_at lw_m2 4 rfl) rfl
theorem q248 : (Jvm.Cond.instanceMethod ({ cls := "LongHeapDeskModel", name := "take", desc := "()J" } : Jvm.MethodName)) ∈ lw_all := lw_g (lw_at lw_m2 6 rfl) rfl
theorem q249 : (Jvm.Cond.selects "LongHeapDeskModel" ({ cls := "LongHeapDeskModel", name := "take", desc := "()J" } : Jvm.MethodName) ({ cls := "LongHeapDeskModel", name := "take", desc := "()J" } : Jvm.MethodName)) ∈ lw_all := lw_g (lw_at lw_m2 7 rfl) rfl
theorem q250 : (Jvm.Cond.code ({ cls := "LongHeapDeskModel", name := "take", desc := "()J" } : Jvm.MethodName) prog_5_method_7_code (4 : Nat) (Option.some Jvm.ClassFile.FieldType.long)) ∈ lw_all := lw_g (lw_at lw_m2 8 rfl) rfl
theorem q252 : (Jvm.Cond.instanceMethod ({ cls := "LongHeapDeskModel", name := "takeMany", desc := "(I)J" } : Jvm.MethodName)) ∈ lw_all := lw_g (lw_at lw_m2 10 rfl) rfl
theorem q253 : (Jvm.Cond.selects "LongHeapDeskModel" ({ cls := "LongHeapDeskModel", name := "takeMany", desc := "(I)J" } : Jvm.MethodName) ({ cls := "LongHeapDeskModel", name := "takeMany", desc := "(I)J" } : Jvm.MethodName)) ∈ lw_all := lw_g (lw_at lw_m2 11 rfl) rfl
theorem q254 : (Jvm.Cond.code ({ cls := "LongHeapDeskModel", name := "takeMany", desc := "(I)J" } : Jvm.MethodName) prog_5_method_8_code (6 : Nat) (Option.some Jvm.ClassFile.FieldType.long)) ∈ lw_all := lw_g (lw_at lw_m2 12 rfl) rfl
theorem q255 : (Jvm.Cond.constantLong "LongHeapDeskModel" (29 : Nat) (31 : Int64)) ∈ lw_all := lw_g (lw_at lw_m2 13 rfl) rfl
theorem q256 : (Jvm.Cond.methodLink "LongHeapDeskModel" (31 : Nat) ({ cls := "LongHeapDeskModel", name := "take", desc := "()J" } : Jvm.MethodName)) ∈ lw_all := lw_g (lw_at lw_m2 14 rfl) rfl
theorem q258 : (Jvm.Cond.instanceMethod ({ cls := "LongHeapDeskModel", name := "waiting", desc := "()I" } : Jvm.MethodName)) ∈ lw_all := lw_g (lw_at lw_m2 16 rfl) rfl
theorem q259 : (Jvm.Cond.selects "LongHeapDeskModel" ({ cls := "LongHeapDeskModel", name := "waiting", desc := "()I" } : Jvm.MethodName) ({ cls := "LongHeapDeskModel", name := "waiting", desc := "()I" } : Jvm.MethodName)) ∈ lw_all := lw_g (lw_at lw_m2 17 rfl) rfl
theorem q260 : (Jvm.Cond.code ({ cls := "LongHeapDeskModel", name := "waiting", desc := "()I" } : Jvm.MethodName) prog_5_method_9_code (1 : Nat) (Option.some Jvm.ClassFile.FieldType.int)) ∈ lw_all := lw_g (lw_at lw_m2 18 rfl) rfl
theorem q262 : (Jvm.Cond.instanceMethod ({ cls := "LongHeapDeskModel", name := "shrink", desc := "()V" } : Jvm.MethodName)) ∈ lw_all := lw_g (lw_at lw_m2 20 rfl) rfl
theorem q263 : (Jvm.Cond.selects "LongHeapDeskModel" ({ cls := "LongHeapDeskModel", name := "shrink", desc := "()V" } : Jvm.MethodName) ({ cls := "LongHeapDeskModel", name := "shrink", desc := "()V" } : Jvm.MethodName)) ∈ lw_all := lw_g (lw_at lw_m2 21 rfl) rfl
theorem q264 : (Jvm.Cond.code ({ cls := "LongHeapDeskModel", name := "shrink", desc := "()V" } : Jvm.MethodName) prog_5_method_10_code (1 : Nat) (Option.none : Option Jvm.ClassFile.FieldType)) ∈ lw_all := lw_g (lw_at lw_m2 22 rfl) rfl
theorem q266 : (Jvm.Cond.instanceMethod ({ cls := "LongHeapDeskModel", name := "drain", desc := "()V" } : Jvm.MethodName)) ∈ lw_all := lw_g (lw_at lw_m2 24 rfl) rfl
theorem q267 : (Jvm.Cond.selects "LongHeapDeskModel" ({ cls := "LongHeapDeskModel", name := "drain", desc := "()V" } : Jvm.MethodName) ({ cls := "LongHeapDeskModel", name := "drain", desc := "()V" } : Jvm.MethodName)) ∈ lw_all := lw_g (lw_at lw_m2 25 rfl) rfl
theorem q268 : (Jvm.Cond.code ({ cls := "LongHeapDeskModel", name := "drain", desc := "()V" } : Jvm.MethodName) prog_5_method_11_code (1 : Nat) (Option.none : Option Jvm.ClassFile.FieldType)) ∈ lw_all := lw_g (lw_at lw_m2 26 rfl) rfl
theorem q272 : (Jvm.Cond.castable "LongHeapDeskModel" "java/lang/Object") ∈ lw_tbl := lw_at lw_m2 30 rfl
theorem in_X3 : ∀ w ∈ wsX30, w ∈ lw_all := lw_in wsX30 [221, 223] (by decide +kernel) (by decide +kernel)
/-! LongHeaps -/
def RX4 : String := "LongHeaps"
abbrev cX4_upHeap : ByteArray := prog_7_method_2_code
def yX4_upHeap : MethodName := ⟨RX4, "upHeap", "([JIILLongComparator;)I"⟩
def dkwX4_upHeap_3 : List UInt8 := [80, 28, 172]
abbrev dktX4_upHeap_3 : List UInt8 := dkwX4_upHeap_3 ++ []
def dkwX4_upHeap_2 : List UInt8 := [28, 153, 0, 19, 28, 4, 100, 4, 124, 54, 6, 42, 21, 6, 47, 55, 7, 167, 0, 3, 42, 28, 22, 4]
abbrev dktX4_upHeap_2 : List UInt8 := dkwX4_upHeap_2 ++ dktX4_upHeap_3
def dkwX4_upHeap_1 : List UInt8 := [55, 7, 22, 7, 22, 4, 148, 157, 0, 6, 167, 0, 34, 42, 28, 22, 7, 80, 21, 6, 61, 167, 255, 220]
abbrev dktX4_upHeap_1 : List UInt8 := dkwX4_upHeap_1 ++ dktX4_upHeap_2
def dkwX4_upHeap_0 : List UInt8 := [42, 28, 47, 55, 4, 45, 199, 0, 42, 28, 153, 0, 58, 28, 4, 100, 4, 124, 54, 6, 42, 21, 6, 47]
abbrev dktX4_upHeap_0 : List UInt8 := dkwX4_upHeap_0 ++ dktX4_upHeap_1
theorem dksX4_upHeap_0 : cX4_upHeap.data.toList.drop 0 = dktX4_upHeap_0 := by decide +kernel
theorem dksX4_upHeap_1 : cX4_upHeap.data.toList.drop 24 = dktX4_upHeap_1 := dk_seg dksX4_upHeap_0 24 rfl rfl
theorem dksX4_upHeap_2 : cX4_upHeap.data.toList.drop 48 = dktX4_upHeap_2 := dk_seg dksX4_upHeap_1 24 rfl rfl
theorem dksX4_upHeap_3 : cX4_upHeap.data.toList.drop 72 = dktX4_upHeap_3 := dk_seg dksX4_upHeap_2 24 rfl rfl
theorem dX4_upHeap_0 : decode cX4_upHeap 0 = .ok (.aload_n 0, 1) := dk_42 (dk_at dksX4_upHeap_0 0 rfl rfl)
theorem dX4_upHeap_1 : decode cX4_upHeap 1 = .ok (.iload_n 2, 1) := dk_28 (dk_at dksX4_upHeap_0 1 rfl rfl)
theorem dX4_upHeap_2 : decode cX4_upHeap 2 = .ok (.laload, 1) := dk_47 (dk_at dksX4_upHeap_0 2 rfl rfl)
theorem dX4_upHeap_3 : decode cX4_upHeap 3 = .ok (.lstore 4, 2) := dk_55 4 (dk_at dksX4_upHeap_0 3 rfl rfl)
theorem dX4_upHeap_5 : decode cX4_upHeap 5 = .ok (.aload_n 3, 1) := dk_45 (dk_at dksX4_upHeap_0 5 rfl rfl)
theorem dX4_upHeap_6 : decode cX4_upHeap 6 = .ok (.ifnonnull 42, 3) := dk_199 0 42 (dk_at dksX4_upHeap_0 6 rfl rfl)
theorem dX4_upHeap_9 : decode cX4_upHeap 9 = .ok (.iload_n 2, 1) := dk_28 (dk_at dksX4_upHeap_0 9 rfl rfl)
theorem dX4_upHeap_10 : decode cX4_upHeap 10 = .ok (.ifCond .eq 58, 3) := dk_153 0 58 (dk_at dksX4_upHeap_0 10 rfl rfl)
theorem dX4_upHeap_13 : decode cX4_upHeap 13 = .ok (.iload_n 2, 1) := dk_28 (dk_at dksX4_upHeap_0 13 rfl rfl)
theorem dX4_upHeap_14 : decode cX4_upHeap 14 = .ok (.iconst 1, 1) := dk_4 (dk_at dksX4_upHeap_0 14 rfl rfl)
theorem dX4_upHeap_15 : decode cX4_upHeap 15 = .ok (.isub, 1) := dk_100 (dk_at dksX4_upHeap_0 15 rfl rfl)
theorem dX4_upHeap_16 : decode cX4_upHeap 16 = .ok (.iconst 1, 1) := dk_4 (dk_at dksX4_upHeap_0 16 rfl rfl)
theorem dX4_upHeap_17 : decode cX4_upHeap 17 = .ok (.iushr, 1) := dk_124 (dk_at dksX4_upHeap_0 17 rfl rfl)
theorem dX4_upHeap_18 : decode cX4_upHeap 18 = .ok (.istore 6, 2) := dk_54 6 (dk_at dksX4_upHeap_0 18 rfl rfl)
theorem dX4_upHeap_20 : decode cX4_upHeap 20 = .ok (.aload_n 0, 1) := dk_42 (dk_at dksX4_upHeap_0 20 rfl rfl)
theorem dX4_upHeap_21 : decode cX4_upHeap 21 = .ok (.iload 6, 2) := dk_21 6 (dk_at dksX4_upHeap_0 21 rfl rfl)
theorem dX4_upHeap_23 : decode cX4_upHeap 23 = .ok (.laload, 1) := dk_47 (dk_at dksX4_upHeap_0 23 rfl rfl)
theorem dX4_upHeap_24 : decode cX4_upHeap 24 = .ok (.lstore 7, 2) := dk_55 7 (dk_at dksX4_upHeap_1 0 rfl rfl)
theorem dX4_upHeap_26 : decode cX4_upHeap 26 = .ok (.lload 7, 2) := dk_22 7 (dk_at dksX4_upHeap_1 2 rfl rfl)
theorem dX4_upHeap_28 : decode cX4_upHeap 28 = .ok (.lload 4, 2) := dk_22 4 (dk_at dksX4_upHeap_1 4 rfl rfl)
theorem dX4_upHeap_30 : decode cX4_upHeap 30 = .ok (.lcmp, 1) := dk_148 (dk_at dksX4_upHeap_1 6 rfl rfl)
theorem dX4_upHeap_31 : decode cX4_upHeap 31 = .ok (.ifCond .gt 6, 3) := dk_157 0 6 (dk_at dksX4_upHeap_1 7 rfl rfl)
theorem dX4_upHeap_34 : decode cX4_upHeap 34 = .ok (.goto 34, 3) := dk_167 0 34 (dk_at dksX4_upHeap_1 10 rfl rfl)
theorem dX4_upHeap_37 : decode cX4_upHeap 37 = .ok (.aload_n 0, 1) := dk_42 (dk_at dksX4_upHeap_1 13 rfl rfl)
theorem dX4_upHeap_38 : decode cX4_upHeap 38 = .ok (.iload_n 2, 1) := dk_28 (dk_at dksX4_upHeap_1 14 rfl rfl)
theorem dX4_upHeap_39 : decode cX4_upHeap 39 = .ok (.lload 7, 2) := dk_22 7 (dk_at dksX4_upHeap_1 15 rfl rfl)
theorem dX4_upHeap_41 : decode cX4_upHeap 41 = .ok (.lastore, 1) := dk_80 (dk_at dksX4_upHeap_1 17 rfl rfl)
theorem dX4_upHeap_42 : decode cX4_upHeap 42 = .ok (.iload 6, 2) := dk_21 6 (dk_at dksX4_upHeap_1 18 rfl rfl)
theorem dX4_upHeap_44 : decode cX4_upHeap 44 = .ok (.istore_n 2, 1) := dk_61 (dk_at dksX4_upHeap_1 20 rfl rfl)
theorem dX4_upHeap_45 : decode cX4_upHeap 45 = .ok (.goto (-36), 3) := dk_167 255 220 (dk_at dksX4_upHeap_1 21 rfl rfl)
theorem dX4_upHeap_48 : decode cX4_upHeap 48 = .ok (.iload_n 2, 1) := dk_28 (dk_at dksX4_upHeap_2 0 rfl rfl)
theorem dX4_upHeap_49 : decode cX4_upHeap 49 = .ok (.ifCond .eq 19, 3) := dk_153 0 19 (dk_at dksX4_upHeap_2 1 rfl rfl)
theorem dX4_upHeap_52 : decode cX4_upHeap 52 = .ok (.iload_n 2, 1) := dk_28 (dk_at dksX4_upHeap_2 4 rfl rfl)
theorem dX4_upHeap_53 : decode cX4_upHeap 53 = .ok (.iconst 1, 1) := dk_4 (dk_at dksX4_upHeap_2 5 rfl rfl)
theorem dX4_upHeap_54 : decode cX4_upHeap 54 = .ok (.isub, 1) := dk_100 (dk_at dksX4_upHeap_2 6 rfl rfl)
theorem dX4_upHeap_55 : decode cX4_upHeap 55 = .ok (.iconst 1, 1) := dk_4 (dk_at dksX4_upHeap_2 7 rfl rfl)
theorem dX4_upHeap_56 : decode cX4_upHeap 56 = .ok (.iushr, 1) := dk_124 (dk_at dksX4_upHeap_2 8 rfl rfl)
theorem dX4_upHeap_57 : decode cX4_upHeap 57 = .ok (.istore 6, 2) := dk_54 6 (dk_at dksX4_upHeap_2 9 rfl rfl)
theorem dX4_upHeap_59 : decode cX4_upHeap 59 = .ok (.aload_n 0, 1) := dk_42 (dk_at dksX4_upHeap_2 11 rfl rfl)
theorem dX4_upHeap_60 : decode cX4_upHeap 60 = .ok (.iload 6, 2) := dk_21 6 (dk_at dksX4_upHeap_2 12 rfl rfl)
theorem dX4_upHeap_62 : decode cX4_upHeap 62 = .ok (.laload, 1) := dk_47 (dk_at dksX4_upHeap_2 14 rfl rfl)
theorem dX4_upHeap_63 : decode cX4_upHeap 63 = .ok (.lstore 7, 2) := dk_55 7 (dk_at dksX4_upHeap_2 15 rfl rfl)
theorem dX4_upHeap_65 : decode cX4_upHeap 65 = .ok (.goto 3, 3) := dk_167 0 3 (dk_at dksX4_upHeap_2 17 rfl rfl)
theorem dX4_upHeap_68 : decode cX4_upHeap 68 = .ok (.aload_n 0, 1) := dk_42 (dk_at dksX4_upHeap_2 20 rfl rfl)
theorem dX4_upHeap_69 : decode cX4_upHeap 69 = .ok (.iload_n 2, 1) := dk_28 (dk_at dksX4_upHeap_2 21 rfl rfl)
theorem dX4_upHeap_70 : decode cX4_upHeap 70 = .ok (.lload 4, 2) := dk_22 4 (dk_at dksX4_upHeap_2 22 rfl rfl)
theorem dX4_upHeap_72 : decode cX4_upHeap 72 = .ok (.lastore, 1) := dk_80 (dk_at dksX4_upHeap_3 0 rfl rfl)
theorem dX4_upHeap_73 : decode cX4_upHeap 73 = .ok (.iload_n 2, 1) := dk_28 (dk_at dksX4_upHeap_3 1 rfl rfl)
theorem dX4_upHeap_74 : decode cX4_upHeap 74 = .ok (.ireturn, 1) := dk_172 (dk_at dksX4_upHeap_3 2 rfl rfl)
abbrev cX4_makeHeap : ByteArray := prog_7_method_3_code
def yX4_makeHeap : MethodName := ⟨RX4, "makeHeap", "([JILLongComparator;)V"⟩
def dkwX4_makeHeap_0 : List UInt8 := [27, 4, 124, 62, 29, 132, 3, 255, 153, 0, 14, 42, 27, 29, 44, 184, 0, 1, 87, 167, 255, 241, 177]
abbrev dktX4_makeHeap_0 : List UInt8 := dkwX4_makeHeap_0 ++ []
theorem dksX4_makeHeap_0 : cX4_makeHeap.data.toList.drop 0 = dktX4_makeHeap_0 := by decide +kernel
theorem dX4_makeHeap_0 : decode cX4_makeHeap 0 = .ok (.iload_n 1, 1) := dk_27 (dk_at dksX4_makeHeap_0 0 rfl rfl)
theorem dX4_makeHeap_1 : decode cX4_makeHeap 1 = .ok (.iconst 1, 1) := dk_4 (dk_at dksX4_makeHeap_0 1 rfl rfl)
theorem dX4_makeHeap_2 : decode cX4_makeHeap 2 = .ok (.iushr, 1) := dk_124 (dk_at dksX4_makeHeap_0 2 rfl rfl)
theorem dX4_makeHeap_3 : decode cX4_makeHeap 3 = .ok (.istore_n 3, 1) := dk_62 (dk_at dksX4_makeHeap_0 3 rfl rfl)
theorem dX4_makeHeap_4 : decode cX4_makeHeap 4 = .ok (.iload_n 3, 1) := dk_29 (dk_at dksX4_makeHeap_0 4 rfl rfl)
theorem dX4_makeHeap_5 : decode cX4_makeHeap 5 = .ok (.iinc 3 (-1), 3) := dk_132 3 255 (dk_at dksX4_makeHeap_0 5 rfl rfl)
theorem dX4_makeHeap_8 : decode cX4_makeHeap 8 = .ok (.ifCond .eq 14, 3) := dk_153 0 14 (dk_at dksX4_makeHeap_0 8 rfl rfl)
theorem dX4_makeHeap_11 : decode cX4_makeHeap 11 = .ok (.aload_n 0, 1) := dk_42 (dk_at dksX4_makeHeap_0 11 rfl rfl)
theorem dX4_makeHeap_12 : decode cX4_makeHeap 12 = .ok (.iload_n 1, 1) := dk_27 (dk_at dksX4_makeHeap_0 12 rfl rfl)
theorem dX4_makeHeap_13 : decode cX4_makeHeap 13 = .ok (.iload_n 3, 1) := dk_29 (dk_at dksX4_makeHeap_0 13 rfl rfl)
theorem dX4_makeHeap_14 : decode cX4_makeHeap 14 = .ok (.aload_n 2, 1) := dk_44 (dk_at dksX4_makeHeap_0 14 rfl rfl)
theorem dX4_makeHeap_15 : decode cX4_makeHeap 15 = .ok (.invokestatic 1, 3) := dk_184 0 1 (dk_at dksX4_makeHeap_0 15 rfl rfl)
theorem dX4_makeHeap_18 : decode cX4_makeHeap 18 = .ok (.pop, 1) := dk_87 (dk_at dksX4_makeHeap_0 18 rfl rfl)
theorem dX4_makeHeap_19 : decode cX4_makeHeap 19 = .ok (.goto (-15), 3) := dk_167 255 241 (dk_at dksX4_makeHeap_0 19 rfl rfl)
theorem dX4_makeHeap_22 : decode cX4_makeHeap 22 = .ok (.return_, 1) := dk_177 (dk_at dksX4_makeHeap_0 22 rfl rfl)
abbrev cX4_downHeap : ByteArray := prog_7_method_1_code
def yX4_downHeap : MethodName := ⟨RX4, "downHeap", "([JIILLongComparator;)I"⟩
def dkwX4_downHeap_5 : List UInt8 := [80, 28, 172]
abbrev dktX4_downHeap_5 : List UInt8 := dkwX4_downHeap_5 ++ []
def dkwX4_downHeap_4 : List UInt8 := [21, 6, 47, 55, 7, 21, 6, 4, 96, 54, 9, 21, 9, 27, 162, 0, 6, 167, 0, 3, 42, 28, 22, 4]
abbrev dktX4_downHeap_4 : List UInt8 := dkwX4_downHeap_4 ++ dktX4_downHeap_5
def dkwX4_downHeap_3 : List UInt8 := [28, 22, 7, 80, 21, 6, 61, 167, 255, 188, 28, 4, 120, 4, 96, 89, 54, 6, 27, 162, 0, 24, 42]
abbrev dktX4_downHeap_3 : List UInt8 := dkwX4_downHeap_3 ++ dktX4_downHeap_4
def dkwX4_downHeap_2 : List UInt8 := [156, 0, 12, 42, 21, 9, 89, 54, 6, 47, 55, 7, 22, 4, 22, 7, 148, 157, 0, 6, 167, 0, 47, 42]
abbrev dktX4_downHeap_2 : List UInt8 := dkwX4_downHeap_2 ++ dktX4_downHeap_3
def dkwX4_downHeap_1 : List UInt8 := [47, 55, 7, 21, 6, 4, 96, 54, 9, 21, 9, 27, 162, 0, 22, 42, 21, 9, 47, 22, 7, 148]
abbrev dktX4_downHeap_1 : List UInt8 := dkwX4_downHeap_1 ++ dktX4_downHeap_2
def dkwX4_downHeap_0 : List UInt8 := [42, 28, 47, 55, 4, 45, 199, 0, 74, 28, 4, 120, 4, 96, 89, 54, 6, 27, 162, 0, 95, 42, 21, 6]
abbrev dktX4_downHeap_0 : List UInt8 := dkwX4_downHeap_0 ++ dktX4_downHeap_1
theorem dksX4_downHeap_0 : cX4_downHeap.data.toList.drop 0 = dktX4_downHeap_0 := by decide +kernel
theorem dksX4_downHeap_1 : cX4_downHeap.data.toList.drop 24 = dktX4_downHeap_1 := dk_seg dksX4_downHeap_0 24 rfl rfl
theorem dksX4_downHeap_2 : cX4_downHeap.data.toList.drop 46 = dktX4_downHeap_2 := dk_seg dksX4_downHeap_1 22 rfl rfl
theorem dksX4_downHeap_3 : cX4_downHeap.data.toList.drop 70 = dktX4_downHeap_3 := dk_seg dksX4_downHeap_2 24 rfl rfl
theorem dksX4_downHeap_4 : cX4_downHeap.data.toList.drop 93 = dktX4_downHeap_4 := dk_seg dksX4_downHeap_3 23 rfl rfl
theorem dksX4_downHeap_5 : cX4_downHeap.data.toList.drop 117 = dktX4_downHeap_5 := dk_seg dksX4_downHeap_4 24 rfl rfl
theorem dX4_downHeap_0 : decode cX4_downHeap 0 = .ok (.aload_n 0, 1) := dk_42 (dk_at dksX4_downHeap_0 0 rfl rfl)
theorem dX4_downHeap_1 : decode cX4_downHeap 1 = .ok (.iload_n 2, 1) := dk_28 (dk_at dksX4_downHeap_0 1 rfl rfl)
theorem dX4_downHeap_2 : decode cX4_downHeap 2 = .ok (.laload, 1) := dk_47 (dk_at dksX4_downHeap_0 2 rfl rfl)
theorem dX4_downHeap_3 : decode cX4_downHeap 3 = .ok (.lstore 4, 2) := dk_55 4 (dk_at dksX4_downHeap_0 3 rfl rfl)
theorem dX4_downHeap_5 : decode cX4_downHeap 5 = .ok (.aload_n 3, 1) := dk_45 (dk_at dksX4_downHeap_0 5 rfl rfl)
theorem dX4_downHeap_6 : decode cX4_downHeap 6 = .ok (.ifnonnull 74, 3) := dk_199 0 74 (dk_at dksX4_downHeap_0 6 rfl rfl)
theorem dX4_downHeap_9 : decode cX4_downHeap 9 = .ok (.iload_n 2, 1) := dk_28 (dk_at dksX4_downHeap_0 9 rfl rfl)
theorem dX4_downHeap_10 : decode cX4_downHeap 10 = .ok (.iconst 1, 1) := dk_4 (dk_at dksX4_downHeap_0 10 rfl rfl)
theorem dX4_downHeap_11 : decode cX4_downHeap 11 = .ok (.ishl, 1) := dk_120 (dk_at dksX4_downHeap_0 11 rfl rfl)
theorem dX4_downHeap_12 : decode cX4_downHeap 12 = .ok (.iconst 1, 1) := dk_4 (dk_at dksX4_downHeap_0 12 rfl rfl)
theorem dX4_downHeap_13 : decode cX4_downHeap 13 = .ok (.iadd, 1) := dk_96 (dk_at dksX4_downHeap_0 13 rfl rfl)
theorem dX4_downHeap_14 : decode cX4_downHeap 14 = .ok (.dup, 1) := dk_89 (dk_at dksX4_downHeap_0 14 rfl rfl)
theorem dX4_downHeap_15 : decode cX4_downHeap 15 = .ok (.istore 6, 2) := dk_54 6 (dk_at dksX4_downHeap_0 15 rfl rfl)
theorem dX4_downHeap_17 : decode cX4_downHeap 17 = .ok (.iload_n 1, 1) := dk_27 (dk_at dksX4_downHeap_0 17 rfl rfl)
theorem dX4_downHeap_18 : decode cX4_downHeap 18 = .ok (.if_icmp .ge 95, 3) := dk_162 0 95 (dk_at dksX4_downHeap_0 18 rfl rfl)
theorem dX4_downHeap_21 : decode cX4_downHeap 21 = .ok (.aload_n 0, 1) := dk_42 (dk_at dksX4_downHeap_0 21 rfl rfl)
theorem dX4_downHeap_22 : decode cX4_downHeap 22 = .ok (.iload 6, 2) := dk_21 6 (dk_at dksX4_downHeap_0 22 rfl rfl)
theorem dX4_downHeap_24 : decode cX4_downHeap 24 = .ok (.laload, 1) := dk_47 (dk_at dksX4_downHeap_1 0 rfl rfl)
theorem dX4_downHeap_25 : decode cX4_downHeap 25 = .ok (.lstore 7, 2) := dk_55 7 (dk_at dksX4_downHeap_1 1 rfl rfl)
theorem dX4_downHeap_27 : decode cX4_downHeap 27 = .ok (.iload 6, 2) := dk_21 6 (dk_at dksX4_downHeap_1 3 rfl rfl)
theorem dX4_downHeap_29 : decode cX4_downHeap 29 = .ok (.iconst 1, 1) := dk_4 (dk_at dksX4_downHeap_1 5 rfl rfl)
theorem dX4_downHeap_30 : decode cX4_downHeap 30 = .ok (.iadd, 1) := dk_96 (dk_at dksX4_downHeap_1 6 rfl rfl)
theorem dX4_downHeap_31 : decode cX4_downHeap 31 = .ok (.istore 9, 2) := dk_54 9 (dk_at dksX4_downHeap_1 7 rfl rfl)
theorem dX4_downHeap_33 : decode cX4_downHeap 33 = .ok (.iload 9, 2) := dk_21 9 (dk_at dksX4_downHeap_1 9 rfl rfl)
theorem dX4_downHeap_35 : decode cX4_downHeap 35 = .ok (.iload_n 1, 1) := dk_27 (dk_at dksX4_downHeap_1 11 rfl rfl)
theorem dX4_downHeap_36 : decode cX4_downHeap 36 = .ok (.if_icmp .ge 22, 3) := dk_162 0 22 (dk_at dksX4_downHeap_1 12 rfl rfl)
theorem dX4_downHeap_39 : decode cX4_downHeap 39 = .ok (.aload_n 0, 1) := dk_42 (dk_at dksX4_downHeap_1 15 rfl rfl)
theorem dX4_downHeap_40 : decode cX4_downHeap 40 = .ok (.iload 9, 2) := dk_21 9 (dk_at dksX4_downHeap_1 16 rfl rfl)
theorem dX4_downHeap_42 : decode cX4_downHeap 42 = .ok (.laload, 1) := dk_47 (dk_at dksX4_downHeap_1 18 rfl rfl)
theorem dX4_downHeap_43 : decode cX4_downHeap 43 = .ok (.lload 7, 2) := dk_22 7 (dk_at dksX4_downHeap_1 19 rfl rfl)
theorem dX4_downHeap_45 : decode cX4_downHeap 45 = .ok (.lcmp, 1) := dk_148 (dk_at dksX4_downHeap_1 21 rfl rfl)
theorem dX4_downHeap_46 : decode cX4_downHeap 46 = .ok (.ifCond .ge 12, 3) := dk_156 0 12 (dk_at dksX4_downHeap_2 0 rfl rfl)
theorem dX4_downHeap_49 : decode cX4_downHeap 49 = .ok (.aload_n 0, 1) := dk_42 (dk_at dksX4_downHeap_2 3 rfl rfl)
theorem dX4_downHeap_50 : decode cX4_downHeap 50 = .ok (.iload 9, 2) := dk_21 9 (dk_at dksX4_downHeap_2 4 rfl rfl)
theorem dX4_downHeap_52 : decode cX4_downHeap 52 = .ok (.dup, 1) := dk_89 (dk_at dksX4_downHeap_2 6 rfl rfl)
theorem dX4_downHeap_53 : decode cX4_downHeap 53 = .ok (.istore 6, 2) := dk_54 6 (dk_at dksX4_downHeap_2 7 rfl rfl)
theorem dX4_downHeap_55 : decode cX4_downHeap 55 = .ok (.laload, 1) := dk_47 (dk_at dksX4_downHeap_2 9 rfl rfl)
theorem dX4_downHeap_56 : decode cX4_downHeap 56 = .ok (.lstore 7, 2) := dk_55 7 (dk_at dksX4_downHeap_2 10 rfl rfl)
theorem dX4_downHeap_58 : decode cX4_downHeap 58 = .ok (.lload 4, 2) := dk_22 4 (dk_at dksX4_downHeap_2 12 rfl rfl)
theorem dX4_downHeap_60 : decode cX4_downHeap 60 = .ok (.lload 7, 2) := dk_22 7 (dk_at dksX4_downHeap_2 14 rfl rfl)
theorem dX4_downHeap_62 : decode cX4_downHeap 62 = .ok (.lcmp, 1) := dk_148 (dk_at dksX4_downHeap_2 16 rfl rfl)
theorem dX4_downHeap_63 : decode cX4_downHeap 63 = .ok (.ifCond .gt 6, 3) := dk_157 0 6 (dk_at dksX4_downHeap_2 17 rfl rfl)
theorem dX4_downHeap_66 : decode cX4_downHeap 66 = .ok (.goto 47, 3) := dk_167 0 47 (dk_at dksX4_downHeap_2 20 rfl rfl)
theorem dX4_downHeap_69 : decode cX4_downHeap 69 = .ok (.aload_n 0, 1) := dk_42 (dk_at dksX4_downHeap_2 23 rfl rfl)
theorem dX4_downHeap_70 : decode cX4_downHeap 70 = .ok (.iload_n 2, 1) := dk_28 (dk_at dksX4_downHeap_3 0 rfl rfl)
theorem dX4_downHeap_71 : decode cX4_downHeap 71 = .ok (.lload 7, 2) := dk_22 7 (dk_at dksX4_downHeap_3 1 rfl rfl)
theorem dX4_downHeap_73 : decode cX4_downHeap 73 = .ok (.lastore, 1) := dk_80 (dk_at dksX4_downHeap_3 3 rfl rfl)
theorem dX4_downHeap_74 : decode cX4_downHeap 74 = .ok (.iload 6, 2) := dk_21 6 (dk_at dksX4_downHeap_3 4 rfl rfl)
theorem dX4_downHeap_76 : decode cX4_downHeap 76 = .ok (.istore_n 2, 1) := dk_61 (dk_at dksX4_downHeap_3 6 rfl rfl)
theorem dX4_downHeap_77 : decode cX4_downHeap 77 = .ok (.goto (-68), 3) := dk_167 255 188 (dk_at dksX4_downHeap_3 7 rfl rfl)
theorem dX4_downHeap_80 : decode cX4_downHeap 80 = .ok (.iload_n 2, 1) := dk_28 (dk_at dksX4_downHeap_3 10 rfl rfl)
theorem dX4_downHeap_81 : decode cX4_downHeap 81 = .ok (.iconst 1, 1) := dk_4 (dk_at dksX4_downHeap_3 11 rfl rfl)
theorem dX4_downHeap_82 : decode cX4_downHeap 82 = .ok (.ishl, 1) := dk_120 (dk_at dksX4_downHeap_3 12 rfl rfl)
theorem dX4_downHeap_83 : decode cX4_downHeap 83 = .ok (.iconst 1, 1) := dk_4 (dk_at dksX4_downHeap_3 13 rfl rfl)
theorem dX4_downHeap_84 : decode cX4_downHeap 84 = .ok (.iadd, 1) := dk_96 (dk_at dksX4_downHeap_3 14 rfl rfl)
theorem dX4_downHeap_85 : decode cX4_downHeap 85 = .ok (.dup, 1) := dk_89 (dk_at dksX4_downHeap_3 15 rfl rfl)
theorem dX4_downHeap_86 : decode cX4_downHeap 86 = .ok (.istore 6, 2) := dk_54 6 (dk_at dksX4_downHeap_3 16 rfl rfl)
theorem dX4_downHeap_88 : decode cX4_downHeap 88 = .ok (.iload_n 1, 1) := dk_27 (dk_at dksX4_downHeap_3 18 rfl rfl)
theorem dX4_downHeap_89 : decode cX4_downHeap 89 = .ok (.if_icmp .ge 24, 3) := dk_162 0 24 (dk_at dksX4_downHeap_3 19 rfl rfl)
theorem dX4_downHeap_92 : decode cX4_downHeap 92 = .ok (.aload_n 0, 1) := dk_42 (dk_at dksX4_downHeap_3 22 rfl rfl)
theorem dX4_downHeap_93 : decode cX4_downHeap 93 = .ok (.iload 6, 2) := dk_21 6 (dk_at dksX4_downHeap_4 0 rfl rfl)
theorem dX4_downHeap_95 : decode cX4_downHeap 95 = .ok (.laload, 1) := dk_47 (dk_at dksX4_downHeap_4 2 rfl rfl)
theorem dX4_downHeap_96 : decode cX4_downHeap 96 = .ok (.lstore 7, 2) := dk_55 7 (dk_at dksX4_downHeap_4 3 rfl rfl)
theorem dX4_downHeap_98 : decode cX4_downHeap 98 = .ok (.iload 6, 2) := dk_21 6 (dk_at dksX4_downHeap_4 5 rfl rfl)
theorem dX4_downHeap_100 : decode cX4_downHeap 100 = .ok (.iconst 1, 1) := dk_4 (dk_at dksX4_downHeap_4 7 rfl rfl)
theorem dX4_downHeap_101 : decode cX4_downHeap 101 = .ok (.iadd, 1) := dk_96 (dk_at dksX4_downHeap_4 8 rfl rfl)
theorem dX4_downHeap_102 : decode cX4_downHeap 102 = .ok (.istore 9, 2) := dk_54 9 (dk_at dksX4_downHeap_4 9 rfl rfl)
theorem dX4_downHeap_104 : decode cX4_downHeap 104 = .ok (.iload 9, 2) := dk_21 9 (dk_at dksX4_downHeap_4 11 rfl rfl)
theorem dX4_downHeap_106 : decode cX4_downHeap 106 = .ok (.iload_n 1, 1) := dk_27 (dk_at dksX4_downHeap_4 13 rfl rfl)
theorem dX4_downHeap_107 : decode cX4_downHeap 107 = .ok (.if_icmp .ge 6, 3) := dk_162 0 6 (dk_at dksX4_downHeap_4 14 rfl rfl)
theorem dX4_downHeap_110 : decode cX4_downHeap 110 = .ok (.goto 3, 3) := dk_167 0 3 (dk_at dksX4_downHeap_4 17 rfl rfl)
theorem dX4_downHeap_113 : decode cX4_downHeap 113 = .ok (.aload_n 0, 1) := dk_42 (dk_at dksX4_downHeap_4 20 rfl rfl)
theorem dX4_downHeap_114 : decode cX4_downHeap 114 = .ok (.iload_n 2, 1) := dk_28 (dk_at dksX4_downHeap_4 21 rfl rfl)
theorem dX4_downHeap_115 : decode cX4_downHeap 115 = .ok (.lload 4, 2) := dk_22 4 (dk_at dksX4_downHeap_4 22 rfl rfl)
theorem dX4_downHeap_117 : decode cX4_downHeap 117 = .ok (.lastore, 1) := dk_80 (dk_at dksX4_downHeap_5 0 rfl rfl)
theorem dX4_downHeap_118 : decode cX4_downHeap 118 = .ok (.iload_n 2, 1) := dk_28 (dk_at dksX4_downHeap_5 1 rfl rfl)
theorem dX4_downHeap_119 : decode cX4_downHeap 119 = .ok (.ireturn, 1) := dk_172 (dk_at dksX4_downHeap_5 2 rfl rfl)
theorem q9 : (Jvm.Cond.initialized "LongHeaps") ∈ lw_all := lw_g (lw_at lw_m1 7 rfl) rfl
theorem q81 : (Jvm.Cond.static ({ cls := "LongHeaps", name := "upHeap", desc := "([JIILLongComparator;)I" } : Jvm.MethodName)) ∈ lw_all := lw_g (lw_at lw_m1 79 rfl) rfl
theorem q82 : (Jvm.Cond.code ({ cls := "LongHeaps", name := "upHeap", desc := "([JIILLongComparator;)I" } : Jvm.MethodName) prog_7_method_2_code (9 : Nat) (Option.some Jvm.ClassFile.FieldType.int)) ∈ lw_all := lw_g (lw_at lw_m1 80 rfl) rfl
theorem q101 : (Jvm.Cond.static ({ cls := "LongHeaps", name := "makeHeap", desc := "([JILLongComparator;)V" } : Jvm.MethodName)) ∈ lw_all := lw_g (lw_at lw_m1 99 rfl) rfl
theorem q102 : (Jvm.Cond.code ({ cls := "LongHeaps", name := "makeHeap", desc := "([JILLongComparator;)V" } : Jvm.MethodName) prog_7_method_3_code (4 : Nat) (Option.none : Option Jvm.ClassFile.FieldType)) ∈ lw_all := lw_g (lw_at lw_m1 100 rfl) rfl
theorem q103 : (Jvm.Cond.methodLink "LongHeaps" (1 : Nat) ({ cls := "LongHeaps", name := "downHeap", desc := "([JIILLongComparator;)I" } : Jvm.MethodName)) ∈ lw_all := lw_g (lw_at lw_m1 101 rfl) rfl
theorem q104 : (Jvm.Cond.static ({ cls := "LongHeaps", name := "downHeap", desc := "([JIILLongComparator;)I" } : Jvm.MethodName)) ∈ lw_all := lw_g (lw_at lw_m1 102 rfl) rfl
theorem q105 : (Jvm.Cond.code ({ cls := "LongHeaps", name := "downHeap", desc := "([JIILLongComparator;)I" } : Jvm.MethodName) prog_7_method_1_code (10 : Nat) (Option.some Jvm.ClassFile.FieldType.int)) ∈ lw_all := lw_g (lw_at lw_m1 103 rfl) rfl
/-! java/lang/Math -/
def RJ0 : String := "java/lang/Math"
abbrev cJ0_min : ByteArray := prog_11_method_70_code
def yJ0_min : MethodName := ⟨RJ0, "min", "(JJ)J"⟩
def dkwJ0_min_0 : List UInt8 := [30, 32, 148, 157, 0, 7, 30, 167, 0, 4, 32, 173]
abbrev dktJ0_min_0 : List UInt8 := dkwJ0_min_0 ++ []
theorem dksJ0_min_0 : cJ0_min.data.toList.drop 0 = dktJ0_min_0 := by decide +kernel
theorem dJ0_min_0 : decode cJ0_min 0 = .ok (.lload_n 0, 1) := dk_30 (dk_at dksJ0_min_0 0 rfl rfl)
theorem dJ0_min_1 : decode cJ0_min 1 = .ok (.lload_n 2, 1) := dk_32 (dk_at dksJ0_min_0 1 rfl rfl)
theorem dJ0_min_2 : decode cJ0_min 2 = .ok (.lcmp, 1) := dk_148 (dk_at dksJ0_min_0 2 rfl rfl)
theorem dJ0_min_3 : decode cJ0_min 3 = .ok (.ifCond .gt 7, 3) := dk_157 0 7 (dk_at dksJ0_min_0 3 rfl rfl)
theorem dJ0_min_6 : decode cJ0_min 6 = .ok (.lload_n 0, 1) := dk_30 (dk_at dksJ0_min_0 6 rfl rfl)
theorem dJ0_min_7 : decode cJ0_min 7 = .ok (.goto 4, 3) := dk_167 0 4 (dk_at dksJ0_min_0 7 rfl rfl)
theorem dJ0_min_10 : decode cJ0_min 10 = .ok (.lload_n 2, 1) := dk_32 (dk_at dksJ0_min_0 10 rfl rfl)
theorem dJ0_min_11 : decode cJ0_min 11 = .ok (.lreturn, 1) := dk_173 (dk_at dksJ0_min_0 11 rfl rfl)
abbrev cJ0_max : ByteArray := prog_11_method_66_code
def yJ0_max : MethodName := ⟨RJ0, "max", "(JJ)J"⟩
def dkwJ0_max_0 : List UInt8 := [30, 32, 148, 155, 0, 7, 30, 167, 0, 4, 32, 173]
abbrev dktJ0_max_0 : List UInt8 := dkwJ0_max_0 ++ []
theorem dksJ0_max_0 : cJ0_max.data.toList.drop 0 = dktJ0_max_0 := by decide +kernel
theorem dJ0_max_0 : decode cJ0_max 0 = .ok (.lload_n 0, 1) := dk_30 (dk_at dksJ0_max_0 0 rfl rfl)
theorem dJ0_max_1 : decode cJ0_max 1 = .ok (.lload_n 2, 1) := dk_32 (dk_at dksJ0_max_0 1 rfl rfl)
theorem dJ0_max_2 : decode cJ0_max 2 = .ok (.lcmp, 1) := dk_148 (dk_at dksJ0_max_0 2 rfl rfl)
theorem dJ0_max_3 : decode cJ0_max 3 = .ok (.ifCond .lt 7, 3) := dk_155 0 7 (dk_at dksJ0_max_0 3 rfl rfl)
theorem dJ0_max_6 : decode cJ0_max 6 = .ok (.lload_n 0, 1) := dk_30 (dk_at dksJ0_max_0 6 rfl rfl)
theorem dJ0_max_7 : decode cJ0_max 7 = .ok (.goto 4, 3) := dk_167 0 4 (dk_at dksJ0_max_0 7 rfl rfl)
theorem dJ0_max_10 : decode cJ0_max 10 = .ok (.lload_n 2, 1) := dk_32 (dk_at dksJ0_max_0 10 rfl rfl)
theorem dJ0_max_11 : decode cJ0_max 11 = .ok (.lreturn, 1) := dk_173 (dk_at dksJ0_max_0 11 rfl rfl)
theorem q7 : (Jvm.Cond.initialized "java/lang/Math") ∈ lw_all := lw_g (lw_at lw_m1 5 rfl) rfl
theorem q72 : (Jvm.Cond.static ({ cls := "java/lang/Math", name := "min", desc := "(JJ)J" } : Jvm.MethodName)) ∈ lw_all := lw_g (lw_at lw_m1 70 rfl) rfl
theorem q73 : (Jvm.Cond.code ({ cls := "java/lang/Math", name := "min", desc := "(JJ)J" } : Jvm.MethodName) prog_11_method_70_code (4 : Nat) (Option.some Jvm.ClassFile.FieldType.long)) ∈ lw_all := lw_g (lw_at lw_m1 71 rfl) rfl
theorem q75 : (Jvm.Cond.static ({ cls := "java/lang/Math", name := "max", desc := "(JJ)J" } : Jvm.MethodName)) ∈ lw_all := lw_g (lw_at lw_m1 73 rfl) rfl
theorem q76 : (Jvm.Cond.code ({ cls := "java/lang/Math", name := "max", desc := "(JJ)J" } : Jvm.MethodName) prog_11_method_66_code (4 : Nat) (Option.some Jvm.ClassFile.FieldType.long)) ∈ lw_all := lw_g (lw_at lw_m1 74 rfl) rfl
/-! java/lang/Object -/
def RJ5 : String := "java/lang/Object"
abbrev cJ5_init : ByteArray := object_method_1_code
def yJ5_init : MethodName := ⟨RJ5, "<init>", "()V"⟩
theorem dJ5_init_0 : decode cJ5_init 0 = .ok (.return_, 1) := by decide +kernel
theorem q20 : (Jvm.Cond.instanceMethod ({ cls := "java/lang/Object", name := "<init>", desc := "()V" } : Jvm.MethodName)) ∈ lw_all := lw_g (lw_at lw_m1 18 rfl) rfl
theorem q21 : (Jvm.Cond.code ({ cls := "java/lang/Object", name := "<init>", desc := "()V" } : Jvm.MethodName) object_method_1_code (1 : Nat) (Option.none : Option Jvm.ClassFile.FieldType)) ∈ lw_all := lw_g (lw_at lw_m1 19 rfl) rfl
/-! the law's own entry -/
abbrev cL_law : ByteArray := code
def dkwL_law_10 : List UInt8 := [167, 255, 28, 4, 172]
abbrev dktL_law_10 : List UInt8 := dkwL_law_10 ++ []
def dkwL_law_9 : List UInt8 := [182, 0, 42, 44, 182, 0, 45, 167, 0, 14, 43, 182, 0, 46, 44, 182, 0, 49, 167, 0, 3, 132, 3, 6]
abbrev dktL_law_9 : List UInt8 := dkwL_law_9 ++ dktL_law_10
def dkwL_law_8 : List UInt8 := [182, 0, 36, 148, 153, 0, 40, 3, 172, 43, 182, 0, 37, 44, 182, 0, 41, 159, 0, 27, 3, 172, 43]
abbrev dktL_law_8 : List UInt8 := dkwL_law_8 ++ dktL_law_9
def dkwL_law_7 : List UInt8 := [182, 0, 31, 148, 153, 0, 64, 3, 172, 43, 42, 29, 4, 96, 46, 182, 0, 32, 44, 42, 29, 4, 96, 46]
abbrev dktL_law_7 : List UInt8 := dkwL_law_7 ++ dktL_law_8
def dkwL_law_6 : List UInt8 := [159, 0, 92, 3, 172, 43, 182, 0, 23, 44, 182, 0, 27, 148, 153, 0, 78, 3, 172, 43, 182, 0, 28, 44]
abbrev dktL_law_6 : List UInt8 := dkwL_law_6 ++ dktL_law_7
def dkwL_law_5 : List UInt8 := [46, 182, 0, 18, 44, 42, 29, 4, 96, 46, 42, 29, 5, 96, 46, 42, 29, 6, 96, 46, 182, 0, 22]
abbrev dktL_law_5 : List UInt8 := dkwL_law_5 ++ dktL_law_6
def dkwL_law_4 : List UInt8 := [46, 182, 0, 17, 159, 0, 135, 3, 172, 43, 42, 29, 4, 96, 46, 42, 29, 5, 96, 46, 42, 29, 6, 96]
abbrev dktL_law_4 : List UInt8 := dkwL_law_4 ++ dktL_law_5
def dkwL_law_3 : List UInt8 := [43, 42, 29, 4, 96, 46, 42, 29, 5, 96, 46, 182, 0, 13, 44, 42, 29, 4, 96, 46, 42, 29, 5, 96]
abbrev dktL_law_3 : List UInt8 := dkwL_law_3 ++ dktL_law_4
def dkwL_law_2 : List UInt8 := [170, 0, 0, 0, 0, 0, 210, 0, 0, 0, 0, 0, 0, 0, 7, 0, 0, 0, 47, 0, 0, 0, 80, 0, 0, 0, 123, 0, 0, 0, 137, 0, 0, 0, 151, 0, 0, 0, 175, 0, 0, 0, 188, 0, 0, 0, 199]
abbrev dktL_law_2 : List UInt8 := dkwL_law_2 ++ dktL_law_3
def dkwL_law_1 : List UInt8 := [163, 0, 225, 42, 29, 46, 16, 7, 126]
abbrev dktL_law_1 : List UInt8 := dkwL_law_1 ++ dktL_law_2
def dkwL_law_0 : List UInt8 := [187, 0, 7, 89, 183, 0, 9, 76, 187, 0, 10, 89, 183, 0, 12, 77, 3, 62, 29, 42, 190, 16, 6, 100]
abbrev dktL_law_0 : List UInt8 := dkwL_law_0 ++ dktL_law_1
theorem dksL_law_0 : cL_law.data.toList.drop 0 = dktL_law_0 := by decide +kernel
theorem dksL_law_1 : cL_law.data.toList.drop 24 = dktL_law_1 := dk_seg dksL_law_0 24 rfl rfl
theorem dksL_law_2 : cL_law.data.toList.drop 33 = dktL_law_2 := dk_seg dksL_law_1 9 rfl rfl
theorem dksL_law_3 : cL_law.data.toList.drop 80 = dktL_law_3 := dk_seg dksL_law_2 47 rfl rfl
theorem dksL_law_4 : cL_law.data.toList.drop 104 = dktL_law_4 := dk_seg dksL_law_3 24 rfl rfl
theorem dksL_law_5 : cL_law.data.toList.drop 128 = dktL_law_5 := dk_seg dksL_law_4 24 rfl rfl
theorem dksL_law_6 : cL_law.data.toList.drop 151 = dktL_law_6 := dk_seg dksL_law_5 23 rfl rfl
theorem dksL_law_7 : cL_law.data.toList.drop 175 = dktL_law_7 := dk_seg dksL_law_6 24 rfl rfl
theorem dksL_law_8 : cL_law.data.toList.drop 199 = dktL_law_8 := dk_seg dksL_law_7 24 rfl rfl
theorem dksL_law_9 : cL_law.data.toList.drop 222 = dktL_law_9 := dk_seg dksL_law_8 23 rfl rfl
theorem dksL_law_10 : cL_law.data.toList.drop 246 = dktL_law_10 := dk_seg dksL_law_9 24 rfl rfl
theorem dL_law_0 : decode cL_law 0 = .ok (.new 7, 3) := dk_187 0 7 (dk_at dksL_law_0 0 rfl rfl)
theorem dL_law_3 : decode cL_law 3 = .ok (.dup, 1) := dk_89 (dk_at dksL_law_0 3 rfl rfl)
theorem dL_law_4 : decode cL_law 4 = .ok (.invokespecial 9, 3) := dk_183 0 9 (dk_at dksL_law_0 4 rfl rfl)
theorem dL_law_7 : decode cL_law 7 = .ok (.astore_n 1, 1) := dk_76 (dk_at dksL_law_0 7 rfl rfl)
theorem dL_law_8 : decode cL_law 8 = .ok (.new 10, 3) := dk_187 0 10 (dk_at dksL_law_0 8 rfl rfl)
theorem dL_law_11 : decode cL_law 11 = .ok (.dup, 1) := dk_89 (dk_at dksL_law_0 11 rfl rfl)
theorem dL_law_12 : decode cL_law 12 = .ok (.invokespecial 12, 3) := dk_183 0 12 (dk_at dksL_law_0 12 rfl rfl)
theorem dL_law_15 : decode cL_law 15 = .ok (.astore_n 2, 1) := dk_77 (dk_at dksL_law_0 15 rfl rfl)
theorem dL_law_16 : decode cL_law 16 = .ok (.iconst 0, 1) := dk_3 (dk_at dksL_law_0 16 rfl rfl)
theorem dL_law_17 : decode cL_law 17 = .ok (.istore_n 3, 1) := dk_62 (dk_at dksL_law_0 17 rfl rfl)
theorem dL_law_18 : decode cL_law 18 = .ok (.iload_n 3, 1) := dk_29 (dk_at dksL_law_0 18 rfl rfl)
theorem dL_law_19 : decode cL_law 19 = .ok (.aload_n 0, 1) := dk_42 (dk_at dksL_law_0 19 rfl rfl)
theorem dL_law_20 : decode cL_law 20 = .ok (.arraylength, 1) := dk_190 (dk_at dksL_law_0 20 rfl rfl)
theorem dL_law_21 : decode cL_law 21 = .ok (.bipush 6, 2) := dk_16 6 (dk_at dksL_law_0 21 rfl rfl)
theorem dL_law_23 : decode cL_law 23 = .ok (.isub, 1) := dk_100 (dk_at dksL_law_0 23 rfl rfl)
theorem dL_law_24 : decode cL_law 24 = .ok (.if_icmp .gt 225, 3) := dk_163 0 225 (dk_at dksL_law_1 0 rfl rfl)
theorem dL_law_27 : decode cL_law 27 = .ok (.aload_n 0, 1) := dk_42 (dk_at dksL_law_1 3 rfl rfl)
theorem dL_law_28 : decode cL_law 28 = .ok (.iload_n 3, 1) := dk_29 (dk_at dksL_law_1 4 rfl rfl)
theorem dL_law_29 : decode cL_law 29 = .ok (.iaload, 1) := dk_46 (dk_at dksL_law_1 5 rfl rfl)
theorem dL_law_30 : decode cL_law 30 = .ok (.bipush 7, 2) := dk_16 7 (dk_at dksL_law_1 6 rfl rfl)
theorem dL_law_32 : decode cL_law 32 = .ok (.iand, 1) := dk_126 (dk_at dksL_law_1 8 rfl rfl)
theorem dL_law_33 : decode cL_law 33 = .ok (.tableswitch 210 0 7 #[47, 80, 123, 137, 151, 175, 188, 199], 47) := by decide +kernel
theorem dL_law_80 : decode cL_law 80 = .ok (.aload_n 1, 1) := dk_43 (dk_at dksL_law_3 0 rfl rfl)
theorem dL_law_81 : decode cL_law 81 = .ok (.aload_n 0, 1) := dk_42 (dk_at dksL_law_3 1 rfl rfl)
theorem dL_law_82 : decode cL_law 82 = .ok (.iload_n 3, 1) := dk_29 (dk_at dksL_law_3 2 rfl rfl)
theorem dL_law_83 : decode cL_law 83 = .ok (.iconst 1, 1) := dk_4 (dk_at dksL_law_3 3 rfl rfl)
theorem dL_law_84 : decode cL_law 84 = .ok (.iadd, 1) := dk_96 (dk_at dksL_law_3 4 rfl rfl)
theorem dL_law_85 : decode cL_law 85 = .ok (.iaload, 1) := dk_46 (dk_at dksL_law_3 5 rfl rfl)
theorem dL_law_86 : decode cL_law 86 = .ok (.aload_n 0, 1) := dk_42 (dk_at dksL_law_3 6 rfl rfl)
theorem dL_law_87 : decode cL_law 87 = .ok (.iload_n 3, 1) := dk_29 (dk_at dksL_law_3 7 rfl rfl)
theorem dL_law_88 : decode cL_law 88 = .ok (.iconst 2, 1) := dk_5 (dk_at dksL_law_3 8 rfl rfl)
theorem dL_law_89 : decode cL_law 89 = .ok (.iadd, 1) := dk_96 (dk_at dksL_law_3 9 rfl rfl)
theorem dL_law_90 : decode cL_law 90 = .ok (.iaload, 1) := dk_46 (dk_at dksL_law_3 10 rfl rfl)
theorem dL_law_91 : decode cL_law 91 = .ok (.invokevirtual 13, 3) := dk_182 0 13 (dk_at dksL_law_3 11 rfl rfl)
theorem dL_law_94 : decode cL_law 94 = .ok (.aload_n 2, 1) := dk_44 (dk_at dksL_law_3 14 rfl rfl)
theorem dL_law_95 : decode cL_law 95 = .ok (.aload_n 0, 1) := dk_42 (dk_at dksL_law_3 15 rfl rfl)
theorem dL_law_96 : decode cL_law 96 = .ok (.iload_n 3, 1) := dk_29 (dk_at dksL_law_3 16 rfl rfl)
theorem dL_law_97 : decode cL_law 97 = .ok (.iconst 1, 1) := dk_4 (dk_at dksL_law_3 17 rfl rfl)
theorem dL_law_98 : decode cL_law 98 = .ok (.iadd, 1) := dk_96 (dk_at dksL_law_3 18 rfl rfl)
theorem dL_law_99 : decode cL_law 99 = .ok (.iaload, 1) := dk_46 (dk_at dksL_law_3 19 rfl rfl)
theorem dL_law_100 : decode cL_law 100 = .ok (.aload_n 0, 1) := dk_42 (dk_at dksL_law_3 20 rfl rfl)
theorem dL_law_101 : decode cL_law 101 = .ok (.iload_n 3, 1) := dk_29 (dk_at dksL_law_3 21 rfl rfl)
theorem dL_law_102 : decode cL_law 102 = .ok (.iconst 2, 1) := dk_5 (dk_at dksL_law_3 22 rfl rfl)
theorem dL_law_103 : decode cL_law 103 = .ok (.iadd, 1) := dk_96 (dk_at dksL_law_3 23 rfl rfl)
theorem dL_law_104 : decode cL_law 104 = .ok (.iaload, 1) := dk_46 (dk_at dksL_law_4 0 rfl rfl)
theorem dL_law_105 : decode cL_law 105 = .ok (.invokevirtual 17, 3) := dk_182 0 17 (dk_at dksL_law_4 1 rfl rfl)
theorem dL_law_108 : decode cL_law 108 = .ok (.if_icmp .eq 135, 3) := dk_159 0 135 (dk_at dksL_law_4 4 rfl rfl)
theorem dL_law_111 : decode cL_law 111 = .ok (.iconst 0, 1) := dk_3 (dk_at dksL_law_4 7 rfl rfl)
theorem dL_law_112 : decode cL_law 112 = .ok (.ireturn, 1) := dk_172 (dk_at dksL_law_4 8 rfl rfl)
theorem dL_law_113 : decode cL_law 113 = .ok (.aload_n 1, 1) := dk_43 (dk_at dksL_law_4 9 rfl rfl)
theorem dL_law_114 : decode cL_law 114 = .ok (.aload_n 0, 1) := dk_42 (dk_at dksL_law_4 10 rfl rfl)
theorem dL_law_115 : decode cL_law 115 = .ok (.iload_n 3, 1) := dk_29 (dk_at dksL_law_4 11 rfl rfl)
theorem dL_law_116 : decode cL_law 116 = .ok (.iconst 1, 1) := dk_4 (dk_at dksL_law_4 12 rfl rfl)
theorem dL_law_117 : decode cL_law 117 = .ok (.iadd, 1) := dk_96 (dk_at dksL_law_4 13 rfl rfl)
theorem dL_law_118 : decode cL_law 118 = .ok (.iaload, 1) := dk_46 (dk_at dksL_law_4 14 rfl rfl)
theorem dL_law_119 : decode cL_law 119 = .ok (.aload_n 0, 1) := dk_42 (dk_at dksL_law_4 15 rfl rfl)
theorem dL_law_120 : decode cL_law 120 = .ok (.iload_n 3, 1) := dk_29 (dk_at dksL_law_4 16 rfl rfl)
theorem dL_law_121 : decode cL_law 121 = .ok (.iconst 2, 1) := dk_5 (dk_at dksL_law_4 17 rfl rfl)
theorem dL_law_122 : decode cL_law 122 = .ok (.iadd, 1) := dk_96 (dk_at dksL_law_4 18 rfl rfl)
theorem dL_law_123 : decode cL_law 123 = .ok (.iaload, 1) := dk_46 (dk_at dksL_law_4 19 rfl rfl)
theorem dL_law_124 : decode cL_law 124 = .ok (.aload_n 0, 1) := dk_42 (dk_at dksL_law_4 20 rfl rfl)
theorem dL_law_125 : decode cL_law 125 = .ok (.iload_n 3, 1) := dk_29 (dk_at dksL_law_4 21 rfl rfl)
theorem dL_law_126 : decode cL_law 126 = .ok (.iconst 3, 1) := dk_6 (dk_at dksL_law_4 22 rfl rfl)
theorem dL_law_127 : decode cL_law 127 = .ok (.iadd, 1) := dk_96 (dk_at dksL_law_4 23 rfl rfl)
theorem dL_law_128 : decode cL_law 128 = .ok (.iaload, 1) := dk_46 (dk_at dksL_law_5 0 rfl rfl)
theorem dL_law_129 : decode cL_law 129 = .ok (.invokevirtual 18, 3) := dk_182 0 18 (dk_at dksL_law_5 1 rfl rfl)
theorem dL_law_132 : decode cL_law 132 = .ok (.aload_n 2, 1) := dk_44 (dk_at dksL_law_5 4 rfl rfl)
theorem dL_law_133 : decode cL_law 133 = .ok (.aload_n 0, 1) := dk_42 (dk_at dksL_law_5 5 rfl rfl)
theorem dL_law_134 : decode cL_law 134 = .ok (.iload_n 3, 1) := dk_29 (dk_at dksL_law_5 6 rfl rfl)
theorem dL_law_135 : decode cL_law 135 = .ok (.iconst 1, 1) := dk_4 (dk_at dksL_law_5 7 rfl rfl)
theorem dL_law_136 : decode cL_law 136 = .ok (.iadd, 1) := dk_96 (dk_at dksL_law_5 8 rfl rfl)
theorem dL_law_137 : decode cL_law 137 = .ok (.iaload, 1) := dk_46 (dk_at dksL_law_5 9 rfl rfl)
theorem dL_law_138 : decode cL_law 138 = .ok (.aload_n 0, 1) := dk_42 (dk_at dksL_law_5 10 rfl rfl)
theorem dL_law_139 : decode cL_law 139 = .ok (.iload_n 3, 1) := dk_29 (dk_at dksL_law_5 11 rfl rfl)
theorem dL_law_140 : decode cL_law 140 = .ok (.iconst 2, 1) := dk_5 (dk_at dksL_law_5 12 rfl rfl)
theorem dL_law_141 : decode cL_law 141 = .ok (.iadd, 1) := dk_96 (dk_at dksL_law_5 13 rfl rfl)
theorem dL_law_142 : decode cL_law 142 = .ok (.iaload, 1) := dk_46 (dk_at dksL_law_5 14 rfl rfl)
theorem dL_law_143 : decode cL_law 143 = .ok (.aload_n 0, 1) := dk_42 (dk_at dksL_law_5 15 rfl rfl)
theorem dL_law_144 : decode cL_law 144 = .ok (.iload_n 3, 1) := dk_29 (dk_at dksL_law_5 16 rfl rfl)
theorem dL_law_145 : decode cL_law 145 = .ok (.iconst 3, 1) := dk_6 (dk_at dksL_law_5 17 rfl rfl)
theorem dL_law_146 : decode cL_law 146 = .ok (.iadd, 1) := dk_96 (dk_at dksL_law_5 18 rfl rfl)
theorem dL_law_147 : decode cL_law 147 = .ok (.iaload, 1) := dk_46 (dk_at dksL_law_5 19 rfl rfl)
theorem dL_law_148 : decode cL_law 148 = .ok (.invokevirtual 22, 3) := dk_182 0 22 (dk_at dksL_law_5 20 rfl rfl)
theorem dL_law_151 : decode cL_law 151 = .ok (.if_icmp .eq 92, 3) := dk_159 0 92 (dk_at dksL_law_6 0 rfl rfl)
theorem dL_law_154 : decode cL_law 154 = .ok (.iconst 0, 1) := dk_3 (dk_at dksL_law_6 3 rfl rfl)
theorem dL_law_155 : decode cL_law 155 = .ok (.ireturn, 1) := dk_172 (dk_at dksL_law_6 4 rfl rfl)
theorem dL_law_156 : decode cL_law 156 = .ok (.aload_n 1, 1) := dk_43 (dk_at dksL_law_6 5 rfl rfl)
theorem dL_law_157 : decode cL_law 157 = .ok (.invokevirtual 23, 3) := dk_182 0 23 (dk_at dksL_law_6 6 rfl rfl)
theorem dL_law_160 : decode cL_law 160 = .ok (.aload_n 2, 1) := dk_44 (dk_at dksL_law_6 9 rfl rfl)
theorem dL_law_161 : decode cL_law 161 = .ok (.invokevirtual 27, 3) := dk_182 0 27 (dk_at dksL_law_6 10 rfl rfl)
theorem dL_law_164 : decode cL_law 164 = .ok (.lcmp, 1) := dk_148 (dk_at dksL_law_6 13 rfl rfl)
theorem dL_law_165 : decode cL_law 165 = .ok (.ifCond .eq 78, 3) := dk_153 0 78 (dk_at dksL_law_6 14 rfl rfl)
theorem dL_law_168 : decode cL_law 168 = .ok (.iconst 0, 1) := dk_3 (dk_at dksL_law_6 17 rfl rfl)
theorem dL_law_169 : decode cL_law 169 = .ok (.ireturn, 1) := dk_172 (dk_at dksL_law_6 18 rfl rfl)
theorem dL_law_170 : decode cL_law 170 = .ok (.aload_n 1, 1) := dk_43 (dk_at dksL_law_6 19 rfl rfl)
theorem dL_law_171 : decode cL_law 171 = .ok (.invokevirtual 28, 3) := dk_182 0 28 (dk_at dksL_law_6 20 rfl rfl)
theorem dL_law_174 : decode cL_law 174 = .ok (.aload_n 2, 1) := dk_44 (dk_at dksL_law_6 23 rfl rfl)
theorem dL_law_175 : decode cL_law 175 = .ok (.invokevirtual 31, 3) := dk_182 0 31 (dk_at dksL_law_7 0 rfl rfl)
theorem dL_law_178 : decode cL_law 178 = .ok (.lcmp, 1) := dk_148 (dk_at dksL_law_7 3 rfl rfl)
theorem dL_law_179 : decode cL_law 179 = .ok (.ifCond .eq 64, 3) := dk_153 0 64 (dk_at dksL_law_7 4 rfl rfl)
theorem dL_law_182 : decode cL_law 182 = .ok (.iconst 0, 1) := dk_3 (dk_at dksL_law_7 7 rfl rfl)
theorem dL_law_183 : decode cL_law 183 = .ok (.ireturn, 1) := dk_172 (dk_at dksL_law_7 8 rfl rfl)
theorem dL_law_184 : decode cL_law 184 = .ok (.aload_n 1, 1) := dk_43 (dk_at dksL_law_7 9 rfl rfl)
theorem dL_law_185 : decode cL_law 185 = .ok (.aload_n 0, 1) := dk_42 (dk_at dksL_law_7 10 rfl rfl)
theorem dL_law_186 : decode cL_law 186 = .ok (.iload_n 3, 1) := dk_29 (dk_at dksL_law_7 11 rfl rfl)
theorem dL_law_187 : decode cL_law 187 = .ok (.iconst 1, 1) := dk_4 (dk_at dksL_law_7 12 rfl rfl)
theorem dL_law_188 : decode cL_law 188 = .ok (.iadd, 1) := dk_96 (dk_at dksL_law_7 13 rfl rfl)
theorem dL_law_189 : decode cL_law 189 = .ok (.iaload, 1) := dk_46 (dk_at dksL_law_7 14 rfl rfl)
theorem dL_law_190 : decode cL_law 190 = .ok (.invokevirtual 32, 3) := dk_182 0 32 (dk_at dksL_law_7 15 rfl rfl)
theorem dL_law_193 : decode cL_law 193 = .ok (.aload_n 2, 1) := dk_44 (dk_at dksL_law_7 18 rfl rfl)
theorem dL_law_194 : decode cL_law 194 = .ok (.aload_n 0, 1) := dk_42 (dk_at dksL_law_7 19 rfl rfl)
theorem dL_law_195 : decode cL_law 195 = .ok (.iload_n 3, 1) := dk_29 (dk_at dksL_law_7 20 rfl rfl)
theorem dL_law_196 : decode cL_law 196 = .ok (.iconst 1, 1) := dk_4 (dk_at dksL_law_7 21 rfl rfl)
theorem dL_law_197 : decode cL_law 197 = .ok (.iadd, 1) := dk_96 (dk_at dksL_law_7 22 rfl rfl)
theorem dL_law_198 : decode cL_law 198 = .ok (.iaload, 1) := dk_46 (dk_at dksL_law_7 23 rfl rfl)
theorem dL_law_199 : decode cL_law 199 = .ok (.invokevirtual 36, 3) := dk_182 0 36 (dk_at dksL_law_8 0 rfl rfl)
theorem dL_law_202 : decode cL_law 202 = .ok (.lcmp, 1) := dk_148 (dk_at dksL_law_8 3 rfl rfl)
theorem dL_law_203 : decode cL_law 203 = .ok (.ifCond .eq 40, 3) := dk_153 0 40 (dk_at dksL_law_8 4 rfl rfl)
theorem dL_law_206 : decode cL_law 206 = .ok (.iconst 0, 1) := dk_3 (dk_at dksL_law_8 7 rfl rfl)
theorem dL_law_207 : decode cL_law 207 = .ok (.ireturn, 1) := dk_172 (dk_at dksL_law_8 8 rfl rfl)
theorem dL_law_208 : decode cL_law 208 = .ok (.aload_n 1, 1) := dk_43 (dk_at dksL_law_8 9 rfl rfl)
theorem dL_law_209 : decode cL_law 209 = .ok (.invokevirtual 37, 3) := dk_182 0 37 (dk_at dksL_law_8 10 rfl rfl)
theorem dL_law_212 : decode cL_law 212 = .ok (.aload_n 2, 1) := dk_44 (dk_at dksL_law_8 13 rfl rfl)
theorem dL_law_213 : decode cL_law 213 = .ok (.invokevirtual 41, 3) := dk_182 0 41 (dk_at dksL_law_8 14 rfl rfl)
theorem dL_law_216 : decode cL_law 216 = .ok (.if_icmp .eq 27, 3) := dk_159 0 27 (dk_at dksL_law_8 17 rfl rfl)
theorem dL_law_219 : decode cL_law 219 = .ok (.iconst 0, 1) := dk_3 (dk_at dksL_law_8 20 rfl rfl)
theorem dL_law_220 : decode cL_law 220 = .ok (.ireturn, 1) := dk_172 (dk_at dksL_law_8 21 rfl rfl)
theorem dL_law_221 : decode cL_law 221 = .ok (.aload_n 1, 1) := dk_43 (dk_at dksL_law_8 22 rfl rfl)
theorem dL_law_222 : decode cL_law 222 = .ok (.invokevirtual 42, 3) := dk_182 0 42 (dk_at dksL_law_9 0 rfl rfl)
theorem dL_law_225 : decode cL_law 225 = .ok (.aload_n 2, 1) := dk_44 (dk_at dksL_law_9 3 rfl rfl)
theorem dL_law_226 : decode cL_law 226 = .ok (.invokevirtual 45, 3) := dk_182 0 45 (dk_at dksL_law_9 4 rfl rfl)
theorem dL_law_229 : decode cL_law 229 = .ok (.goto 14, 3) := dk_167 0 14 (dk_at dksL_law_9 7 rfl rfl)
theorem dL_law_232 : decode cL_law 232 = .ok (.aload_n 1, 1) := dk_43 (dk_at dksL_law_9 10 rfl rfl)
theorem dL_law_233 : decode cL_law 233 = .ok (.invokevirtual 46, 3) := dk_182 0 46 (dk_at dksL_law_9 11 rfl rfl)
theorem dL_law_236 : decode cL_law 236 = .ok (.aload_n 2, 1) := dk_44 (dk_at dksL_law_9 14 rfl rfl)
theorem dL_law_237 : decode cL_law 237 = .ok (.invokevirtual 49, 3) := dk_182 0 49 (dk_at dksL_law_9 15 rfl rfl)
theorem dL_law_240 : decode cL_law 240 = .ok (.goto 3, 3) := dk_167 0 3 (dk_at dksL_law_9 18 rfl rfl)
theorem dL_law_243 : decode cL_law 243 = .ok (.iinc 3 6, 3) := dk_132 3 6 (dk_at dksL_law_9 21 rfl rfl)
theorem dL_law_246 : decode cL_law 246 = .ok (.goto (-228), 3) := dk_167 255 28 (dk_at dksL_law_10 0 rfl rfl)
theorem dL_law_249 : decode cL_law 249 = .ok (.iconst 1, 1) := dk_4 (dk_at dksL_law_10 3 rfl rfl)
theorem dL_law_250 : decode cL_law 250 = .ok (.ireturn, 1) := dk_172 (dk_at dksL_law_10 4 rfl rfl)
theorem q2 : (Jvm.Cond.initialized "LongHeapDeskLaw") ∈ lw_all := lw_g (lw_at lw_m1 0 rfl) rfl
theorem q14 : (Jvm.Cond.classLink "LongHeapDeskLaw" (7 : Nat) "LongHeapDesk") ∈ lw_all := lw_g (lw_at lw_m1 12 rfl) rfl
theorem q16 : (Jvm.Cond.methodLink "LongHeapDeskLaw" (9 : Nat) ({ cls := "LongHeapDesk", name := "<init>", desc := "()V" } : Jvm.MethodName)) ∈ lw_all := lw_g (lw_at lw_m1 14 rfl) rfl
theorem q48 : (Jvm.Cond.methodLink "LongHeapDeskLaw" (13 : Nat) ({ cls := "LongHeapDesk", name := "enter", desc := "(II)Z" } : Jvm.MethodName)) ∈ lw_all := lw_g (lw_at lw_m1 46 rfl) rfl
theorem q83 : (Jvm.Cond.methodLink "LongHeapDeskLaw" (18 : Nat) ({ cls := "LongHeapDesk", name := "whole", desc := "(III)Z" } : Jvm.MethodName)) ∈ lw_all := lw_g (lw_at lw_m1 81 rfl) rfl
theorem q106 : (Jvm.Cond.methodLink "LongHeapDeskLaw" (23 : Nat) ({ cls := "LongHeapDesk", name := "least", desc := "()J" } : Jvm.MethodName)) ∈ lw_all := lw_g (lw_at lw_m1 104 rfl) rfl
theorem q175 : (Jvm.Cond.methodLink "LongHeapDeskLaw" (28 : Nat) ({ cls := "LongHeapDesk", name := "take", desc := "()J" } : Jvm.MethodName)) ∈ lw_all := lw_g (lw_at lw_m1 173 rfl) rfl
theorem q184 : (Jvm.Cond.methodLink "LongHeapDeskLaw" (32 : Nat) ({ cls := "LongHeapDesk", name := "takeMany", desc := "(I)J" } : Jvm.MethodName)) ∈ lw_all := lw_g (lw_at lw_m1 182 rfl) rfl
theorem q189 : (Jvm.Cond.methodLink "LongHeapDeskLaw" (37 : Nat) ({ cls := "LongHeapDesk", name := "waiting", desc := "()I" } : Jvm.MethodName)) ∈ lw_all := lw_g (lw_at lw_m1 187 rfl) rfl
theorem q193 : (Jvm.Cond.methodLink "LongHeapDeskLaw" (42 : Nat) ({ cls := "LongHeapDesk", name := "shrink", desc := "()V" } : Jvm.MethodName)) ∈ lw_all := lw_g (lw_at lw_m1 191 rfl) rfl
theorem q205 : (Jvm.Cond.methodLink "LongHeapDeskLaw" (46 : Nat) ({ cls := "LongHeapDesk", name := "drain", desc := "()V" } : Jvm.MethodName)) ∈ lw_all := lw_g (lw_at lw_m1 203 rfl) rfl
theorem q213 : (Jvm.Cond.classLink "LongHeapDeskLaw" (10 : Nat) "LongHeapDeskModel") ∈ lw_all := lw_g (lw_at lw_m1 211 rfl) rfl
theorem q215 : (Jvm.Cond.methodLink "LongHeapDeskLaw" (12 : Nat) ({ cls := "LongHeapDeskModel", name := "<init>", desc := "()V" } : Jvm.MethodName)) ∈ lw_all := lw_g (lw_at lw_m1 213 rfl) rfl
theorem q226 : (Jvm.Cond.methodLink "LongHeapDeskLaw" (17 : Nat) ({ cls := "LongHeapDeskModel", name := "enter", desc := "(II)Z" } : Jvm.MethodName)) ∈ lw_all := lw_g (lw_at lw_m1 224 rfl) rfl
theorem q234 : (Jvm.Cond.methodLink "LongHeapDeskLaw" (22 : Nat) ({ cls := "LongHeapDeskModel", name := "whole", desc := "(III)Z" } : Jvm.MethodName)) ∈ lw_all := lw_g (lw_at lw_m1 232 rfl) rfl
theorem q239 : (Jvm.Cond.methodLink "LongHeapDeskLaw" (27 : Nat) ({ cls := "LongHeapDeskModel", name := "least", desc := "()J" } : Jvm.MethodName)) ∈ lw_all := lw_g (lw_at lw_m1 237 rfl) rfl
theorem q247 : (Jvm.Cond.methodLink "LongHeapDeskLaw" (31 : Nat) ({ cls := "LongHeapDeskModel", name := "take", desc := "()J" } : Jvm.MethodName)) ∈ lw_all := lw_g (lw_at lw_m2 5 rfl) rfl
theorem q251 : (Jvm.Cond.methodLink "LongHeapDeskLaw" (36 : Nat) ({ cls := "LongHeapDeskModel", name := "takeMany", desc := "(I)J" } : Jvm.MethodName)) ∈ lw_all := lw_g (lw_at lw_m2 9 rfl) rfl
theorem q257 : (Jvm.Cond.methodLink "LongHeapDeskLaw" (41 : Nat) ({ cls := "LongHeapDeskModel", name := "waiting", desc := "()I" } : Jvm.MethodName)) ∈ lw_all := lw_g (lw_at lw_m2 15 rfl) rfl
theorem q261 : (Jvm.Cond.methodLink "LongHeapDeskLaw" (45 : Nat) ({ cls := "LongHeapDeskModel", name := "shrink", desc := "()V" } : Jvm.MethodName)) ∈ lw_all := lw_g (lw_at lw_m2 19 rfl) rfl
theorem q265 : (Jvm.Cond.methodLink "LongHeapDeskLaw" (49 : Nat) ({ cls := "LongHeapDeskModel", name := "drain", desc := "()V" } : Jvm.MethodName)) ∈ lw_all := lw_g (lw_at lw_m2 23 rfl) rfl
theorem q8 : (Jvm.Cond.initialized "java/lang/System") ∈ lw_all := lw_g (lw_at lw_m1 6 rfl) rfl
theorem q78 : (Jvm.Cond.static ({ cls := "java/lang/System", name := "arraycopy", desc := "(Ljava/lang/Object;ILjava/lang/Object;II)V" } : Jvm.MethodName)) ∈ lw_all := lw_g (lw_at lw_m1 76 rfl) rfl
theorem q79 : (Jvm.Cond.native ({ cls := "java/lang/System", name := "arraycopy", desc := "(Ljava/lang/Object;ILjava/lang/Object;II)V" } : Jvm.MethodName)) ∈ lw_all := lw_g (lw_at lw_m1 77 rfl) rfl
theorem q43 : (Jvm.Cond.arrayClass Jvm.ClassFile.FieldType.long) ∈ lw_all := lw_g (lw_at lw_m1 41 rfl) rfl
end
section
/-! rows of kit/laws/BITS.to-paste: a starting text -/
def bt (x : Int32) (i : Nat) : Bool := x.toBitVec.getLsbD i
theorem b_ext {x y : Int32} (h : ∀ i, i < 32 → bt x i = bt y i) : x = y := Int32.toBitVec_inj.mp (BitVec.eq_of_getLsbD_eq (fun i hi => h i hi))
theorem b_or (x y : Int32) (i : Nat) : bt (x ||| y) i = (bt x i || bt y i) := by unfold bt; rw [Int32.toBitVec_or, BitVec.getLsbD_or]
theorem b_and (x y : Int32) (i : Nat) : bt (x &&& y) i = (bt x i && bt y i) := by unfold bt; rw [Int32.toBitVec_and, BitVec.getLsbD_and]
theorem b_xor (x y : Int32) (i : Nat) : bt (x ^^^ y) i = (bt x i ^^ bt y i) := by unfold bt; rw [Int32.toBitVec_xor, BitVec.getLsbD_xor]
theorem b_big {x : Int32} {i : Nat} (h : 32 ≤ i) : bt x i = false := BitVec.getLsbD_of_ge _ _ h
theorem b_255 (i : Nat) : bt 255 i = decide (i < 8) := by
  rcases Nat.lt_or_ge i 32 with h | h
  · exact (by decide +kernel : ∀ i, i < 32 → bt 255 i = decide (i < 8)) i h
  · rw [b_big h, decide_eq_false (by omega)]
theorem b_65535 (i : Nat) : bt 65535 i = decide (i < 16) := by
  rcases Nat.lt_or_ge i 32 with h | h
  · exact (by decide +kernel : ∀ i, i < 32 → bt 65535 i = decide (i < 16)) i h
  · rw [b_big h, decide_eq_false (by omega)]
theorem b_m1 : ∀ i, i < 32 → bt (-1) i = true := by decide +kernel
theorem b_0 (i : Nat) : bt 0 i = false := BitVec.getLsbD_zero
theorem s_l : ∀ n, n < 32 → ((nI n &&& 31).toBitVec.smod 32).toNat = n := by decide +kernel
theorem s_u : ∀ n, n < 32 → (((nI n).toUInt32 &&& Int32.toUInt32 31).toBitVec % 32).toNat = n := by decide +kernel
theorem b_shl (n : Nat) (hn : n < 32) (x : Int32) {i : Nat} (hi : i < 32) : bt (x <<< (nI n &&& 31)) i = (decide (n ≤ i) && bt x (i - n)) := by
  unfold bt
  rw [Int32.toBitVec_shiftLeft]
  show (x.toBitVec <<< ((nI n &&& 31).toBitVec.smod 32).toNat).getLsbD i = _
  rw [s_l n hn, BitVec.getLsbD_shiftLeft]
  rcases Nat.lt_or_ge i n with h | h
  · simp [h, Nat.not_le.mpr h]
  · simp [hi, h, Nat.not_lt.mpr h]
theorem b_ushr (n : Nat) (hn : n < 32) (x : Int32) (i : Nat) : bt ((x.toUInt32 >>> ((nI n).toUInt32 &&& Int32.toUInt32 31)).toInt32) i = bt x (n + i) := by
  show (x.toUInt32 >>> ((nI n).toUInt32 &&& Int32.toUInt32 31)).toBitVec.getLsbD i = x.toUInt32.toBitVec.getLsbD (n + i)
  rw [UInt32.toBitVec_shiftRight]
  show (x.toUInt32.toBitVec >>> (((nI n).toUInt32 &&& Int32.toUInt32 31).toBitVec % 32).toNat).getLsbD i = _
  rw [s_u n hn, BitVec.getLsbD_ushiftRight]
theorem b_sshr (n : Nat) (hn : n < 32) (x : Int32) {i : Nat} (hi : i < 32) : bt (x >>> (nI n &&& 31)) i = if n + i < 32 then bt x (n + i) else bt x 31 := by
  unfold bt
  rw [Int32.toBitVec_shiftRight]
  show (x.toBitVec.sshiftRight ((nI n &&& 31).toBitVec.smod 32).toNat).getLsbD i = _
  rw [s_l n hn, BitVec.getLsbD_sshiftRight, BitVec.msb_eq_getLsbD_last]
  simp [hi]
theorem b_shl8 (x : Int32) {i : Nat} (hi : i < 32) : bt (x <<< ((8 : Int32) &&& 31)) i = (decide (8 ≤ i) && bt x (i - 8)) := b_shl 8 (by omega) x hi
theorem b_shl16 (x : Int32) {i : Nat} (hi : i < 32) : bt (x <<< ((16 : Int32) &&& 31)) i = (decide (16 ≤ i) && bt x (i - 16)) := b_shl 16 (by omega) x hi
theorem b_shl24 (x : Int32) {i : Nat} (hi : i < 32) : bt (x <<< ((24 : Int32) &&& 31)) i = (decide (24 ≤ i) && bt x (i - 24)) := b_shl 24 (by omega) x hi
theorem wb_tb (n : Nat) : (lN n).toBitVec = BitVec.ofNat 64 n := rfl
theorem wb_inj {a b : Int64} (h : a.toBitVec = b.toBitVec) : a = b := Int64.toBitVec_inj.mp h
theorem wb_tn {n : Nat} (h : n < 2 ^ 64) : (lN n).toBitVec.toNat = n := by rw [wb_tb, BitVec.toNat_ofNat, Nat.mod_eq_of_lt h]
theorem wb_of (x : Int64) : ∃ n, n < 2 ^ 64 ∧ x = lN n := ⟨x.toBitVec.toNat, x.toBitVec.isLt, wb_inj (by rw [wb_tb]; simp)⟩
theorem wb_of32 (x : Int32) : ∃ n, n < 2 ^ 32 ∧ x = nI n := ⟨x.toBitVec.toNat, x.toBitVec.isLt, Int32.toBitVec_inj.mp (by show _ = BitVec.ofNat 32 _; simp)⟩
theorem wb_c : ∀ k, k < 64 → ((nI k).toInt64 &&& 63) = lN k := by decide +kernel
theorem wb_cu : ∀ k, k < 64 → ((nI k).toInt64.toUInt64 &&& Int64.toUInt64 63) = UInt64.ofNat k := by decide +kernel
theorem wb_sm : ∀ k, k < 64 → (BitVec.ofNat 64 k).smod 64 = BitVec.ofNat 64 k := by decide +kernel
theorem wb_pw {a b : Nat} (h : a ≤ b) : 2 ^ b = 2 ^ a * 2 ^ (b - a) := by rw [← Nat.pow_add]; congr 1; omega
theorem wb_lt2 {a b : Nat} (h : a < b) : 2 ^ a < 2 ^ b := Nat.pow_lt_pow_right (by decide) h
theorem wb_mod (n : Nat) : lN n = lN (n % 2 ^ 64) := wb_inj (by rw [wb_tb, wb_tb]; apply BitVec.eq_of_toNat_eq; rw [BitVec.toNat_ofNat, BitVec.toNat_ofNat, Nat.mod_mod])
theorem wb_shr {n k : Nat} (hn : n < 2 ^ 64) (hk : k < 64) : ((lN n).toUInt64 >>> ((nI k).toInt64.toUInt64 &&& Int64.toUInt64 63)).toInt64 = lN (n / 2 ^ k) := by
  rw [wb_cu k hk]
  apply wb_inj
  apply BitVec.eq_of_toNat_eq
  show ((lN n).toUInt64 >>> UInt64.ofNat k).toNat = (BitVec.ofNat 64 _).toNat
  have h1 : (UInt64.ofNat k).toNat = k := by
    show (BitVec.ofNat 64 k).toNat = k
    rw [BitVec.toNat_ofNat, Nat.mod_eq_of_lt (by omega)]
  have h2 : (lN n).toUInt64.toNat = n := wb_tn hn
  rw [UInt64.toNat_shiftRight, h1, h2, Nat.mod_eq_of_lt hk, Nat.shiftRight_eq_div_pow, BitVec.toNat_ofNat, Nat.mod_eq_of_lt (Nat.lt_of_le_of_lt (Nat.div_le_self _ _) hn)]
theorem wb_shl (n : Nat) {k : Nat} (hk : k < 64) : lN n <<< ((nI k).toInt64 &&& 63) = lN (n * 2 ^ k) := by
  rw [wb_c k hk]
  apply wb_inj
  rw [Int64.toBitVec_shiftLeft, wb_tb, wb_tb, wb_tb, wb_sm k hk]
  apply BitVec.eq_of_toNat_eq
  rw [BitVec.shiftLeft_eq', BitVec.toNat_shiftLeft, BitVec.toNat_ofNat, BitVec.toNat_ofNat, BitVec.toNat_ofNat, Nat.mod_eq_of_lt (show k < 2 ^ 64 by omega), Nat.shiftLeft_eq, Nat.mul_mod, Nat.mod_mod, ← Nat.mul_mod]
theorem wb_and {a b : Nat} (ha : a < 2 ^ 64) (hb : b < 2 ^ 64) : lN a &&& lN b = lN (a &&& b) := by
  apply wb_inj
  rw [Int64.toBitVec_and, wb_tb, wb_tb, wb_tb]
  apply BitVec.eq_of_toNat_eq
  rw [BitVec.toNat_and, BitVec.toNat_ofNat, BitVec.toNat_ofNat, BitVec.toNat_ofNat, Nat.mod_eq_of_lt ha, Nat.mod_eq_of_lt hb, Nat.mod_eq_of_lt (Nat.and_lt_two_pow _ hb)]
theorem wb_or {a b : Nat} (ha : a < 2 ^ 64) (hb : b < 2 ^ 64) : lN a ||| lN b = lN (a ||| b) := by
  apply wb_inj
  rw [Int64.toBitVec_or, wb_tb, wb_tb, wb_tb]
  apply BitVec.eq_of_toNat_eq
  rw [BitVec.toNat_or, BitVec.toNat_ofNat, BitVec.toNat_ofNat, BitVec.toNat_ofNat, Nat.mod_eq_of_lt ha, Nat.mod_eq_of_lt hb, Nat.mod_eq_of_lt (Nat.or_lt_two_pow ha hb)]
theorem wb_mask {n k : Nat} (hn : n < 2 ^ 64) (hk : k < 64) : lN n &&& lN (2 ^ k - 1) = lN (n % 2 ^ k) := by
  rw [wb_and hn (by have := wb_lt2 hk; omega), Nat.and_two_pow_sub_one_eq_mod]
theorem wb_a1 {n : Nat} (hn : n < 2 ^ 64) : lN n &&& 1 = lN (n % 2) := wb_mask (k := 1) hn (by decide)
theorem u_tn {n : Nat} (h : n < 2 ^ 64) : (UInt64.ofNat n).toNat = n := Nat.mod_eq_of_lt h
theorem g_or {k p a b : Nat} (hp : 2 ^ k = p) (ha : a < p) (h : b * p + a < 2 ^ 64) : lN (b * p) ||| lN a = lN (b * p + a) := by
  subst hp
  have h1 : b * 2 ^ k ||| a = b * 2 ^ k + a := by rw [← Nat.shiftLeft_eq, Nat.shiftLeft_add_eq_or_of_lt ha]
  have h3 : UInt64.ofNat (b * 2 ^ k) ||| UInt64.ofNat a = UInt64.ofNat (b * 2 ^ k + a) := UInt64.toNat_inj.mp (by rw [UInt64.toNat_or, u_tn (by omega), u_tn (by omega), u_tn h, h1])
  have h2 := congrArg UInt64.toInt64 h3
  exact h2
theorem g_or' {k p a b : Nat} (hp : 2 ^ k = p) (ha : a < p) (h : a + b * p < 2 ^ 64) : lN a ||| lN (b * p) = lN (a + b * p) := by
  rw [Int64.or_comm, g_or hp ha (by omega), Nat.add_comm]
/-! ===== Int64 as an unsigned number: uN x ===== -/
def uN (x : Int64) : Nat := x.toUInt64.toNat
theorem uN_lt (x : Int64) : uN x < 18446744073709551616 := x.toUInt64.toNat_lt
theorem uN_inj {x y : Int64} (h : uN x = uN y) : x = y := congrArg UInt64.toInt64 (UInt64.toNat_inj.mp h)
theorem uN_add (x y : Int64) : uN (x + y) = (uN x + uN y) % 18446744073709551616 := by
  show (x.toUInt64 + y.toUInt64).toNat = _
  exact UInt64.toNat_add _ _
theorem uN_mul (x y : Int64) : uN (x * y) = (uN x * uN y) % 18446744073709551616 := by
  show (x.toUInt64 * y.toUInt64).toNat = _
  exact UInt64.toNat_mul _ _
theorem uN_shl (x : Int64) : uN (x <<< ((1 : Int32).toInt64 &&& 63)) = (2 * uN x) % 18446744073709551616 := by
  have h : (((1 : Int32).toInt64 &&& 63).toBitVec.smod 64).toNat = 1 := by decide
  show (x.toBitVec <<< (((1 : Int32).toInt64 &&& 63).toBitVec.smod 64).toNat).toNat = _
  rw [h, BitVec.toNat_shiftLeft, Nat.shiftLeft_eq, Nat.mul_comm]
  rfl
theorem uN_shr (x : Int64) (s : UInt64) : uN (x.toUInt64 >>> s).toInt64 = uN x / 2 ^ (s.toNat % 64) := by
  show (x.toUInt64 >>> s).toNat = _
  rw [UInt64.toNat_shiftRight, Nat.shiftRight_eq_div_pow]
  rfl
theorem uN_s32 (x : Int64) : uN (x.toUInt64 >>> ((32 : Int32).toInt64.toUInt64 &&& Int64.toUInt64 63)).toInt64 = uN x / 4294967296 := by
  have h : ((32 : Int32).toInt64.toUInt64 &&& Int64.toUInt64 63).toNat % 64 = 32 := by decide
  rw [uN_shr, h]
theorem uN_s63 (x : Int64) : uN (x.toUInt64 >>> ((63 : Int32).toInt64.toUInt64 &&& Int64.toUInt64 63)).toInt64 = uN x / 9223372036854775808 := by
  have h : ((63 : Int32).toInt64.toUInt64 &&& Int64.toUInt64 63).toNat % 64 = 63 := by decide
  rw [uN_shr, h]
theorem uN_lo (x : Int64) : uN (x &&& 4294967295) = uN x % 4294967296 := by
  show (x.toUInt64 &&& Int64.toUInt64 4294967295).toNat = _
  rw [UInt64.toNat_and]
  exact Nat.and_two_pow_sub_one_eq_mod _ 32
theorem uN_bit (x : Int64) : (x &&& 1) = 0 ↔ uN x % 2 = 0 := by
  have h : uN (x &&& 1) = uN x % 2 := by
    show (x.toUInt64 &&& Int64.toUInt64 1).toNat = _
    rw [UInt64.toNat_and]
    exact Nat.and_two_pow_sub_one_eq_mod _ 1
  rw [← h]
  exact ⟨fun z => by rw [z]; rfl, fun z => uN_inj (z.trans rfl)⟩
theorem uN_int (x : Int64) : x.toInt = if 2 * uN x < 18446744073709551616 then (uN x : Int) else (uN x : Int) - 18446744073709551616 := BitVec.toInt_eq_toNat_cond _
end
section
/-! PURE LAWS: the first z places of an array as a list (ab); lists up to their order; heaps; the least of a list (mn); taking several (tm); the made values (mkv); the two halves joined (wd) -/
def ab (f : Nat → Int64) (z : Nat) : List Int64 := (List.range z).map f
theorem ab_len (f : Nat → Int64) (z : Nat) : (ab f z).length = z := by simp [ab]
theorem ab_0 (f : Nat → Int64) : ab f 0 = [] := rfl
theorem ab_succ (f : Nat → Int64) (z : Nat) : ab f (z + 1) = ab f z ++ [f z] := by simp [ab, List.range_succ]
theorem ab_congr {f g : Nat → Int64} {z : Nat} (h : ∀ j, j < z → f j = g j) : ab f z = ab g z := by
  unfold ab
  apply List.map_congr_left
  intro j hj
  exact h j (List.mem_range.mp hj)
theorem ab_in {f : Nat → Int64} {z j : Nat} (h : j < z) : f j ∈ ab f z := List.mem_map.mpr ⟨j, List.mem_range.mpr h, rfl⟩
theorem ab_of {f : Nat → Int64} {z : Nat} {x : Int64} (h : x ∈ ab f z) : ∃ j, j < z ∧ f j = x := by
  obtain ⟨j, h1, h2⟩ := List.mem_map.mp h
  exact ⟨j, List.mem_range.mp h1, h2⟩
theorem up_s (f : Nat → Int64) (i : Nat) (x : Int64) : vp_updL f i x i = x := by simp [vp_updL]
theorem up_n (f : Nat → Int64) {i j : Nat} (x : Int64) (h : j ≠ i) : vp_updL f i x j = f j := by simp [vp_updL, h]
theorem up_self (f : Nat → Int64) (i : Nat) : vp_updL f i (f i) = f := by
  funext j
  by_cases h : j = i
  · subst h; rw [up_s]
  · rw [up_n _ _ h]
theorem up_up (f : Nat → Int64) (i : Nat) (x y : Int64) : vp_updL (vp_updL f i x) i y = vp_updL f i y := by
  funext j
  by_cases h : j = i
  · subst h; rw [up_s, up_s]
  · rw [up_n _ _ h, up_n _ _ h, up_n _ _ h]
theorem pm_sw (a b : Int64) (l : List Int64) : (a :: b :: l).Perm (b :: a :: l) := List.Perm.swap b a l
theorem pm_end (a : Int64) (l : List Int64) : (l ++ [a]).Perm (a :: l) := List.perm_append_singleton a l
/-- one place changed: what stood there for what comes -/
theorem ab_upd (f : Nat → Int64) (i : Nat) (x : Int64) : ∀ z, i < z → (f i :: ab (vp_updL f i x) z).Perm (x :: ab f z) := by
  intro z
  induction z with
  | zero => intro h; exact absurd h (Nat.not_lt_zero i)
  | succ z ih =>
    intro h
    rw [ab_succ, ab_succ]
    by_cases hi : i = z
    · subst hi
      rw [up_s, ab_congr (f := vp_updL f i x) (g := f) (fun j hj => up_n f x (Nat.ne_of_lt hj))]
      have h1 : (f i :: (ab f i ++ [x])).Perm (f i :: x :: ab f i) := (pm_end x _).cons _
      have h2 : (x :: (ab f i ++ [f i])).Perm (x :: f i :: ab f i) := (pm_end (f i) _).cons _
      exact h1.trans ((pm_sw (f i) x _).trans h2.symm)
    · have hz : i < z := by omega
      rw [up_n f x (fun e => hi e.symm)]
      have h1 := (ih hz).append_right [f z]
      exact h1
/-- the hole moves: t out of c to i, e into c -/
theorem ab_hole {f : Nat → Int64} {i c z : Nat} {e : Int64} (hi : i < z) (hc : c < z) (hne : c ≠ i) : (ab (vp_updL (vp_updL f i (f c)) c e) z).Perm (ab (vp_updL f i e) z) := by
  have h1 := ab_upd f i e z hi
  have h2 := ab_upd (vp_updL f i (f c)) c e z hc
  rw [up_n f (f c) hne] at h2
  have h3 := ab_upd f i (f c) z hi
  have h4 : (f i :: f c :: ab (vp_updL (vp_updL f i (f c)) c e) z).Perm (f i :: f c :: ab (vp_updL f i e) z) := by
    refine (h2.cons (f i)).trans ?_
    refine (pm_sw _ _ _).trans ?_
    refine (h3.cons e).trans ?_
    refine (pm_sw _ _ _).trans ?_
    refine (h1.symm.cons (f c)).trans ?_
    exact pm_sw _ _ _
  exact List.Perm.cons_inv (List.Perm.cons_inv h4)
/-- F is a heap at lo and behind it -/
def hp (lo : Nat) (F : Nat → Int64) (z : Nat) : Prop := ∀ k c, lo ≤ k → (c = 2 * k + 1 ∨ c = 2 * k + 2) → c < z → F k ≤ F c
def hd (lo i : Nat) (F : Nat → Int64) (z : Nat) : Prop := (∀ k c, lo ≤ k → k ≠ i → (c = 2 * k + 1 ∨ c = 2 * k + 2) → c < z → F k ≤ F c) ∧ (∀ p c, lo ≤ p → (i = 2 * p + 1 ∨ i = 2 * p + 2) → (c = 2 * i + 1 ∨ c = 2 * i + 2) → c < z → F p ≤ F c)
def hu (i : Nat) (F : Nat → Int64) (z : Nat) : Prop := (∀ k c, (c = 2 * k + 1 ∨ c = 2 * k + 2) → c < z → c ≠ i → F k ≤ F c) ∧ (∀ p c, (i = 2 * p + 1 ∨ i = 2 * p + 2) → (c = 2 * i + 1 ∨ c = 2 * i + 2) → c < z → F p ≤ F c)
theorem hd_start {i z : Nat} {f : Nat → Int64} (h : hp (i + 1) f z) : hd i i (vp_updL f i (f i)) z := by
  rw [up_self]
  exact ⟨fun k c h1 h2 h3 h4 => h k c (by omega) h3 h4, fun p c h1 h2 => absurd h2 (by omega)⟩
theorem hd_end {lo i z : Nat} {F : Nat → Int64} (h : hd lo i F z) (hi : ∀ c, (c = 2 * i + 1 ∨ c = 2 * i + 2) → c < z → F i ≤ F c) : hp lo F z := by
  intro k c h1 h2 h3
  by_cases hk : k = i
  · subst hk; exact hi c h2 h3
  · exact h.1 k c h1 hk h2 h3
theorem le_of_nle {x y : Int64} (h : ¬ x ≤ y) : y ≤ x := Int64.le_of_lt (Int64.not_le.mp h)
theorem hd_step {lo i z c : Nat} {f : Nat → Int64} {e : Int64} (h : hd lo i (vp_updL f i e) z) (hlo : lo ≤ i) (hc : c = 2 * i + 1 ∨ c = 2 * i + 2) (hcz : c < z) (hmin : ∀ c', (c' = 2 * i + 1 ∨ c' = 2 * i + 2) → c' < z → f c ≤ f c') (he : ¬ e ≤ f c) : hd lo c (vp_updL (vp_updL f i (f c)) c e) z := by
  have hci : c ≠ i := by omega
  constructor
  · intro k c' h1 h2 h3 h4
    rw [up_n _ _ h2]
    by_cases hk : k = i
    · subst hk
      rw [up_s]
      by_cases hcc : c' = c
      · subst hcc; rw [up_s]; exact le_of_nle he
      · rw [up_n _ _ hcc, up_n _ _ (show c' ≠ k by omega)]; exact hmin c' h3 h4
    · rw [up_n _ _ hk]
      by_cases hcc : c' = c
      · omega
      · rw [up_n _ _ hcc]
        by_cases hc1 : c' = i
        · subst hc1
          rw [up_s]
          have := h.2 k c h1 h3 hc hcz
          rw [up_n _ _ hk, up_n _ _ hci] at this
          exact this
        · rw [up_n _ _ hc1]
          have := h.1 k c' h1 hk h3 h4
          rw [up_n _ _ hk, up_n _ _ hc1] at this
          exact this
  · intro p c' h1 h2 h3 h4
    have hp : p = i := by omega
    subst hp
    rw [up_n _ _ (show p ≠ c by omega), up_s, up_n _ _ (show c' ≠ c by omega), up_n _ _ (show c' ≠ p by omega)]
    have := h.1 c c' (by omega) (by omega) h3 h4
    rw [up_n _ _ hci, up_n _ _ (show c' ≠ p by omega)] at this
    exact this
theorem hu_start {z : Nat} {f : Nat → Int64} (h : hp 0 f z) : hu z (vp_updL f z (f z)) (z + 1) := by
  rw [up_self]
  exact ⟨fun k c h1 h2 h3 => h k c (Nat.zero_le k) h1 (by omega), fun p c h1 h2 h3 => absurd h3 (by omega)⟩
theorem hu_end {i z : Nat} {F : Nat → Int64} (h : hu i F z) (hi : ∀ p, (i = 2 * p + 1 ∨ i = 2 * p + 2) → F p ≤ F i) : hp 0 F z := by
  intro k c _ h2 h3
  by_cases hk : c = i
  · subst hk; exact hi k h2
  · exact h.1 k c h2 h3 hk
theorem hu_step {i z p : Nat} {f : Nat → Int64} {e : Int64} (h : hu i (vp_updL f i e) z) (hiz : i < z) (hp : i = 2 * p + 1 ∨ i = 2 * p + 2) (he : ¬ f p ≤ e) : hu p (vp_updL (vp_updL f i (f p)) p e) z := by
  have hpi : p ≠ i := by omega
  have hle := le_of_nle he
  constructor
  · intro k c h1 h2 h3
    rw [up_n _ _ h3]
    by_cases hc : c = i
    · have hk : k = p := by omega
      subst hc; subst hk
      rw [up_s, up_s]; exact hle
    · rw [up_n _ _ hc]
      by_cases hk : k = p
      · subst hk
        rw [up_s]
        have := h.1 k c h1 h2 hc
        rw [up_n _ _ hpi, up_n _ _ hc] at this
        exact Int64.le_trans hle this
      · rw [up_n _ _ hk]
        by_cases hki : k = i
        · subst hki
          rw [up_s]
          have := h.2 p c hp h1 h2
          rw [up_n _ _ hpi, up_n _ _ hc] at this
          exact this
        · rw [up_n _ _ hki]
          have := h.1 k c h1 h2 hc
          rw [up_n _ _ hki, up_n _ _ hc] at this
          exact this
  · intro q c h1 h2 h3
    have hqp := h.1 q p h1 (by omega) hpi
    rw [up_n _ _ (show q ≠ i by omega), up_n _ _ hpi] at hqp
    rw [up_n _ _ (show q ≠ p by omega), up_n _ _ (show q ≠ i by omega), up_n _ _ (show c ≠ p by omega)]
    by_cases hc : c = i
    · subst hc; rw [up_s]; exact hqp
    · rw [up_n _ _ hc]
      have := h.1 p c h2 h3 hc
      rw [up_n _ _ hpi, up_n _ _ hc] at this
      exact Int64.le_trans hqp this
theorem hp_min {F : Nat → Int64} {z : Nat} (h : hp 0 F z) : ∀ n j, j < n → j < z → F 0 ≤ F j := by
  intro n
  induction n with
  | zero => intro j hj; exact absurd hj (Nat.not_lt_zero j)
  | succ n ih =>
    intro j hj hz
    by_cases h0 : j = 0
    · subst h0; exact Int64.le_refl _
    · have h1 := ih ((j - 1) / 2) (by omega) (by omega)
      have h2 := h ((j - 1) / 2) j (Nat.zero_le _) (by omega) hz
      exact Int64.le_trans h1 h2
theorem hp_small {F : Nat → Int64} {z lo : Nat} (h : z ≤ 2 * lo + 1) : hp lo F z := fun k c h1 h2 h3 => absurd h3 (by omega)
theorem hp_down {F : Nat → Int64} {z z2 lo : Nat} (h : hp lo F z) (hz : z2 ≤ z) : hp lo F z2 := fun k c h1 h2 h3 => h k c h1 h2 (by omega)
theorem hp_up {F : Nat → Int64} {z lo lo2 : Nat} (h : hp lo F z) (hz : lo ≤ lo2) : hp lo2 F z := fun k c h1 h2 h3 => h k c (by omega) h2 h3
theorem hp_congr {F G : Nat → Int64} {z lo : Nat} (h : hp lo F z) (e : ∀ j, j < z → G j = F j) : hp lo G z := fun k c h1 h2 h3 => by rw [e k (by omega), e c h3]; exact h k c h1 h2 h3
/-- the least of a list: 0 where there is none -/
noncomputable def mn (L : List Int64) : Int64 := @dite Int64 (∃ x, x ∈ L ∧ ∀ y, y ∈ L → x ≤ y) (Classical.propDecidable _) (fun h => Classical.choose h) (fun _ => 0)
theorem mn_eq {L : List Int64} {x : Int64} (hx : x ∈ L) (h : ∀ y, y ∈ L → x ≤ y) : mn L = x := by
  have hex : ∃ x, x ∈ L ∧ ∀ y, y ∈ L → x ≤ y := ⟨x, hx, h⟩
  unfold mn
  rw [dif_pos hex]
  have hc := Classical.choose_spec hex
  exact Int64.le_antisymm (hc.2 x hx) (h _ hc.1)
/-- taking k at most, the least first, into a -/
noncomputable def tm : Nat → List Int64 → Int64 → Int64 × List Int64
  | 0, L, a => (a, L)
  | _ + 1, [], a => (a, [])
  | k + 1, x :: t, a => tm k ((x :: t).erase (mn (x :: t))) (a * 31 + mn (x :: t))
theorem tm_0 (L : List Int64) (a : Int64) : tm 0 L a = (a, L) := by cases L <;> rfl
theorem tm_nil (k : Nat) (a : Int64) : tm k [] a = (a, []) := by cases k <;> rfl
theorem tm_cons {k : Nat} {L : List Int64} {a : Int64} (h : L ≠ []) : tm (k + 1) L a = tm k (L.erase (mn L)) (a * 31 + mn L) := by
  cases L with
  | nil => exact absurd rfl h
  | cons x t => rfl
/-- a row of z places holds the list L, in some order -/
def hol (f : Nat → Int64) (z : Nat) (L : List Int64) : Prop := (ab f z).Perm L
theorem hol_len {f : Nat → Int64} {z : Nat} {L : List Int64} (h : hol f z L) : z = L.length := by
  have := List.Perm.length_eq h
  rw [ab_len] at this
  exact this
theorem hol_nil {f : Nat → Int64} {L : List Int64} (h : hol f 0 L) : L = [] := List.eq_nil_of_length_eq_zero (hol_len h).symm
theorem hol_0 (f : Nat → Int64) : hol f 0 [] := List.Perm.refl _
theorem hol_ne {f : Nat → Int64} {z : Nat} {L : List Int64} (h : hol f z L) (hz : 0 < z) : L ≠ [] := by
  intro e
  have := hol_len h
  rw [e] at this
  exact absurd this (by simp; omega)
theorem hol_mn {f : Nat → Int64} {z j : Nat} {L : List Int64} (h : hol f z L) (hj : j < z) (hm : ∀ k, k < z → f j ≤ f k) : mn L = f j := by
  refine mn_eq (h.mem_iff.mp (ab_in hj)) (fun y hy => ?_)
  obtain ⟨k, h1, h2⟩ := ab_of (h.mem_iff.mpr hy)
  rw [← h2]
  exact hm k h1
theorem hol_add {f : Nat → Int64} {z : Nat} {L : List Int64} {x : Int64} (h : hol f z L) : hol (vp_updL f z x) (z + 1) (x :: L) := by
  unfold hol
  rw [ab_succ, up_s, ab_congr (f := vp_updL f z x) (g := f) (fun j hj => up_n f x (Nat.ne_of_lt hj))]
  exact (pm_end x _).trans (h.cons x)
theorem hol_congr {f g : Nat → Int64} {z : Nat} {L : List Int64} (h : hol f z L) (e : ∀ j, j < z → g j = f j) : hol g z L := by
  unfold hol
  rw [ab_congr e]
  exact h
/-- the j-th is taken out, the last one put in its place -/
theorem hol_out {f : Nat → Int64} {z j : Nat} {L : List Int64} (h : hol f (z + 1) L) (hj : j < z + 1) : hol (vp_updL f j (f z)) z (L.erase (f j)) := by
  unfold hol at h ⊢
  have h1 : (f j :: ab (vp_updL f j (f z)) z).Perm (ab f (z + 1)) := by
    by_cases e : j = z
    · subst e
      rw [up_self, ab_succ]
      exact (pm_end _ _).symm
    · have h2 := ab_upd f j (f z) z (by omega)
      rw [ab_succ]
      exact h2.trans (pm_end _ _).symm
  have h2 := (h1.trans h).erase (f j)
  rw [List.erase_cons_head] at h2
  exact h2
/-- the made values -/
def mkv (a b : Int32) : Nat → Int64
  | 0 => a.toInt64
  | k + 1 => mkv a b k * 6364136223846793005 + b.toInt64
/-- the two halves, joined: as the desk joins them -/
def wd (a b : Int32) : Int64 := (a.toInt64 <<< ((32 : Int32).toInt64 &&& 63)) ||| (b.toInt64 &&& 4294967295)
def un (b : Int32) : Nat := b.toBitVec.toNat
/-- as the model joins them, bit by bit: j bits are still to come -/
def wv (a b : Int32) (j : Nat) : Int64 := a.toInt64 * lN (2 ^ (32 - j)) + lN (un b / 2 ^ j)
theorem un_lt (b : Int32) : un b < 2 ^ 32 := b.toBitVec.isLt
theorem wv_32 (a b : Int32) : wv a b 32 = a.toInt64 := by
  unfold wv
  rw [Nat.div_eq_of_lt (un_lt b)]
  show a.toInt64 * lN 1 + lN 0 = _
  show a.toInt64 * 1 + 0 = _
  rw [Int64.mul_one, Int64.add_zero]
theorem bt_un (b : Int32) (j : Nat) : bt b j = (un b).testBit j := by
  unfold bt un
  rw [BitVec.getLsbD]
theorem bit_un (b : Int32) {k : Nat} (hk : k < 32) : ((b >>> (nI k &&& 31)) &&& 1) = nI (un b / 2 ^ k % 2) := by
  have e1 : un b / 2 ^ k % 2 = (un b >>> k) % 2 := by rw [Nat.shiftRight_eq_div_pow]
  have e2 : bt b k = decide ((un b >>> k) % 2 = 1) := by
    rw [bt_un, Nat.testBit_eq_decide_div_mod_eq, Nat.shiftRight_eq_div_pow]
  have h1 : ∀ i, i < 32 → bt 1 i = decide (i = 0) := by decide +kernel
  have key : ((b >>> (nI k &&& 31)) &&& 1) = if bt b k then 1 else 0 := by
    apply b_ext
    intro i hi
    rw [b_and, b_sshr k hk b hi, h1 i hi]
    by_cases h0 : i = 0
    · subst h0
      cases hb : bt b k
      · simp [hk, hb, b_0]
      · simp [hk, hb]; decide
    · cases hb : bt b k
      · simp [h0, b_0]
      · simp [h0, h1 i hi]
  rw [key, e1, e2]
  rcases Nat.mod_two_eq_zero_or_one (un b >>> k) with h | h
  · rw [h]; rfl
  · rw [h]; rfl
theorem nI_l1 {n : Nat} (h : n < 2) : (nI n).toInt64 = lN n := nI_l (by omega)
theorem wv_step (a b : Int32) {j : Nat} (hj : j < 32) : 2 * wv a b (j + 1) + ((b >>> (nI j &&& 31)) &&& 1).toInt64 = wv a b j := by
  rw [bit_un b hj, nI_l1 (Nat.mod_lt _ (by decide))]
  unfold wv
  have e1 : un b / 2 ^ j = 2 * (un b / 2 ^ (j + 1)) + un b / 2 ^ j % 2 := by
    rw [Nat.pow_succ, ← Nat.div_div_eq_div_mul]
    omega
  have e2 : 2 ^ (32 - j) = 2 * 2 ^ (32 - (j + 1)) := by
    rw [show 32 - j = (32 - (j + 1)) + 1 by omega, Nat.pow_succ, Nat.mul_comm]
  generalize hq : un b / 2 ^ j % 2 = q at e1
  rw [e1, e2, ← lN_add, ← lN_mul, ← lN_mul]
  generalize lN (2 ^ (32 - (j + 1))) = P
  generalize lN (un b / 2 ^ (j + 1)) = U
  have e3 : lN 2 = 2 := rfl
  rw [e3]
  generalize lN q = V
  grind
theorem un_mod (b : Int32) : uN b.toInt64 % 4294967296 = un b := by
  have h1 : b.toInt64.toInt = b.toInt := Int32.toInt_toInt64 b
  rw [uN_int] at h1
  have h2 : b.toInt = if 2 * un b < 4294967296 then (un b : Int) else (un b : Int) - 4294967296 := BitVec.toInt_eq_toNat_cond _
  have h3 := un_lt b
  have h4 := uN_lt b.toInt64
  rw [h2] at h1
  split at h1 <;> split at h1 <;> omega
theorem wv_0 (a b : Int32) : wv a b 0 = wd a b := by
  unfold wv wd
  obtain ⟨n, hn, ha⟩ := wb_of a.toInt64
  have h1 : (b.toInt64 &&& 4294967295) = lN (un b) := by
    apply uN_inj
    rw [uN_lo, un_mod]
    exact (u_tn (Nat.lt_trans (un_lt b) (by decide))).symm
  rw [h1, ha]
  have h2 : lN n <<< ((32 : Int32).toInt64 &&& 63) = lN (n * 2 ^ 32) := wb_shl n (k := 32) (by decide)
  have h3 : lN (n * 2 ^ 32) = lN ((n % 2 ^ 32) * 2 ^ 32) := by
    rw [wb_mod (n * 2 ^ 32), wb_mod ((n % 2 ^ 32) * 2 ^ 32)]
    exact congrArg lN (by omega)
  rw [h2, h3, g_or (k := 32) rfl (un_lt b) (by have := un_lt b; omega), ← lN_add, ← h3, ← lN_mul]
  show lN n * lN (2 ^ 32) + lN (un b / 1) = _
  rw [Nat.div_one]
end
section
/-! THE WORLDS: a row of longs (la), the three classes (vwCl), a contract's start (cP, with the empty row beside it: cE) and end (cB); rows on arrays by numbers; calls' starts -/
abbrev vwCl : List vw_C := [(RX0, TX0, 1), (RX1, TX1, 3), (RX3, TX3, 2)]
abbrev la (dJ : ClassId) (n : Nat) (f : Nat → Int64) : va_E := .inl (dJ, n, .inr (.inl f))
def cP (D : va_G) (dJ : ClassId) (sz : Nat) (ws : va_W) (U : State) : Prop := U.heap.size = sz ∧ va_P D vwCl ws U.heap ∧ va_K D vwCl [(dJ, .long)] U ∧ va_D (fun _ => True) ws
abbrev cB (D : va_G) (A : Nat → Prop) (w : va_W) (t : State) : Prop := va_P D vwCl w t.heap ∧ va_D A w
theorem cP_bl {D : va_G} {dJ : ClassId} {sz : Nat} {ws : va_W} {av : List Value} : FrameBlind (va_Pc av (cP D dJ sz ws)) := fun a U g mk q => by
  obtain ⟨q0, q1, qP, qK, qD⟩ := q
  exact ⟨q0, q1, qP, va_K.moved (u := U) (U := U.calling g mk a) (Vm.Alike.refl U.vm) qK, qD⟩
theorem cP_at {D : va_G} {dJ : ClassId} {ws : va_W} {A : Nat → Prop} {s : State} {H : Heap} (hK : va_K D vwCl [(dJ, .long)] s) (hP : va_P D vwCl ws H) (hD : va_D A ws) : ∀ U : State, U.heap = H → s.WarmedH U.vm → cP D dJ H.size ws U := fun U hU hW => ⟨by rw [hU], by rw [hU]; exact hP, va_K.moved hW.alike hK, hD.weaken (fun _ _ _ _ => trivial)⟩
theorem cP_S {D : va_G} {dJ : ClassId} {ws : va_W} {A : Nat → Prop} {s : State} {H : Heap} {As : List Value} (hK : va_K D vwCl [(dJ, .long)] s) (hP : va_P D vwCl ws H) (hD : va_D A ws) : PreS s H (va_Pc As (cP D dJ H.size ws)) As := ⟨cP_bl, fun U hU hW => ⟨rfl, cP_at hK hP hD U hU hW⟩⟩
theorem cP_V {D : va_G} {dJ : ClassId} {ws : va_W} {A : Nat → Prop} {s : State} {H : Heap} {As : List Value} {b ci q0 : Nat} {q : vw_C} {fs : List Value} (hK : va_K D vwCl [(dJ, .long)] s) (hP : va_P D vwCl ws H) (hD : va_D A ws) (hc : vwCl[ci]? = some q) (he : ws[q0]? = some (b, .inr (ci, fs))) : PreV s H q.1 b (va_Pc (.ref b :: As) (cP D dJ H.size ws)) As := ⟨cP_bl, va_recv hK hP hc he, fun U hU hW => ⟨rfl, cP_at hK hP hD U hU hW⟩⟩
/-- the static empty row, at e0, that nobody writes -/
def eZ (e0 : Nat) (A : Nat → Prop) (U : State) (H : Heap) : Prop := va_Z "LongArrays" "EMPTY_ARRAY" "[J" (.ref e0) A U H ∧ va_T .long e0 0 (fun _ => .null) A U H
theorem eZ.moved {e0 : Nat} {A : Nat → Prop} {u U : State} {H : Heap} (hvm : u.vm.Alike U.vm) (h : eZ e0 A u H) : eZ e0 A U H := ⟨va_Z.moved hvm h.1, va_T.moved hvm h.2⟩
theorem eZ.kept {e0 : Nat} {A : Nat → Prop} {U : State} {H H1 : Heap} (h : eZ e0 A U H) (hq : ∀ a : Nat, a < H.size → ¬ A a → H1[a]? = H[a]?) : eZ e0 A U H1 := ⟨va_Z.kept h.1 hq, va_T.kept h.2 hq⟩
theorem eZ.narrow {e0 : Nat} {A B : Nat → Prop} {U : State} {H : Heap} (h : eZ e0 A U H) (hAB : ∀ q, B q → A q) : eZ e0 B U H := ⟨va_Z.narrow h.1 hAB, va_T.narrow h.2 hAB⟩
def cE (D : va_G) (dJ : ClassId) (e0 sz : Nat) (ws : va_W) (U : State) : Prop := cP D dJ sz ws U ∧ eZ e0 (va_A ws sz) U U.heap
theorem cE_bl {D : va_G} {dJ : ClassId} {e0 sz : Nat} {ws : va_W} {av : List Value} : FrameBlind (va_Pc av (cE D dJ e0 sz ws)) := fun a U g mk q => by
  obtain ⟨q0, ⟨q1, qP, qK, qD⟩, qE⟩ := q
  exact ⟨q0, ⟨q1, qP, va_K.moved (u := U) (U := U.calling g mk a) (Vm.Alike.refl U.vm) qK, qD⟩, eZ.moved (u := U) (U := U.calling g mk a) (Vm.Alike.refl U.vm) qE⟩
theorem cE_at {D : va_G} {dJ : ClassId} {e0 : Nat} {ws : va_W} {A : Nat → Prop} {s : State} {H : Heap} {locs : List Loc} (hK : va_K D vwCl [(dJ, .long)] s) (hP : va_P D vwCl ws H) (hD : va_D A ws) (hE : eZ e0 A s s.heap) (hS : va_S A s.heap H locs) (hF : ∀ q, va_A ws H.size q → A q) : ∀ U : State, U.heap = H → s.WarmedH U.vm → cE D dJ e0 H.size ws U := fun U hU hW => ⟨cP_at hK hP hD U hU hW, by rw [hU]; exact ((hE.kept hS.2.1).narrow hF).moved hW.alike⟩
theorem cE_S {D : va_G} {dJ : ClassId} {e0 : Nat} {ws : va_W} {A : Nat → Prop} {s : State} {H : Heap} {locs : List Loc} {As : List Value} (hK : va_K D vwCl [(dJ, .long)] s) (hP : va_P D vwCl ws H) (hD : va_D A ws) (hE : eZ e0 A s s.heap) (hS : va_S A s.heap H locs) (hF : ∀ q, va_A ws H.size q → A q) : PreS s H (va_Pc As (cE D dJ e0 H.size ws)) As := ⟨cE_bl, fun U hU hW => ⟨rfl, cE_at hK hP hD hE hS hF U hU hW⟩⟩
theorem cE_V {D : va_G} {dJ : ClassId} {e0 : Nat} {ws : va_W} {A : Nat → Prop} {s : State} {H : Heap} {locs : List Loc} {As : List Value} {b ci q0 : Nat} {q : vw_C} {fs : List Value} (hK : va_K D vwCl [(dJ, .long)] s) (hP : va_P D vwCl ws H) (hD : va_D A ws) (hE : eZ e0 A s s.heap) (hS : va_S A s.heap H locs) (hF : ∀ q, va_A ws H.size q → A q) (hc : vwCl[ci]? = some q) (he : ws[q0]? = some (b, .inr (ci, fs))) : PreV s H q.1 b (va_Pc (.ref b :: As) (cE D dJ e0 H.size ws)) As := ⟨cE_bl, va_recv hK hP hc he, fun U hU hW => ⟨rfl, cE_at hK hP hD hE hS hF U hU hW⟩⟩
theorem la_same {D : va_G} {dJ cA : ClassId} {s : State} (h : va_K D vwCl ([(dJ, .long)] ++ [(cA, .long)]) s) : cA = dJ := by
  have h1 := (h.2 0 _ rfl).2
  have h2 := (h.2 1 _ rfl).2
  exact Option.some.inj ((show s.vm.findClass _ = some cA from h2).symm.trans h1)
theorem ws_same {ws : va_W} {k : Nat} {q : Nat × va_E} (h : ws[k]? = some q) : ws.set k q = ws := by
  apply List.ext_getElem?
  intro j
  by_cases hj : j = k
  · subst hj
    rw [List.getElem?_set_self (List.getElem?_eq_some_iff.mp h).1, h]
  · rw [List.getElem?_set_ne (Ne.symm hj)]
theorem nI_0e {a : Nat} (h : a < 2 ^ 31) : nI a = 0 ↔ a = 0 := by
  rw [← nI_0]
  exact nI_eq h (by decide)
theorem nI_m1 {a : Nat} (h : 1 ≤ a) : nI a - 1 = nI (a - 1) := pk_sub (a := a) (b := 1) h
theorem q_Pl {D : va_G} {cl : List vw_C} {x y : va_W} {H : Heap} (h : va_P D cl (x ++ y) H) : va_P D cl x H := fun k q hk => h k q (by rw [List.getElem?_append_left (List.getElem?_eq_some_iff.mp hk).1]; exact hk)
theorem q_Dl {A : Nat → Prop} {x y : va_W} (h : va_D A (x ++ y)) : va_D A x := by
  refine h.by id (fun k q hk => ?_) (fun i j _ _ e => e)
  show (x ++ y)[k]? = some q
  rw [List.getElem?_append_left (List.getElem?_eq_some_iff.mp hk).1]
  exact hk
theorem q_Al {x y : va_W} {sz q : Nat} (h : va_A x sz q) : va_A (x ++ y) sz q := by
  rcases h with ⟨k, e, h⟩ | h
  · exact Or.inl ⟨k, e, by rw [List.getElem?_append_left (List.getElem?_eq_some_iff.mp h).1]; exact h⟩
  · exact Or.inr h
theorem q_Pr {D : va_G} {cl : List vw_C} {x y : va_W} {H : Heap} (h : va_P D cl (x ++ y) H) : va_P D cl y H := h.by (fun k => x.length + k) (fun k q hk => by rw [List.getElem?_append_right (Nat.le_add_right _ _), Nat.add_sub_cancel_left]; exact hk)
theorem q_Dr {A : Nat → Prop} {x y : va_W} (h : va_D A (x ++ y)) : va_D A y := h.by (fun k => x.length + k) (fun k q hk => by rw [List.getElem?_append_right (Nat.le_add_right _ _), Nat.add_sub_cancel_left]; exact hk) (fun i j _ _ e => Nat.add_left_cancel e)
theorem at_end {x : va_W} {y : Nat × va_E} : (x ++ [y])[x.length]? = some y := by
  rw [List.getElem?_append_right (Nat.le_refl _), Nat.sub_self]
  rfl
theorem set_end {x : va_W} {y z : Nat × va_E} : (x ++ [y]).set x.length z = x ++ [z] := by
  rw [List.set_append_right _ _ (Nat.le_refl _), Nat.sub_self]
  rfl
/-- the queue's row: the static empty one, or its own -/
def okq (e0 a n : Nat) (LP : List Nat) : Prop := (LP = [] ∧ a = e0 ∧ n = 0) ∨ LP = [a]
theorem okq_own {e0 a n : Nat} {LP : List Nat} (h : okq e0 a n LP) (hn : 0 < n) : LP = [a] := by
  rcases h with ⟨-, -, h⟩ | h
  · exact absurd hn (by omega)
  · exact h
theorem q_max {a b : Nat} (ha : a < 2 ^ 31) (hb : b < 2 ^ 31) : ∃ N : Nat, (if lN b < lN a then lN a else lN b) = lN N ∧ b ≤ N ∧ (N = a ∨ N = b) := by
  by_cases h : b < a
  · exact ⟨a, if_pos ((lN_lt hb ha).mpr h), by omega, Or.inl rfl⟩
  · exact ⟨b, if_neg (fun q => h ((lN_lt hb ha).mp q)), Nat.le_refl b, Or.inr rfl⟩
theorem q_min {a : Nat} (ha : a < 1000000) : (if (2147483639 : Int64) < lN a then (2147483639 : Int64) else lN a) = lN a :=
  if_neg (fun h => absurd ((lN_lt (a := 2147483639) (by decide) (by omega)).mp h) (by omega))
section QB
variable {p : Program} {l : Launch} {e : Env} {R : Room} {s : State} {m : MethodId} {args : Array Value} {below : List Frame} {meth : Method} {c : Code} {H : Heap} {locs : List Loc} {cells slots : Nat} {Q : State → Prop}
variable {cc : ByteArray} {pc : Nat} {ls : Array Slot} {rest : List Value} {D : va_G} {dJ : ClassId} {A : Nat → Prop} {a : Nat} {ws : va_W} {H0 : Heap}
theorem q_lald (hexec : p.tables.exec = Jvm.exec) (hb : c.code = cc) (hK : va_K D vwCl [(dJ, .long)] s) (hP : va_P D vwCl ws H) (q0 : Nat) {n i : Nat} {f : Nat → Int64} (ha : ws[q0]? = some (a, la dJ n f)) (hi : i < n) (hn : n < 2 ^ 31) (hdg : decode cc pc = .ok (.laload, 1))
    (kk : W p l e R s m args below meth c H locs cells slots Q (F0 m (pc + 1) ls (.long (f i) :: rest))) : W p l e R s m args below meth c H locs cells slots Q (F0 m pc ls (.int (nI i) :: .ref a :: rest)) := by
  refine va_lald hexec hb hK hP q0 0 ha rfl (vp_in_nI hi hn) hdg ?_
  rw [nI_clamp (Nat.lt_trans hi hn)]
  exact kk
theorem q_last (hexec : p.tables.exec = Jvm.exec) (hb : c.code = cc) (hK : va_K D vwCl [(dJ, .long)] s) (hP : va_P D vwCl ws H) (hD : va_D A ws) (hS : va_S A H0 H locs) (q0 : Nat) {n i : Nat} {f : Nat → Int64} {x : Int64} (ha : ws[q0]? = some (a, la dJ n f)) (hi : i < n) (hn : n < 2 ^ 31) (hdg : decode cc pc = .ok (.lastore, 1))
    (kk : ∀ (H1 : Heap) (locs1 : List Loc), va_P D vwCl (ws.set q0 (a, la dJ n (vp_updL f i x))) H1 → va_D A (ws.set q0 (a, la dJ n (vp_updL f i x))) → va_S A H0 H1 locs1 → W p l e R s m args below meth c H1 locs1 cells slots Q (F0 m (pc + 1) ls rest)) : W p l e R s m args below meth c H locs cells slots Q (F0 m pc ls (.long x :: .int (nI i) :: .ref a :: rest)) := by
  refine va_last hexec hb hK hP hD hS q0 0 ha rfl (vp_in_nI hi hn) hdg (fun H1 locs1 hP1 hD1 hS1 => ?_)
  rw [nI_clamp (Nat.lt_trans hi hn)] at hP1 hD1
  exact kk H1 locs1 hP1 hD1 hS1
theorem q_newa (hexec : p.tables.exec = Jvm.exec) (hb : c.code = cc) (harr : (Cond.arrayClass .long).before args s = true) (hK : va_K D vwCl [(dJ, .long)] s) (hP : va_P D vwCl ws H) (hD : va_D A ws) (hS : va_S A H0 H locs) (hA : ∀ q, H0.size ≤ q → A q) {N : Nat} (hN : N < 2 ^ 20) (hcells : cells + 1 ≤ R.cells) (hslots : slots + N ≤ R.slots) (hdg : decode cc pc = .ok (.newarray .long, 2))
    (kk : ∀ (q : Nat) (H1 : Heap), va_P D vwCl (ws ++ [(q, la dJ N (fun _ => 0))]) H1 → va_D A (ws ++ [(q, la dJ N (fun _ => 0))]) → va_S A H0 H1 locs → W p l e R s m args below meth c H1 locs (cells + 1) (slots + N) Q (F0 m (pc + 2) ls (.ref q :: rest))) : W p l e R s m args below meth c H locs cells slots Q (F0 m pc ls (.int (nI N) :: rest)) := by
  refine va_newa (atype := .long) (ty := .long) (a0 := (N, .inr (.inl fun _ => 0))) hexec hb harr rfl hK hP hD hS hA (fun _ => rfl) (nI_pos (by omega)) (nI_clamp (by omega)) (by show N * 8 ≤ _; omega) hcells hslots hdg (fun q cA H1 hK1 hP1 hD1 hS1 => ?_)
  have h := la_same hK1
  subst h
  exact kk q H1 hP1 hD1 hS1
/-- a copy of no place: nothing changes -/
theorem q_copy0 (hexec : p.tables.exec = Jvm.exec) (hb : c.code = cc) (hml : c.maxLocals = ls.size) {own : String} {index : Nat} (hown : s.vm.findClass own = some m.cls) (hlink : (Cond.methodLink own index arraycopyName).before args s = true) (hnat : (Cond.native arraycopyName).before args s = true) (hstat : (Cond.static arraycopyName).before args s = true) (hini : (Cond.initialized "java/lang/System").before args s = true)
    {a0 a1 : Nat} {cs cd : Cell} (hs : H[a0]? = some cs) (hd : H[a1]? = some cd) (his : s.isArrayOf cs .long) (hid : s.isArrayOf cd .long) (hks : cs.vm ≠ .unknown) (hkd : cd.vm ≠ .unknown)
    (hframes : 1 ≤ R.frames) (hlocals : (rest.map fun v => v.category).sum + (nativeFrameWords "java/lang/System" "arraycopy" 5 + 11) ≤ R.locals) (hdg : decode cc pc = .ok (.invokestatic index, 3))
    (kk : W p l e R s m args below meth c H locs cells slots Q (F0 m (pc + 3) ls rest)) : W p l e R s m args below meth c H locs cells slots Q (F0 m pc ls (.int 0 :: .int 0 :: .ref a1 :: .int 0 :: .ref a0 :: rest)) := by
  intro T hT X
  obtain ⟨s1, ks, hks1, cms, hkks⟩ := his
  obtain ⟨d1, kd, hkd1, cmd, hkkd⟩ := hid
  obtain ⟨vm', X', step⟩ := X.arraycopy hexec hown hlink hnat hstat hini (src := a0) (dst := a1) (cs := cs) (cd := cd) (srcPos := 0) (destPos := 0) (n := 0) (by rw [hT]; exact hs) (by rw [hT]; exact hd)
    s1 d1 hks hkd hks1 hkd1 hkks hkkd (by simp [refKind]) (by decide) (by decide) (by decide)
    (by show ¬ ((0 : Int) + 0 > (cs.slots.size : Int)); omega) (by show ¬ ((0 : Int) + 0 > (cd.slots.size : Int)); omega)
    (fun _ _ i hi => absurd hi (Nat.not_lt_zero i))
    (g := F0 m pc ls (.int 0 :: .int 0 :: .ref a1 :: .int 0 :: .ref a0 :: rest)) rfl (by rw [hml]) (rest := rest) rfl (by rw [hb]; exact hdg) hframes (by show 2 * 0 + _ + _ ≤ _; omega)
  have e1 : copied cs cd 0 0 0 = cd := rfl
  have e2 : (T.setVm vm').setCell a1 cd = T.setVm vm' := State.setCell_held (by show T.heap[a1]? = some cd; rw [hT]; exact hd)
  rw [e1, e2] at X' step
  have e3 : ∀ L : List Loc, L = [] → Stand p l e R s m args below meth c (T.setVm vm') (locs ++ L) cells slots → Stand p l e R s m args below meth c (T.setVm vm') locs cells slots := by
    intro L hL h
    rw [hL, List.append_nil] at h
    exact h
  obtain ⟨t, b1, b2⟩ := kk (T.setVm vm') hT (e3 _ rfl X')
  exact ⟨t, step t b1, b2⟩
/-- a row of n longs: the static empty one, or one of the world's -/
def qrow (dJ : ClassId) (e0 : Nat) (ws : va_W) (a n : Nat) (f : Nat → Int64) : Prop := (a = e0 ∧ n = 0) ∨ ∃ k : Nat, ws[k]? = some (a, la dJ n f)
theorem qrow_app {dJ : ClassId} {e0 a n : Nat} {ws y : va_W} {f : Nat → Int64} (h : qrow dJ e0 ws a n f) : qrow dJ e0 (ws ++ y) a n f := by
  rcases h with h | ⟨k, hk⟩
  · exact Or.inl h
  · exact Or.inr ⟨k, by rw [List.getElem?_append_left (List.getElem?_eq_some_iff.mp hk).1]; exact hk⟩
theorem okq_row {dJ : ClassId} {e0 a n : Nat} {LP : List Nat} {f : Nat → Int64} (X : va_W) (h : okq e0 a n LP) : qrow dJ e0 (X ++ va_pl LP (fun _ => la dJ n f)) a n f := by
  rcases h with ⟨-, h1, h2⟩ | rfl
  · exact Or.inl ⟨h1, h2⟩
  · exact Or.inr (va_pl_get (X := X) (L := [a]) (f := fun _ => la dJ n f) (List.mem_singleton.mpr rfl))
theorem q_cell {e0 n : Nat} {f : Nat → Int64} (hK : va_K D vwCl [(dJ, .long)] s) (hP : va_P D vwCl ws H) (hE : eZ e0 A s s.heap) (hS : va_S A s.heap H locs) (hq : qrow dJ e0 ws a n f) : ∃ cell : Cell, H[a]? = some cell ∧ s.isArrayOf cell .long ∧ cell.vm ≠ .unknown := by
  rcases hq with ⟨rfl, -⟩ | ⟨k, hk⟩
  · obtain ⟨cell, h1, h2, h3, -, -, -, h7⟩ := hE.2
    exact ⟨cell, by rw [hS.2.1 _ (Array.getElem?_eq_some_iff.mp h1).1 h7]; exact h1, h2, h3⟩
  · exact ⟨_, hP k _ hk, (hK.2 0 _ rfl).1 n (fun j => .long (f j)), fun h => by cases h⟩
theorem q_alen {e0 n : Nat} {f : Nat → Int64} (hexec : p.tables.exec = Jvm.exec) (hb : c.code = cc) (hK : va_K D vwCl [(dJ, .long)] s) (hP : va_P D vwCl ws H) (hE : eZ e0 A s s.heap) (hS : va_S A s.heap H locs) (hq : qrow dJ e0 ws a n f) (hdg : decode cc pc = .ok (.arraylength, 1))
    (kk : W p l e R s m args below meth c H locs cells slots Q (F0 m (pc + 1) ls (.int (nI n) :: rest))) : W p l e R s m args below meth c H locs cells slots Q (F0 m pc ls (.ref a :: rest)) := by
  rcases hq with ⟨rfl, rfl⟩ | ⟨k, hk⟩
  · exact va_tlen hexec hb hE.2 hS rfl hdg kk
  · exact va_alen (v := nI n) hexec hb hK hP k 0 hk rfl rfl hdg kk
/-- the first k places, from a row that may be the empty one, to a row of the world's -/
theorem q_copy {e0 n k : Nat} {f : Nat → Int64} (hexec : p.tables.exec = Jvm.exec) (hb : c.code = cc) (hml : c.maxLocals = ls.size) {own : String} {index : Nat} (hown : s.vm.findClass own = some m.cls) (hlink : (Cond.methodLink own index arraycopyName).before args s = true) (hnat : (Cond.native arraycopyName).before args s = true) (hstat : (Cond.static arraycopyName).before args s = true) (hini : (Cond.initialized "java/lang/System").before args s = true)
    (hK : va_K D vwCl [(dJ, .long)] s) (hP : va_P D vwCl ws H) (hD : va_D A ws) (hE : eZ e0 A s s.heap) (hS : va_S A s.heap H locs) (hq : qrow dJ e0 ws a n f) (q1 : Nat) {a1 n1 : Nat} {g : Nat → Int64} (ha1 : ws[q1]? = some (a1, la dJ n1 g)) (hk : k ≤ n) (hk1 : k ≤ n1) (hn : n < 2 ^ 31)
    (hframes : 1 ≤ R.frames) (hlocals : (rest.map fun v => v.category).sum + (nativeFrameWords "java/lang/System" "arraycopy" 5 + 11) ≤ R.locals) (hdg : decode cc pc = .ok (.invokestatic index, 3))
    (kk : ∀ (H1 : Heap) (locs1 : List Loc) (g1 : Nat → Int64), (∀ j, j < k → g1 j = f j) → va_P D vwCl (ws.set q1 (a1, la dJ n1 g1)) H1 → va_D A (ws.set q1 (a1, la dJ n1 g1)) → va_S A s.heap H1 locs1 → W p l e R s m args below meth c H1 locs1 cells slots Q (F0 m (pc + 3) ls rest)) : W p l e R s m args below meth c H locs cells slots Q (F0 m pc ls (.int (nI k) :: .int 0 :: .ref a1 :: .int 0 :: .ref a :: rest)) := by
  have hq0 := hq
  rcases hq with ⟨rfl, rfl⟩ | ⟨k0, hk0⟩
  · have h0 : k = 0 := by omega
    subst h0
    obtain ⟨cell, h1, h2, h3⟩ := q_cell hK hP hE hS hq0
    have hc : H[a1]? = some (vp_cell dJ (n1, .inr (.inl g))) := hP q1 _ ha1
    refine q_copy0 hexec hb hml hown hlink hnat hstat hini h1 hc h2 ((hK.2 0 _ rfl).1 n1 (fun j => .long (g j))) h3 (fun h => by cases h) hframes hlocals hdg ?_
    refine kk H locs g (fun j hj => absurd hj (Nat.not_lt_zero j)) ?_ ?_ hS
    · rw [ws_same ha1]; exact hP
    · rw [ws_same ha1]; exact hD
  · have ek : (nI k).toNatClampNeg = k := nI_clamp (by omega)
    have e0 : (0 : Int32).toNatClampNeg = 0 := rfl
    refine va_copyl hexec hb hml hown hlink hnat hstat hini hK hP hD hS k0 q1 0 0 hk0 ha1 rfl rfl rfl (sp := 0) (dp := 0) (n := nI k) (by decide) (by decide) (nI_pos (by omega)) (by rw [ek, e0]; omega) (by rw [ek, e0]; omega) (fun _ _ => rfl) hframes hlocals hdg (fun H1 locs1 hP1 hD1 hS1 => ?_)
    refine kk H1 locs1 _ (fun j hj => ?_) hP1 hD1 hS1
    rw [ek, e0, pk_cpy_in (Nat.zero_le j) (by omega)]
    congr 1
    omega
theorem q_icge (hexec : p.tables.exec = Jvm.exec) (hb : c.code = cc) {x y : Nat} (hx : x < 2 ^ 31) (hy : y < 2 ^ 31) {off : Int} {tgt : Nat} (hdg : decode cc pc = .ok (.if_icmp .ge off, 3)) (ht : (pc : Int) + off = (tgt : Int))
    (kt : y ≤ x → W p l e R s m args below meth c H locs cells slots Q (F0 m tgt ls rest)) (kf : x < y → W p l e R s m args below meth c H locs cells slots Q (F0 m (pc + 3) ls rest)) : W p l e R s m args below meth c H locs cells slots Q (F0 m pc ls (.int (nI y) :: .int (nI x) :: rest)) :=
  lv_icmp_ge hexec hb hdg ht (fun h => kt ((nI_leI hy hx).mp h)) (fun h => kf (Nat.lt_of_not_le fun q => h ((nI_leI hy hx).mpr q)))
theorem q_iclt (hexec : p.tables.exec = Jvm.exec) (hb : c.code = cc) {x y : Nat} (hx : x < 2 ^ 31) (hy : y < 2 ^ 31) {off : Int} {tgt : Nat} (hdg : decode cc pc = .ok (.if_icmp .lt off, 3)) (ht : (pc : Int) + off = (tgt : Int))
    (kt : x < y → W p l e R s m args below meth c H locs cells slots Q (F0 m tgt ls rest)) (kf : y ≤ x → W p l e R s m args below meth c H locs cells slots Q (F0 m (pc + 3) ls rest)) : W p l e R s m args below meth c H locs cells slots Q (F0 m pc ls (.int (nI y) :: .int (nI x) :: rest)) :=
  lv_icmp_lt hexec hb hdg ht (fun h => kt ((nI_ltI hx hy).mp h)) (fun h => kf (Nat.le_of_not_lt fun q => h ((nI_ltI hx hy).mpr q)))
theorem q_icle (hexec : p.tables.exec = Jvm.exec) (hb : c.code = cc) {x y : Nat} (hx : x < 2 ^ 31) (hy : y < 2 ^ 31) {off : Int} {tgt : Nat} (hdg : decode cc pc = .ok (.if_icmp .le off, 3)) (ht : (pc : Int) + off = (tgt : Int))
    (kt : x ≤ y → W p l e R s m args below meth c H locs cells slots Q (F0 m tgt ls rest)) (kf : y < x → W p l e R s m args below meth c H locs cells slots Q (F0 m (pc + 3) ls rest)) : W p l e R s m args below meth c H locs cells slots Q (F0 m pc ls (.int (nI y) :: .int (nI x) :: rest)) :=
  lv_icmp_le hexec hb hdg ht (fun h => kt ((nI_leI hx hy).mp h)) (fun h => kf (Nat.lt_of_not_le fun q => h ((nI_leI hx hy).mpr q)))
theorem q_icne (hexec : p.tables.exec = Jvm.exec) (hb : c.code = cc) {x y : Nat} (hx : x < 2 ^ 31) (hy : y < 2 ^ 31) {off : Int} {tgt : Nat} (hdg : decode cc pc = .ok (.if_icmp .ne off, 3)) (ht : (pc : Int) + off = (tgt : Int))
    (kt : x ≠ y → W p l e R s m args below meth c H locs cells slots Q (F0 m tgt ls rest)) (kf : x = y → W p l e R s m args below meth c H locs cells slots Q (F0 m (pc + 3) ls rest)) : W p l e R s m args below meth c H locs cells slots Q (F0 m pc ls (.int (nI y) :: .int (nI x) :: rest)) :=
  lv_icmp_ne hexec hb hdg ht (fun h => kt (fun q => h (by rw [q]))) (fun h => kf ((nI_eq hx hy).mp h))
theorem q_ifne (hexec : p.tables.exec = Jvm.exec) (hb : c.code = cc) {x : Nat} (hx : x < 2 ^ 31) {off : Int} {tgt : Nat} (hdg : decode cc pc = .ok (.ifCond .ne off, 3)) (ht : (pc : Int) + off = (tgt : Int))
    (kt : 0 < x → W p l e R s m args below meth c H locs cells slots Q (F0 m tgt ls rest)) (kf : x = 0 → W p l e R s m args below meth c H locs cells slots Q (F0 m (pc + 3) ls rest)) : W p l e R s m args below meth c H locs cells slots Q (F0 m pc ls (.int (nI x) :: rest)) :=
  lv_if_ne hexec hb hdg ht (fun h => kt (Nat.pos_of_ne_zero fun q => h ((nI_0e hx).mpr q))) (fun h => kf ((nI_0e hx).mp h))
theorem q_ifeq (hexec : p.tables.exec = Jvm.exec) (hb : c.code = cc) {x : Nat} (hx : x < 2 ^ 31) {off : Int} {tgt : Nat} (hdg : decode cc pc = .ok (.ifCond .eq off, 3)) (ht : (pc : Int) + off = (tgt : Int))
    (kt : x = 0 → W p l e R s m args below meth c H locs cells slots Q (F0 m tgt ls rest)) (kf : 0 < x → W p l e R s m args below meth c H locs cells slots Q (F0 m (pc + 3) ls rest)) : W p l e R s m args below meth c H locs cells slots Q (F0 m pc ls (.int (nI x) :: rest)) :=
  lv_if_eq hexec hb hdg ht (fun h => kt ((nI_0e hx).mp h)) (fun h => kf (Nat.pos_of_ne_zero fun q => h ((nI_0e hx).mpr q)))
theorem q_ifle (hexec : p.tables.exec = Jvm.exec) (hb : c.code = cc) {x : Nat} (hx : x < 2 ^ 31) {off : Int} {tgt : Nat} (hdg : decode cc pc = .ok (.ifCond .le off, 3)) (ht : (pc : Int) + off = (tgt : Int))
    (kt : x = 0 → W p l e R s m args below meth c H locs cells slots Q (F0 m tgt ls rest)) (kf : 0 < x → W p l e R s m args below meth c H locs cells slots Q (F0 m (pc + 3) ls rest)) : W p l e R s m args below meth c H locs cells slots Q (F0 m pc ls (.int (nI x) :: rest)) :=
  lv_if_le hexec hb hdg ht (fun h => kt (Classical.byContradiction fun q => nI_nle (Nat.pos_of_ne_zero q) hx h)) (fun h => kf (Nat.pos_of_ne_zero fun q => h (by rw [q, nI_0]; exact Int32.le_refl 0)))
/-- two longs compared -/
theorem q_lge (hexec : p.tables.exec = Jvm.exec) (hb : c.code = cc) {x y : Int64} {off : Int} {tgt : Nat} (hd1 : decode cc pc = .ok (.lcmp, 1)) (hd2 : decode cc (pc + 1) = .ok (.ifCond .ge off, 3)) (ht : ((pc + 1 : Nat) : Int) + off = (tgt : Int))
    (kt : y ≤ x → W p l e R s m args below meth c H locs cells slots Q (F0 m tgt ls rest)) (kf : ¬ y ≤ x → W p l e R s m args below meth c H locs cells slots Q (F0 m (pc + 1 + 3) ls rest)) : W p l e R s m args below meth c H locs cells slots Q (F0 m pc ls (.long y :: .long x :: rest)) :=
  W.lcmp hexec hb hd1 (lv_if_ge hexec hb hd2 ht (fun h => kt ((lg_cmp_ge x y).mp h)) (fun h => kf (fun q => h ((lg_cmp_ge x y).mpr q))))
theorem q_lgt (hexec : p.tables.exec = Jvm.exec) (hb : c.code = cc) {x y : Int64} {off : Int} {tgt : Nat} (hd1 : decode cc pc = .ok (.lcmp, 1)) (hd2 : decode cc (pc + 1) = .ok (.ifCond .gt off, 3)) (ht : ((pc + 1 : Nat) : Int) + off = (tgt : Int))
    (kt : ¬ x ≤ y → W p l e R s m args below meth c H locs cells slots Q (F0 m tgt ls rest)) (kf : x ≤ y → W p l e R s m args below meth c H locs cells slots Q (F0 m (pc + 1 + 3) ls rest)) : W p l e R s m args below meth c H locs cells slots Q (F0 m pc ls (.long y :: .long x :: rest)) :=
  W.lcmp hexec hb hd1 (lv_if_gt hexec hb hd2 ht (fun h => kt (Int64.not_le.mpr ((lg_cmp_gt x y).mp h))) (fun h => kf (Int64.not_lt.mp (fun q => h ((lg_cmp_gt x y).mpr q)))))
theorem q_leq (hexec : p.tables.exec = Jvm.exec) (hb : c.code = cc) {x y : Int64} {off : Int} {tgt : Nat} (hd1 : decode cc pc = .ok (.lcmp, 1)) (hd2 : decode cc (pc + 1) = .ok (.ifCond .eq off, 3)) (ht : ((pc + 1 : Nat) : Int) + off = (tgt : Int))
    (kt : x = y → W p l e R s m args below meth c H locs cells slots Q (F0 m tgt ls rest)) (kf : x ≠ y → W p l e R s m args below meth c H locs cells slots Q (F0 m (pc + 1 + 3) ls rest)) : W p l e R s m args below meth c H locs cells slots Q (F0 m pc ls (.long y :: .long x :: rest)) :=
  W.lcmp hexec hb hd1 (lv_if_eq hexec hb hd2 ht (fun h => kt ((lg_cmp_eq x y).mp h)) (fun h => kf (fun q => h ((lg_cmp_eq x y).mpr q))))
end QB
end
section
/-! LongHeaps: downHeap, upHeap, makeHeap, with no comparator: contracts over one row of longs -/
set_option maxHeartbeats 4000000 in
set_option maxRecDepth 100000 in
/-- downHeap(a, z, i, null): the row is a heap from i on, its first z places hold what they held -/
theorem m_downHeap (l : Launch) (D : va_G) (dJ : ClassId) (a sz n z i : Nat) (f : Nat → Int64) (hn : n < 2 ^ 29) (hz : z ≤ n) (hi : i < z) (hh : hp (i + 1) f z) : Met l yX4_downHeap (ws_ yX4_downHeap cX4_downHeap 10 (some .int)) ({ frames := 0, cells := 0, slots := 0, locals := 0 } : Room) (va_Pc [.ref a, .int (nI z), .int (nI i), .null] (cP D dJ sz ([(a, la dJ n f)]))) (va_Qi (fun (_ : Int32) (u : Nat → Int64) => hp i u z ∧ (ab u z).Perm (ab f z)) (fun u t => cB D (va_A ([(a, la dJ n f)]) sz) [(a, la dJ n u)] t) (va_A ([(a, la dJ n f)]) sz)) 0 0 (va_A ([(a, la dJ n f)]) sz) := by
  refine Met.ofW (cc := cX4_downHeap) (maxL := 10) (ret := (some .int)) (by decide) rfl ?_
  intro p e s m args below meth c s₁ B hml hv
  obtain ⟨rfl, hsz, hP, hK, hD0⟩ := hv
  have hx := B.exec
  have hb := B.bytes
  have hr := B.returns
  have hts := atoms_spec (ws := (ws_ yX4_downHeap cX4_downHeap 10 (some .int))) B.pre
  have hts : ∀ w ∈ lw_all, w.before _ s = true := fun w h => hts w (List.mem_cons_of_mem _ h)
  have hown : s.vm.findClass RX4 = some m.cls := findClass_of_methodNamed B.named
  have hlocks := B.notSynchronized
  subst hsz
  have hD := hD0.self (sz := s.heap.size)
  generalize hAe : va_A ([(a, la dJ n f)]) s.heap.size = A at hD ⊢
  have hA : ∀ q : Nat, s.heap.size ≤ q → A q := fun q h => by rw [← hAe]; exact Or.inr h
  obtain ⟨H, hHe⟩ : ∃ H : Heap, H = s.heap := ⟨_, rfl⟩
  rw [← hHe]
  have hS : va_S A s.heap H [] := by rw [hHe]; exact va_S.rf
  have hP : va_P D vwCl ([(a, la dJ n f)]) H := by rw [hHe]; exact hP
  have hl := lv_entry ([.ref a, .int (nI z), .int (nI i), .null]) (n := 10) (Nat.le_of_ble_eq_true rfl)
  rw [lg_entry_eq]
  generalize (lg_sl ([.ref a, .int (nI z), .int (nI i), .null]) ++ List.replicate (10 - (lg_sl ([.ref a, .int (nI z), .int (nI i), .null])).length) Slot.unset).toArray = ls at hl ⊢
  have hl : lv_has ls 10 [(0, .ref a), (1, .int (nI z)), (2, .int (nI i)), (3, .null)] := hl
  refine lv_aload_n hx hb dX4_downHeap_0 rfl (lv_at hl 0 rfl) ?_
  refine lv_iload_n hx hb dX4_downHeap_1 rfl (lv_at hl 2 rfl) ?_
  refine q_lald hx hb hK hP 0 rfl (i := i) (by omega) (by omega) dX4_downHeap_2 ?_
  refine lv_lstore (lv' := [(4, .long (f i)), (0, .ref a), (1, .int (nI z)), (2, .int (nI i)), (3, .null)]) hx hb dX4_downHeap_3 hl (by decide) rfl (fun ls hl => ?_)
  refine lv_aload_nN hx hb dX4_downHeap_5 rfl (lv_at hl 4 rfl) ?_
  refine lv_ifnonnullN hx hb dX4_downHeap_6 ?_
  generalize hev : f i = ev at hl
  have hl : lv_has ls 10 [(4, .long ev), (0, .ref a), (1, .int (nI z)), (2, .int (nI i)), (3, .null)] := hl
  have exit : ∀ (j : Nat) (g : Nat → Int64) (H : Heap) (locs : List Loc) (ls : Array Slot), j < z → hp i (vp_updL g j ev) z → (ab (vp_updL g j ev) z).Perm (ab f z) → va_P D vwCl [(a, la dJ n g)] H → va_D A [(a, la dJ n g)] → va_S A s.heap H locs → lv_has ls 10 [(0, .ref a), (2, .int (nI j)), (4, .long ev)] → W p l e (headSpec (ws_ yX4_downHeap cX4_downHeap 10 (some .int)) ({ frames := 0, cells := 0, slots := 0, locals := 0 } : Room)).room s m ([.ref a, .int (nI z), .int (nI i), .null] : List Value).toArray below meth c H locs 0 0 (MQ below (va_Qi (fun (_ : Int32) (u : Nat → Int64) => hp i u z ∧ (ab u z).Perm (ab f z)) (fun u t => cB D A [(a, la dJ n u)] t) A) ([.ref a, .int (nI z), .int (nI i), .null] : List Value).toArray s 0 0 A) (F0 m 113 ls []) := by
    intro j g H locs ls hj hhp hpm hP hD hS hl
    refine lv_aload_n hx hb dX4_downHeap_113 rfl (lv_at hl 0 rfl) ?_
    refine lv_iload_n hx hb dX4_downHeap_114 rfl (lv_at hl 1 rfl) ?_
    refine lv_lload hx hb dX4_downHeap_115 (lv_at hl 2 rfl) ?_
    refine q_last hx hb hK hP hD hS 0 rfl (i := j) (by omega) (by omega) dX4_downHeap_117 (fun H locs hP hD hS => ?_)
    have hP : va_P D vwCl ([(a, la dJ n (vp_updL g j ev))]) H := hP
    have hD : va_D A ([(a, la dJ n (vp_updL g j ev))]) := hD
    refine lv_iload_n hx hb dX4_downHeap_118 rfl (lv_at hl 1 rfl) ?_
    exact W.iret (v := nI j) hx hb hr (fun t ht hW => ⟨⟨nI j, vp_updL g j ev, rfl, ⟨hhp, hpm⟩, by rw [ht]; exact hP, hD⟩, hS.F ht⟩) hS.2.2 dX4_downHeap_119
  have loop : ∀ (N j : Nat) (g : Nat → Int64) (H : Heap) (locs : List Loc) (ls : Array Slot), z ≤ j + N → j < z → i ≤ j → hd i j (vp_updL g j ev) z → (ab (vp_updL g j ev) z).Perm (ab f z) → va_P D vwCl [(a, la dJ n g)] H → va_D A [(a, la dJ n g)] → va_S A s.heap H locs → lv_has ls 10 [(0, .ref a), (1, .int (nI z)), (2, .int (nI j)), (4, .long ev)] → W p l e (headSpec (ws_ yX4_downHeap cX4_downHeap 10 (some .int)) ({ frames := 0, cells := 0, slots := 0, locals := 0 } : Room)).room s m ([.ref a, .int (nI z), .int (nI i), .null] : List Value).toArray below meth c H locs 0 0 (MQ below (va_Qi (fun (_ : Int32) (u : Nat → Int64) => hp i u z ∧ (ab u z).Perm (ab f z)) (fun u t => cB D A [(a, la dJ n u)] t) A) ([.ref a, .int (nI z), .int (nI i), .null] : List Value).toArray s 0 0 A) (F0 m 9 ls []) := by
    intro N
    induction N with
    | zero => intro j g H locs ls h1 h2; exact absurd h2 (by omega)
    | succ N ih =>
      intro j g H locs ls hN hj hij hhd hpm hP hD hS hl
      have cont : ∀ (ch : Nat) (ls : Array Slot), (ch = 2 * j + 1 ∨ ch = 2 * j + 2) → ch < z → (∀ c', (c' = 2 * j + 1 ∨ c' = 2 * j + 2) → c' < z → g ch ≤ g c') → lv_has ls 10 [(0, .ref a), (1, .int (nI z)), (2, .int (nI j)), (4, .long ev), (6, .int (nI ch)), (7, .long (g ch))] → W p l e (headSpec (ws_ yX4_downHeap cX4_downHeap 10 (some .int)) ({ frames := 0, cells := 0, slots := 0, locals := 0 } : Room)).room s m ([.ref a, .int (nI z), .int (nI i), .null] : List Value).toArray below meth c H locs 0 0 (MQ below (va_Qi (fun (_ : Int32) (u : Nat → Int64) => hp i u z ∧ (ab u z).Perm (ab f z)) (fun u t => cB D A [(a, la dJ n u)] t) A) ([.ref a, .int (nI z), .int (nI i), .null] : List Value).toArray s 0 0 A) (F0 m 58 ls []) := by
        intro ch ls hch hcz hmin hl
        refine lv_lload hx hb dX4_downHeap_58 (lv_at hl 3 rfl) ?_
        refine lv_lload hx hb dX4_downHeap_60 (lv_at hl 5 rfl) ?_
        refine q_lgt hx hb (tgt := 69) dX4_downHeap_62 dX4_downHeap_63 (by decide) (fun hc => ?_) (fun hc => ?_)
        · refine lv_aload_n hx hb dX4_downHeap_69 rfl (lv_at hl 0 rfl) ?_
          refine lv_iload_n hx hb dX4_downHeap_70 rfl (lv_at hl 2 rfl) ?_
          refine lv_lload hx hb dX4_downHeap_71 (lv_at hl 5 rfl) ?_
          refine q_last hx hb hK hP hD hS 0 rfl (i := j) (by omega) (by omega) dX4_downHeap_73 (fun H locs hP hD hS => ?_)
          have hP : va_P D vwCl ([(a, la dJ n (vp_updL g j (g ch)))]) H := hP
          have hD : va_D A ([(a, la dJ n (vp_updL g j (g ch)))]) := hD
          refine lv_iload hx hb dX4_downHeap_74 (lv_at hl 4 rfl) ?_
          refine lv_istore_n (lv' := [(2, .int (nI ch)), (0, .ref a), (1, .int (nI z)), (4, .long ev), (6, .int (nI ch)), (7, .long (g ch))]) hx hb dX4_downHeap_76 rfl hl (by decide) rfl (fun ls hl => ?_)
          refine lv_goto (tgt := 9) hx hb dX4_downHeap_77 (by decide) ?_
          exact ih ch (vp_updL g j (g ch)) H locs ls (by omega) hcz (by omega) (hd_step hhd hij hch hcz hmin hc) ((ab_hole hj hcz (by omega)).trans hpm) hP hD hS (lv_sub hl [1, 2, 0, 3] rfl)
        · refine lv_goto (tgt := 113) hx hb dX4_downHeap_66 (by decide) ?_
          exact exit j g H locs ls hj (hd_end hhd (fun c' h1 h2 => by rw [up_s, up_n _ _ (show c' ≠ j by omega)]; exact Int64.le_trans hc (hmin c' h1 h2))) hpm hP hD hS (lv_sub hl [0, 2, 3] rfl)
      refine lv_iload_n hx hb dX4_downHeap_9 rfl (lv_at hl 2 rfl) ?_
      refine lv_iconst (v := 1) hx hb dX4_downHeap_10 (by decide) ?_
      refine lv_ishl hx hb dX4_downHeap_11 ?_
      refine lv_topi (fun t1 et1 => ?_)
      obtain rfl : t1 = nI (j * 2 ^ 1) := et1.trans (pk_shlN _ 1 (by decide) (by omega))
      refine lv_iconst (v := 1) hx hb dX4_downHeap_12 (by decide) ?_
      refine lv_iadd hx hb dX4_downHeap_13 ?_
      refine lv_topi (fun t2 et2 => ?_)
      obtain rfl : t2 = nI (2 * j + 1) := et2.trans ((nI_1 _).trans (by congr 1; omega))
      refine lv_dup hx hb dX4_downHeap_14 rfl ?_
      refine lv_istore (lv' := [(6, .int (nI (2 * j + 1))), (0, .ref a), (1, .int (nI z)), (2, .int (nI j)), (4, .long ev)]) hx hb dX4_downHeap_15 hl (by decide) rfl (fun ls hl => ?_)
      refine lv_iload_n hx hb dX4_downHeap_17 rfl (lv_at hl 2 rfl) ?_
      refine q_icge hx hb (by omega) (by omega) (tgt := 113) dX4_downHeap_18 (by decide) (fun hc => ?_) (fun hc => ?_)
      · exact exit j g H locs ls hj (hd_end hhd (fun c' h1 h2 => absurd h2 (by omega))) hpm hP hD hS (lv_sub hl [1, 3, 4] rfl)
      · refine lv_aload_n hx hb dX4_downHeap_21 rfl (lv_at hl 1 rfl) ?_
        refine lv_iload hx hb dX4_downHeap_22 (lv_at hl 0 rfl) ?_
        refine q_lald hx hb hK hP 0 rfl (i := 2 * j + 1) (by omega) (by omega) dX4_downHeap_24 ?_
        refine lv_lstore (lv' := [(7, .long (g (2 * j + 1))), (6, .int (nI (2 * j + 1))), (0, .ref a), (1, .int (nI z)), (2, .int (nI j)), (4, .long ev)]) hx hb dX4_downHeap_25 hl (by decide) rfl (fun ls hl => ?_)
        refine lv_iload hx hb dX4_downHeap_27 (lv_at hl 1 rfl) ?_
        refine lv_iconst (v := 1) hx hb dX4_downHeap_29 (by decide) ?_
        refine lv_iadd hx hb dX4_downHeap_30 ?_
        refine lv_topi (fun t3 et3 => ?_)
        obtain rfl : t3 = nI (2 * j + 2) := et3.trans ((nI_1 _).trans (by congr 1))
        refine lv_istore (lv' := [(9, .int (nI (2 * j + 2))), (7, .long (g (2 * j + 1))), (6, .int (nI (2 * j + 1))), (0, .ref a), (1, .int (nI z)), (2, .int (nI j)), (4, .long ev)]) hx hb dX4_downHeap_31 hl (by decide) rfl (fun ls hl => ?_)
        refine lv_iload hx hb dX4_downHeap_33 (lv_at hl 0 rfl) ?_
        refine lv_iload_n hx hb dX4_downHeap_35 rfl (lv_at hl 4 rfl) ?_
        refine q_icge hx hb (by omega) (by omega) (tgt := 58) dX4_downHeap_36 (by decide) (fun hc => ?_) (fun hc => ?_)
        · exact cont (2 * j + 1) ls (Or.inl rfl) (by omega) (fun c' h1 h2 => by rcases h1 with rfl | rfl; exact Int64.le_refl _; exact absurd h2 (by omega)) (lv_sub hl [3, 4, 5, 6, 2, 1] rfl)
        · refine lv_aload_n hx hb dX4_downHeap_39 rfl (lv_at hl 3 rfl) ?_
          refine lv_iload hx hb dX4_downHeap_40 (lv_at hl 0 rfl) ?_
          refine q_lald hx hb hK hP 0 rfl (i := 2 * j + 2) (by omega) (by omega) dX4_downHeap_42 ?_
          refine lv_lload hx hb dX4_downHeap_43 (lv_at hl 1 rfl) ?_
          refine q_lge hx hb (tgt := 58) dX4_downHeap_45 dX4_downHeap_46 (by decide) (fun hc => ?_) (fun hc => ?_)
          · exact cont (2 * j + 1) ls (Or.inl rfl) (by omega) (fun c' h1 h2 => by rcases h1 with rfl | rfl; exact Int64.le_refl _; assumption) (lv_sub hl [3, 4, 5, 6, 2, 1] rfl)
          · refine lv_aload_n hx hb dX4_downHeap_49 rfl (lv_at hl 3 rfl) ?_
            refine lv_iload hx hb dX4_downHeap_50 (lv_at hl 0 rfl) ?_
            refine lv_dup hx hb dX4_downHeap_52 rfl ?_
            refine lv_istore (lv' := [(6, .int (nI (2 * j + 2))), (9, .int (nI (2 * j + 2))), (7, .long (g (2 * j + 1))), (0, .ref a), (1, .int (nI z)), (2, .int (nI j)), (4, .long ev)]) hx hb dX4_downHeap_53 hl (by decide) rfl (fun ls hl => ?_)
            refine q_lald hx hb hK hP 0 rfl (i := 2 * j + 2) (by omega) (by omega) dX4_downHeap_55 ?_
            refine lv_lstore (lv' := [(7, .long (g (2 * j + 2))), (6, .int (nI (2 * j + 2))), (9, .int (nI (2 * j + 2))), (0, .ref a), (1, .int (nI z)), (2, .int (nI j)), (4, .long ev)]) hx hb dX4_downHeap_56 hl (by decide) rfl (fun ls hl => ?_)
            exact cont (2 * j + 2) ls (Or.inr rfl) (by omega) (fun c' h1 h2 => by rcases h1 with rfl | rfl; exact le_of_nle (by assumption); exact Int64.le_refl _) (lv_sub hl [3, 4, 5, 6, 1, 0] rfl)
  exact loop z i f H [] ls (by omega) hi (Nat.le_refl i) (by rw [← hev]; exact hd_start hh) (by rw [← hev, up_self]) hP hD hS (lv_sub hl [1, 2, 3, 0] rfl)
set_option maxHeartbeats 4000000 in
set_option maxRecDepth 100000 in
/-- upHeap(a, z + 1, z, null): the row is a heap, its first z + 1 places hold what they held -/
theorem m_upHeap (l : Launch) (D : va_G) (dJ : ClassId) (a sz n z : Nat) (f : Nat → Int64) (hn : n < 2 ^ 29) (hz : z + 1 ≤ n) (hh : hp 0 f z) : Met l yX4_upHeap (ws_ yX4_upHeap cX4_upHeap 9 (some .int)) ({ frames := 0, cells := 0, slots := 0, locals := 0 } : Room) (va_Pc [.ref a, .int (nI (z + 1)), .int (nI z), .null] (cP D dJ sz ([(a, la dJ n f)]))) (va_Qi (fun (_ : Int32) (u : Nat → Int64) => hp 0 u (z + 1) ∧ (ab u (z + 1)).Perm (ab f (z + 1))) (fun u t => cB D (va_A ([(a, la dJ n f)]) sz) [(a, la dJ n u)] t) (va_A ([(a, la dJ n f)]) sz)) 0 0 (va_A ([(a, la dJ n f)]) sz) := by
  refine Met.ofW (cc := cX4_upHeap) (maxL := 9) (ret := (some .int)) (by decide) rfl ?_
  intro p e s m args below meth c s₁ B hml hv
  obtain ⟨rfl, hsz, hP, hK, hD0⟩ := hv
  have hx := B.exec
  have hb := B.bytes
  have hr := B.returns
  have hts := atoms_spec (ws := (ws_ yX4_upHeap cX4_upHeap 9 (some .int))) B.pre
  have hts : ∀ w ∈ lw_all, w.before _ s = true := fun w h => hts w (List.mem_cons_of_mem _ h)
  have hown : s.vm.findClass RX4 = some m.cls := findClass_of_methodNamed B.named
  have hlocks := B.notSynchronized
  subst hsz
  have hD := hD0.self (sz := s.heap.size)
  generalize hAe : va_A ([(a, la dJ n f)]) s.heap.size = A at hD ⊢
  have hA : ∀ q : Nat, s.heap.size ≤ q → A q := fun q h => by rw [← hAe]; exact Or.inr h
  obtain ⟨H, hHe⟩ : ∃ H : Heap, H = s.heap := ⟨_, rfl⟩
  rw [← hHe]
  have hS : va_S A s.heap H [] := by rw [hHe]; exact va_S.rf
  have hP : va_P D vwCl ([(a, la dJ n f)]) H := by rw [hHe]; exact hP
  have hl := lv_entry ([.ref a, .int (nI (z + 1)), .int (nI z), .null]) (n := 9) (Nat.le_of_ble_eq_true rfl)
  rw [lg_entry_eq]
  generalize (lg_sl ([.ref a, .int (nI (z + 1)), .int (nI z), .null]) ++ List.replicate (9 - (lg_sl ([.ref a, .int (nI (z + 1)), .int (nI z), .null])).length) Slot.unset).toArray = ls at hl ⊢
  have hl : lv_has ls 9 [(0, .ref a), (1, .int (nI (z + 1))), (2, .int (nI z)), (3, .null)] := hl
  refine lv_aload_n hx hb dX4_upHeap_0 rfl (lv_at hl 0 rfl) ?_
  refine lv_iload_n hx hb dX4_upHeap_1 rfl (lv_at hl 2 rfl) ?_
  refine q_lald hx hb hK hP 0 rfl (i := z) (by omega) (by omega) dX4_upHeap_2 ?_
  refine lv_lstore (lv' := [(4, .long (f z)), (0, .ref a), (1, .int (nI (z + 1))), (2, .int (nI z)), (3, .null)]) hx hb dX4_upHeap_3 hl (by decide) rfl (fun ls hl => ?_)
  refine lv_aload_nN hx hb dX4_upHeap_5 rfl (lv_at hl 4 rfl) ?_
  refine lv_ifnonnullN hx hb dX4_upHeap_6 ?_
  generalize hev : f z = ev at hl
  have hl : lv_has ls 9 [(4, .long ev), (0, .ref a), (1, .int (nI (z + 1))), (2, .int (nI z)), (3, .null)] := hl
  have exit : ∀ (j : Nat) (g : Nat → Int64) (H : Heap) (locs : List Loc) (ls : Array Slot), j < z + 1 → hp 0 (vp_updL g j ev) (z + 1) → (ab (vp_updL g j ev) (z + 1)).Perm (ab f (z + 1)) → va_P D vwCl [(a, la dJ n g)] H → va_D A [(a, la dJ n g)] → va_S A s.heap H locs → lv_has ls 9 [(0, .ref a), (2, .int (nI j)), (4, .long ev)] → W p l e (headSpec (ws_ yX4_upHeap cX4_upHeap 9 (some .int)) ({ frames := 0, cells := 0, slots := 0, locals := 0 } : Room)).room s m ([.ref a, .int (nI (z + 1)), .int (nI z), .null] : List Value).toArray below meth c H locs 0 0 (MQ below (va_Qi (fun (_ : Int32) (u : Nat → Int64) => hp 0 u (z + 1) ∧ (ab u (z + 1)).Perm (ab f (z + 1))) (fun u t => cB D A [(a, la dJ n u)] t) A) ([.ref a, .int (nI (z + 1)), .int (nI z), .null] : List Value).toArray s 0 0 A) (F0 m 68 ls []) := by
    intro j g H locs ls hj hhp hpm hP hD hS hl
    refine lv_aload_n hx hb dX4_upHeap_68 rfl (lv_at hl 0 rfl) ?_
    refine lv_iload_n hx hb dX4_upHeap_69 rfl (lv_at hl 1 rfl) ?_
    refine lv_lload hx hb dX4_upHeap_70 (lv_at hl 2 rfl) ?_
    refine q_last hx hb hK hP hD hS 0 rfl (i := j) (by omega) (by omega) dX4_upHeap_72 (fun H locs hP hD hS => ?_)
    have hP : va_P D vwCl ([(a, la dJ n (vp_updL g j ev))]) H := hP
    have hD : va_D A ([(a, la dJ n (vp_updL g j ev))]) := hD
    refine lv_iload_n hx hb dX4_upHeap_73 rfl (lv_at hl 1 rfl) ?_
    exact W.iret (v := nI j) hx hb hr (fun t ht hW => ⟨⟨nI j, vp_updL g j ev, rfl, ⟨hhp, hpm⟩, by rw [ht]; exact hP, hD⟩, hS.F ht⟩) hS.2.2 dX4_upHeap_74
  have loop : ∀ (N j : Nat) (g : Nat → Int64) (H : Heap) (locs : List Loc) (ls : Array Slot), j < N → j < z + 1 → hu j (vp_updL g j ev) (z + 1) → (ab (vp_updL g j ev) (z + 1)).Perm (ab f (z + 1)) → va_P D vwCl [(a, la dJ n g)] H → va_D A [(a, la dJ n g)] → va_S A s.heap H locs → lv_has ls 9 [(0, .ref a), (2, .int (nI j)), (4, .long ev)] → W p l e (headSpec (ws_ yX4_upHeap cX4_upHeap 9 (some .int)) ({ frames := 0, cells := 0, slots := 0, locals := 0 } : Room)).room s m ([.ref a, .int (nI (z + 1)), .int (nI z), .null] : List Value).toArray below meth c H locs 0 0 (MQ below (va_Qi (fun (_ : Int32) (u : Nat → Int64) => hp 0 u (z + 1) ∧ (ab u (z + 1)).Perm (ab f (z + 1))) (fun u t => cB D A [(a, la dJ n u)] t) A) ([.ref a, .int (nI (z + 1)), .int (nI z), .null] : List Value).toArray s 0 0 A) (F0 m 9 ls []) := by
    intro N
    induction N with
    | zero => intro j g H locs ls h1; exact absurd h1 (Nat.not_lt_zero j)
    | succ N ih =>
      intro j g H locs ls hN hj hhu hpm hP hD hS hl
      refine lv_iload_n hx hb dX4_upHeap_9 rfl (lv_at hl 1 rfl) ?_
      refine q_ifeq hx hb (by omega) (tgt := 68) dX4_upHeap_10 (by decide) (fun hc => ?_) (fun hc => ?_)
      · exact exit j g H locs ls hj (hu_end hhu (fun p h => absurd h (by omega))) hpm hP hD hS (lv_sub hl [0, 1, 2] rfl)
      · refine lv_iload_n hx hb dX4_upHeap_13 rfl (lv_at hl 1 rfl) ?_
        refine lv_iconst (v := 1) hx hb dX4_upHeap_14 (by decide) ?_
        refine lv_isub hx hb dX4_upHeap_15 ?_
        refine lv_topi (fun t4 et4 => ?_)
        obtain rfl : t4 = nI (j - 1) := et4.trans (nI_m1 hc)
        refine lv_iconst (v := 1) hx hb dX4_upHeap_16 (by decide) ?_
        refine lv_iushr (v := nI ((j - 1) / 2 ^ 1)) hx hb dX4_upHeap_17 (pk_ushrN (by omega) _ 1 (by decide)) ?_
        refine lv_istore (lv' := [(6, .int (nI ((j - 1) / 2 ^ 1))), (0, .ref a), (2, .int (nI j)), (4, .long ev)]) hx hb dX4_upHeap_18 hl (by decide) rfl (fun ls hl => ?_)
        refine lv_aload_n hx hb dX4_upHeap_20 rfl (lv_at hl 1 rfl) ?_
        refine lv_iload hx hb dX4_upHeap_21 (lv_at hl 0 rfl) ?_
        refine q_lald hx hb hK hP 0 rfl (i := (j - 1) / 2 ^ 1) (by omega) (by omega) dX4_upHeap_23 ?_
        refine lv_lstore (lv' := [(7, .long (g ((j - 1) / 2 ^ 1))), (6, .int (nI ((j - 1) / 2 ^ 1))), (0, .ref a), (2, .int (nI j)), (4, .long ev)]) hx hb dX4_upHeap_24 hl (by decide) rfl (fun ls hl => ?_)
        refine lv_lload hx hb dX4_upHeap_26 (lv_at hl 0 rfl) ?_
        refine lv_lload hx hb dX4_upHeap_28 (lv_at hl 4 rfl) ?_
        have hpar : j = 2 * ((j - 1) / 2 ^ 1) + 1 ∨ j = 2 * ((j - 1) / 2 ^ 1) + 2 := by omega
        refine q_lgt hx hb (tgt := 37) dX4_upHeap_30 dX4_upHeap_31 (by decide) (fun hc => ?_) (fun hc => ?_)
        · refine lv_aload_n hx hb dX4_upHeap_37 rfl (lv_at hl 2 rfl) ?_
          refine lv_iload_n hx hb dX4_upHeap_38 rfl (lv_at hl 3 rfl) ?_
          refine lv_lload hx hb dX4_upHeap_39 (lv_at hl 0 rfl) ?_
          refine q_last hx hb hK hP hD hS 0 rfl (i := j) (by omega) (by omega) dX4_upHeap_41 (fun H locs hP hD hS => ?_)
          have hP : va_P D vwCl ([(a, la dJ n (vp_updL g j (g ((j - 1) / 2 ^ 1))))]) H := hP
          have hD : va_D A ([(a, la dJ n (vp_updL g j (g ((j - 1) / 2 ^ 1))))]) := hD
          refine lv_iload hx hb dX4_upHeap_42 (lv_at hl 1 rfl) ?_
          refine lv_istore_n (lv' := [(2, .int (nI ((j - 1) / 2 ^ 1))), (7, .long (g ((j - 1) / 2 ^ 1))), (6, .int (nI ((j - 1) / 2 ^ 1))), (0, .ref a), (4, .long ev)]) hx hb dX4_upHeap_44 rfl hl (by decide) rfl (fun ls hl => ?_)
          refine lv_goto (tgt := 9) hx hb dX4_upHeap_45 (by decide) ?_
          exact ih ((j - 1) / 2 ^ 1) (vp_updL g j (g ((j - 1) / 2 ^ 1))) H locs ls (by omega) (by omega) (hu_step hhu hj hpar (by assumption)) ((ab_hole hj (by omega) (by omega)).trans hpm) hP hD hS (lv_sub hl [3, 0, 4] rfl)
        · refine lv_goto (tgt := 68) hx hb dX4_upHeap_34 (by decide) ?_
          exact exit j g H locs ls hj (hu_end hhu (fun p h => by rw [up_s, up_n _ _ (show p ≠ j by omega), show p = (j - 1) / 2 ^ 1 by omega]; assumption)) hpm hP hD hS (lv_sub hl [2, 3, 4] rfl)
  exact loop (z + 1) z f H [] ls (by omega) (by omega) (by rw [← hev]; exact hu_start hh) (by rw [← hev, up_self]) hP hD hS (lv_sub hl [1, 3, 0] rfl)
set_option maxHeartbeats 4000000 in
set_option maxRecDepth 100000 in
/-- makeHeap(a, z, null) -/
theorem m_makeHeap (l : Launch) (D : va_G) (dJ : ClassId) (a sz n z : Nat) (f : Nat → Int64) (hn : n < 2 ^ 29) (hz : z ≤ n) : Met l yX4_makeHeap (ws_ yX4_makeHeap cX4_makeHeap 4 none) ({ frames := 1, cells := 0, slots := 0, locals := 29 } : Room) (va_Pc [.ref a, .int (nI z), .null] (cP D dJ sz ([(a, la dJ n f)]))) (va_Qv (fun (u : Nat → Int64) => hp 0 u z ∧ (ab u z).Perm (ab f z)) (fun u t => cB D (va_A ([(a, la dJ n f)]) sz) [(a, la dJ n u)] t) (va_A ([(a, la dJ n f)]) sz)) 0 0 (va_A ([(a, la dJ n f)]) sz) := by
  refine Met.ofW (cc := cX4_makeHeap) (maxL := 4) (ret := none) (by decide) rfl ?_
  intro p e s m args below meth c s₁ B hml hv
  obtain ⟨rfl, hsz, hP, hK, hD0⟩ := hv
  have hx := B.exec
  have hb := B.bytes
  have hr := B.returns
  have hts := atoms_spec (ws := (ws_ yX4_makeHeap cX4_makeHeap 4 none)) B.pre
  have hts : ∀ w ∈ lw_all, w.before _ s = true := fun w h => hts w (List.mem_cons_of_mem _ h)
  have hown : s.vm.findClass RX4 = some m.cls := findClass_of_methodNamed B.named
  have hlocks := B.notSynchronized
  subst hsz
  have hD := hD0.self (sz := s.heap.size)
  generalize hAe : va_A ([(a, la dJ n f)]) s.heap.size = A at hD ⊢
  have hA : ∀ q : Nat, s.heap.size ≤ q → A q := fun q h => by rw [← hAe]; exact Or.inr h
  obtain ⟨H, hHe⟩ : ∃ H : Heap, H = s.heap := ⟨_, rfl⟩
  rw [← hHe]
  have hS : va_S A s.heap H [] := by rw [hHe]; exact va_S.rf
  have hP : va_P D vwCl ([(a, la dJ n f)]) H := by rw [hHe]; exact hP
  have hl := lv_entry ([.ref a, .int (nI z), .null]) (n := 4) (Nat.le_of_ble_eq_true rfl)
  rw [lg_entry_eq]
  generalize (lg_sl ([.ref a, .int (nI z), .null]) ++ List.replicate (4 - (lg_sl ([.ref a, .int (nI z), .null])).length) Slot.unset).toArray = ls at hl ⊢
  have hl : lv_has ls 4 [(0, .ref a), (1, .int (nI z)), (2, .null)] := hl
  refine lv_iload_n hx hb dX4_makeHeap_0 rfl (lv_at hl 1 rfl) ?_
  refine lv_iconst (v := 1) hx hb dX4_makeHeap_1 (by decide) ?_
  refine lv_iushr (v := nI (z / 2 ^ 1)) hx hb dX4_makeHeap_2 (pk_ushrN (by omega) _ 1 (by decide)) ?_
  refine lv_istore_n (lv' := [(3, .int (nI (z / 2 ^ 1))), (0, .ref a), (1, .int (nI z)), (2, .null)]) hx hb dX4_makeHeap_3 rfl hl (by decide) rfl (fun ls hl => ?_)
  have loop : ∀ (k : Nat) (g : Nat → Int64) (H : Heap) (locs : List Loc) (ls : Array Slot), k ≤ z / 2 → hp k g z → (ab g z).Perm (ab f z) → va_P D vwCl [(a, la dJ n g)] H → va_D A [(a, la dJ n g)] → va_S A s.heap H locs → lv_has ls 4 [(0, .ref a), (1, .int (nI z)), (2, .null), (3, .int (nI k))] → W p l e (headSpec (ws_ yX4_makeHeap cX4_makeHeap 4 none) ({ frames := 1, cells := 0, slots := 0, locals := 29 } : Room)).room s m ([.ref a, .int (nI z), .null] : List Value).toArray below meth c H locs 0 0 (MQ below (va_Qv (fun (u : Nat → Int64) => hp 0 u z ∧ (ab u z).Perm (ab f z)) (fun u t => cB D A [(a, la dJ n u)] t) A) ([.ref a, .int (nI z), .null] : List Value).toArray s 0 0 A) (F0 m 4 ls []) := by
    intro k
    induction k with
    | zero =>
      intro g H locs ls hk hhp hpm hP hD hS hl
      refine lv_iload_n hx hb dX4_makeHeap_4 rfl (lv_at hl 3 rfl) ?_
      refine lv_iinc (v := nI 0 + Int32.ofInt (-1)) (lv' := [(3, .int (nI 0 + Int32.ofInt (-1))), (0, .ref a), (1, .int (nI z)), (2, .null)]) hx hb dX4_makeHeap_5 hl (k := 3) rfl (rfl) (by decide) rfl (fun ls hl => ?_)
      refine q_ifeq hx hb (by omega) (tgt := 22) dX4_makeHeap_8 (by decide) (fun hc => ?_) (fun hc => ?_)
      · exact W.vret hx hb hr (fun t ht hW => ⟨⟨g, rfl, ⟨hhp, hpm⟩, by rw [ht]; exact hP, hD⟩, hS.F ht⟩) hS.2.2 dX4_makeHeap_22
      · exact absurd hc (by omega)
    | succ k ih =>
      intro g H locs ls hk hhp hpm hP hD hS hl
      refine lv_iload_n hx hb dX4_makeHeap_4 rfl (lv_at hl 3 rfl) ?_
      refine lv_iinc (v := nI k) (lv' := [(3, .int (nI k)), (0, .ref a), (1, .int (nI z)), (2, .null)]) hx hb dX4_makeHeap_5 hl (k := 3) rfl (pk_m1 k) (by decide) rfl (fun ls hl => ?_)
      refine q_ifeq hx hb (by omega) (tgt := 22) dX4_makeHeap_8 (by decide) (fun hc => ?_) (fun hc => ?_)
      · exact absurd hc (by omega)
      · refine lv_aload_n hx hb dX4_makeHeap_11 rfl (lv_at hl 1 rfl) ?_
        refine lv_iload_n hx hb dX4_makeHeap_12 rfl (lv_at hl 2 rfl) ?_
        refine lv_iload_n hx hb dX4_makeHeap_13 rfl (lv_at hl 0 rfl) ?_
        refine lv_aload_nN hx hb dX4_makeHeap_14 rfl (lv_at hl 3 rfl) ?_
        have hPc := hP.sub (ws' := [(a, la dJ n g)]) [0] rfl
        have hDc := hD.sub (ws' := [(a, la dJ n g)]) [0] (by decide) rfl
        have hFc := va_free (wc := [(a, la dJ n g)]) hD hS hA [0] rfl
        refine va_calli (va_runS (As := [.ref a, .int (nI z), .int (nI k), .null]) (rest := []) ⟨hx, hb, hml, hown, hts⟩ (m_downHeap l D dJ a H.size n z k g hn hz (by omega) hhp) (va_cwS 4 hts (lw_S q103 q104 q9 q105) rfl rfl rfl (by decide +kernel) ⟨Nat.le_of_ble_eq_true rfl, Nat.le_of_ble_eq_true rfl⟩) (cP_S hK hPc hDc) rfl rfl hl.1 rfl (lv_room (Nat.le_of_ble_eq_true rfl)) dX4_makeHeap_15 ⟨Nat.le_of_ble_eq_true rfl, Nat.le_of_ble_eq_true rfl⟩) hS (fun q _ h => hFc q h) hFc (fun r u t H1 locs ht hvm hw hB hzz hk1 hS => ?_)
        obtain ⟨hP1, hD1⟩ := hB
        rw [ht] at hP1
        obtain ⟨hP, hD⟩ := va_join (wr := []) (w1 := [(a, la dJ n u)]) hP hD [0] [] rfl rfl (by decide) (by decide) hk1 hFc hP1 hD1
        generalize H1 = H at hP hS ⊢
        have hP : va_P D vwCl ([(a, la dJ n u)]) H := hP
        have hD : va_D A ([(a, la dJ n u)]) := hD
        refine lv_pop hx hb dX4_makeHeap_18 rfl ?_
        refine lv_goto (tgt := 4) hx hb dX4_makeHeap_19 (by decide) ?_
        exact ih u H locs ls (by omega) hw.1 (hw.2.trans hpm) hP hD hS (lv_sub hl [1, 2, 3, 0] rfl)
  exact loop (z / 2 ^ 1) f H [] ls (by omega) (hp_small (by omega)) (List.Perm.refl _) hP hD hS (lv_sub hl [1, 2, 3, 0] rfl)
end
section
/-! LongArrays: grow, trim: the row may be the static empty one (at e0) or its own (LP = [a]) -/
set_option maxHeartbeats 4000000 in
set_option maxRecDepth 100000 in
/-- grow(a, n + 1, n): a new row, longer, with the same first n places -/
theorem m_grow3 (l : Launch) (D : va_G) (dJ : ClassId) (e0 a sz n : Nat) (f : Nat → Int64) (LP : List Nat) (hok : okq e0 a n LP) (hn : n < 200) : Met l yX2_grow_2 (ws_ yX2_grow_2 cX2_grow_2 5 (some (.array .long))) ({ frames := 1, cells := 1, slots := 300, locals := 40 } : Room) (va_Pc [.ref a, .int (nI (n + 1)), .int (nI n)] (cE D dJ e0 sz ([] ++ va_pl LP (fun _ => la dJ n f)))) (va_Qr (fun (u : Nat × (Nat → Int64)) => n + 1 ≤ u.1 ∧ u.1 ≤ 300 ∧ ∀ j, j < n → u.2 j = f j) (fun u r t => cB D (va_A ([] ++ va_pl LP (fun _ => la dJ n f)) sz) [(r, la dJ u.1 u.2)] t) (va_A ([] ++ va_pl LP (fun _ => la dJ n f)) sz)) 1 300 (va_A ([] ++ va_pl LP (fun _ => la dJ n f)) sz) := by
  refine Met.ofW (cc := cX2_grow_2) (maxL := 5) (ret := (some (.array .long))) (by decide) rfl ?_
  intro p e s m args below meth c s₁ B hml hv
  obtain ⟨rfl, ⟨hsz, hP, hK, hD0⟩, hE⟩ := hv
  have hx := B.exec
  have hb := B.bytes
  have hr := B.returns
  have hts := atoms_spec (ws := (ws_ yX2_grow_2 cX2_grow_2 5 (some (.array .long)))) B.pre
  have hts : ∀ w ∈ lw_all, w.before _ s = true := fun w h => hts w (List.mem_cons_of_mem _ h)
  have hown : s.vm.findClass RX2 = some m.cls := findClass_of_methodNamed B.named
  have hlocks := B.notSynchronized
  subst hsz
  have hD := hD0.self (sz := s.heap.size)
  generalize hAe : va_A ([] ++ va_pl LP (fun _ => la dJ n f)) s.heap.size = A at hD hE ⊢
  have hA : ∀ q : Nat, s.heap.size ≤ q → A q := fun q h => by rw [← hAe]; exact Or.inr h
  obtain ⟨H, hHe⟩ : ∃ H : Heap, H = s.heap := ⟨_, rfl⟩
  rw [← hHe]
  have hS : va_S A s.heap H [] := by rw [hHe]; exact va_S.rf
  have hP : va_P D vwCl ([] ++ va_pl LP (fun _ => la dJ n f)) H := by rw [hHe]; exact hP
  have hl := lv_entry ([.ref a, .int (nI (n + 1)), .int (nI n)]) (n := 5) (Nat.le_of_ble_eq_true rfl)
  rw [lg_entry_eq]
  generalize (lg_sl ([.ref a, .int (nI (n + 1)), .int (nI n)]) ++ List.replicate (5 - (lg_sl ([.ref a, .int (nI (n + 1)), .int (nI n)])).length) Slot.unset).toArray = ls at hl ⊢
  have hl : lv_has ls 5 [(0, .ref a), (1, .int (nI (n + 1))), (2, .int (nI n))] := hl
  refine lv_iload_n hx hb dX2_grow_2_0 rfl (lv_at hl 1 rfl) ?_
  refine lv_aload_n hx hb dX2_grow_2_1 rfl (lv_at hl 0 rfl) ?_
  refine q_alen hx hb hK hP hE hS (okq_row [] hok) dX2_grow_2_2 ?_
  refine q_icle hx hb (by omega) (by omega) (tgt := 45) dX2_grow_2_3 (by decide) (fun hc => ?_) (fun hc => ?_)
  · exact absurd hc (by omega)
  · refine lv_aload_n hx hb dX2_grow_2_6 rfl (lv_at hl 0 rfl) ?_
    refine q_alen hx hb hK hP hE hS (okq_row [] hok) dX2_grow_2_7 ?_
    refine lv_i2l (v := lN n) hx hb dX2_grow_2_8 (nI_l (by omega)) ?_
    refine lv_aload_n hx hb dX2_grow_2_9 rfl (lv_at hl 0 rfl) ?_
    refine q_alen hx hb hK hP hE hS (okq_row [] hok) dX2_grow_2_10 ?_
    refine lv_iconst (v := 1) hx hb dX2_grow_2_11 (by decide) ?_
    refine lv_ishr hx hb dX2_grow_2_12 ?_
    refine lv_topi (fun t1 et1 => ?_)
    obtain rfl : t1 = nI (n / 2 ^ 1) := et1.trans (pk_shrN (by omega) _ 1 (by decide))
    refine lv_i2l (v := lN (n / 2 ^ 1)) hx hb dX2_grow_2_13 (nI_l (by omega)) ?_
    refine lv_ladd hx hb dX2_grow_2_14 ?_
    refine lv_topl (fun t2 et2 => ?_)
    obtain rfl : t2 = lN (n + n / 2 ^ 1) := et2.trans (lN_add _ _)
    refine lv_ldc2 (v := 2147483639) hx hb hown (hts _ q70) dX2_grow_2_15 ?_
    refine va_mmin_long hx hb (hml.trans hl.1.symm) hown (hts _ q71) (hts _ q72) (hts _ q7) (hts _ q73) (Nat.le_of_ble_eq_true rfl) (Nat.le_of_ble_eq_true rfl) (Nat.zero_le _) (Nat.zero_le _) dX2_grow_2_18 ?_
    refine lv_topl (fun m1 em1 => ?_)
    obtain rfl : m1 = lN (n + n / 2 ^ 1) := em1.trans (q_min (by omega))
    refine lv_iload_n hx hb dX2_grow_2_21 rfl (lv_at hl 1 rfl) ?_
    refine lv_i2l (v := lN (n + 1)) hx hb dX2_grow_2_22 (nI_l (by omega)) ?_
    refine va_mmax_long hx hb (hml.trans hl.1.symm) hown (hts _ q74) (hts _ q75) (hts _ q7) (hts _ q76) (Nat.le_of_ble_eq_true rfl) (Nat.le_of_ble_eq_true rfl) (Nat.zero_le _) (Nat.zero_le _) dX2_grow_2_23 ?_
    obtain ⟨N', eN, hN1, hN2⟩ := q_max (a := n + n / 2 ^ 1) (b := n + 1) (by omega) (by omega)
    have hN3 : N' ≤ 300 := by rcases hN2 with h | h <;> omega
    refine lv_topl (fun m2 em2 => ?_)
    obtain rfl : m2 = lN N' := em2.trans eN
    refine lv_l2i (v := nI N') hx hb dX2_grow_2_26 (lN_i N') ?_
    refine lv_istore_n (lv' := [(3, .int (nI N')), (0, .ref a), (1, .int (nI (n + 1))), (2, .int (nI n))]) hx hb dX2_grow_2_27 rfl hl (by decide) rfl (fun ls hl => ?_)
    refine lv_iload_n hx hb dX2_grow_2_28 rfl (lv_at hl 0 rfl) ?_
    refine q_newa hx hb (hts _ q43) hK hP hD hS hA (N := N') (by omega) (Nat.le_of_ble_eq_true rfl) (by show 0 + N' ≤ 300; omega) dX2_grow_2_29 (fun q H hP hD hS => ?_)
    refine W.widen (k := 1) (n := 300) (Nat.le_refl 1) (by omega) ?_
    refine lv_astore (lv' := [(4, .ref q), (3, .int (nI N')), (0, .ref a), (1, .int (nI (n + 1))), (2, .int (nI n))]) hx hb dX2_grow_2_31 hl (by decide) rfl (fun ls hl => ?_)
    refine lv_aload_n hx hb dX2_grow_2_33 rfl (lv_at hl 2 rfl) ?_
    refine lv_iconst (v := 0) hx hb dX2_grow_2_34 (by decide) ?_
    refine lv_aload hx hb dX2_grow_2_35 (lv_at hl 0 rfl) ?_
    refine lv_iconst (v := 0) hx hb dX2_grow_2_37 (by decide) ?_
    refine lv_iload_n hx hb dX2_grow_2_38 rfl (lv_at hl 4 rfl) ?_
    refine q_copy (k := n) hx hb (hml.trans hl.1.symm) hown (hts _ q77) (hts _ q79) (hts _ q78) (hts _ q8) hK hP hD hE hS (qrow_app (okq_row [] hok)) _ at_end (Nat.le_refl n) (by omega) (by omega) (Nat.le_of_ble_eq_true rfl) (Nat.le_of_ble_eq_true rfl) dX2_grow_2_39 (fun H locs g hg hP hD hS => ?_)
    rw [set_end] at hP hD
    refine lv_aload hx hb dX2_grow_2_42 (lv_at hl 0 rfl) ?_
    exact W.aret (v := .ref q) (rt := .array .long) hx hb hr (Or.inr ⟨_, rfl⟩) (Or.inr ⟨_, rfl⟩) (fun t ht hW => ⟨⟨(N', g), q, rfl, ⟨hN1, hN3, hg⟩, by rw [ht]; exact q_Pr hP, q_Dr hD⟩, hS.F ht⟩) hS.2.2 dX2_grow_2_44
set_option maxHeartbeats 4000000 in
set_option maxRecDepth 100000 in
/-- grow(a, n + 1) -/
theorem m_grow (l : Launch) (D : va_G) (dJ : ClassId) (e0 a sz n : Nat) (f : Nat → Int64) (LP : List Nat) (hok : okq e0 a n LP) (hn : n < 200) : Met l yX2_grow (ws_ yX2_grow cX2_grow 2 (some (.array .long))) ({ frames := 2, cells := 1, slots := 300, locals := 64 } : Room) (va_Pc [.ref a, .int (nI (n + 1))] (cE D dJ e0 sz ([] ++ va_pl LP (fun _ => la dJ n f)))) (va_Qr (fun (u : Nat × (Nat → Int64)) => n + 1 ≤ u.1 ∧ u.1 ≤ 300 ∧ ∀ j, j < n → u.2 j = f j) (fun u r t => cB D (va_A ([] ++ va_pl LP (fun _ => la dJ n f)) sz) [(r, la dJ u.1 u.2)] t) (va_A ([] ++ va_pl LP (fun _ => la dJ n f)) sz)) 1 300 (va_A ([] ++ va_pl LP (fun _ => la dJ n f)) sz) := by
  refine Met.ofW (cc := cX2_grow) (maxL := 2) (ret := (some (.array .long))) (by decide) rfl ?_
  intro p e s m args below meth c s₁ B hml hv
  obtain ⟨rfl, ⟨hsz, hP, hK, hD0⟩, hE⟩ := hv
  have hx := B.exec
  have hb := B.bytes
  have hr := B.returns
  have hts := atoms_spec (ws := (ws_ yX2_grow cX2_grow 2 (some (.array .long)))) B.pre
  have hts : ∀ w ∈ lw_all, w.before _ s = true := fun w h => hts w (List.mem_cons_of_mem _ h)
  have hown : s.vm.findClass RX2 = some m.cls := findClass_of_methodNamed B.named
  have hlocks := B.notSynchronized
  subst hsz
  have hD := hD0.self (sz := s.heap.size)
  generalize hAe : va_A ([] ++ va_pl LP (fun _ => la dJ n f)) s.heap.size = A at hD hE ⊢
  have hA : ∀ q : Nat, s.heap.size ≤ q → A q := fun q h => by rw [← hAe]; exact Or.inr h
  obtain ⟨H, hHe⟩ : ∃ H : Heap, H = s.heap := ⟨_, rfl⟩
  rw [← hHe]
  have hS : va_S A s.heap H [] := by rw [hHe]; exact va_S.rf
  have hP : va_P D vwCl ([] ++ va_pl LP (fun _ => la dJ n f)) H := by rw [hHe]; exact hP
  have hl := lv_entry ([.ref a, .int (nI (n + 1))]) (n := 2) (Nat.le_of_ble_eq_true rfl)
  rw [lg_entry_eq]
  generalize (lg_sl ([.ref a, .int (nI (n + 1))]) ++ List.replicate (2 - (lg_sl ([.ref a, .int (nI (n + 1))])).length) Slot.unset).toArray = ls at hl ⊢
  have hl : lv_has ls 2 [(0, .ref a), (1, .int (nI (n + 1)))] := hl
  refine lv_aload_n hx hb dX2_grow_0 rfl (lv_at hl 0 rfl) ?_
  refine lv_iload_n hx hb dX2_grow_1 rfl (lv_at hl 1 rfl) ?_
  refine lv_aload_n hx hb dX2_grow_2 rfl (lv_at hl 0 rfl) ?_
  refine q_alen hx hb hK hP hE hS (okq_row [] hok) dX2_grow_3 ?_
  have hPc : va_P D vwCl (va_pl LP (fun _ => la dJ n f)) H := hP.part (cx := []) [] rfl
  have hDc : va_D A (va_pl LP (fun _ => la dJ n f)) := hD.part (cx := []) [] (by decide) rfl
  have hFc : ∀ q, va_A (va_pl LP (fun _ => la dJ n f)) H.size q → A q := va_freeP (cx := []) hD hS hA [] rfl
  refine va_callr (va_runS (As := [.ref a, .int (nI (n + 1)), .int (nI n)]) (rest := []) ⟨hx, hb, hml, hown, hts⟩ (m_grow3 l D dJ e0 a H.size n f LP hok hn) (va_cwS 3 hts (lw_S q67 q68 q5 q69) rfl rfl rfl (by decide +kernel) ⟨Nat.le_of_ble_eq_true rfl, Nat.le_of_ble_eq_true rfl⟩) (cE_S hK hPc hDc hE hS hFc) rfl rfl hl.1 rfl (lv_room (Nat.le_of_ble_eq_true rfl)) dX2_grow_4 ⟨Nat.le_of_ble_eq_true rfl, Nat.le_of_ble_eq_true rfl⟩) hS (fun q _ h => hFc q h) hFc (fun u r t H1 locs ht hvm hw hB hzz hk1 hS => ?_)
  obtain ⟨hP1, hD1⟩ := hB
  exact W.aret (v := .ref r) (rt := .array .long) hx hb hr (Or.inr ⟨_, rfl⟩) (Or.inr ⟨_, rfl⟩) (fun t2 ht2 hW => ⟨⟨u, r, rfl, hw, by rw [ht2, ← ht]; exact hP1, hD1.weaken (fun k q _ h => hFc q.1 h)⟩, hS.F ht2⟩) hS.2.2 dX2_grow_7
set_option maxHeartbeats 4000000 in
set_option maxRecDepth 100000 in
/-- trim(a, z): the same row, or one of z places, with the same first z places -/
theorem m_atrim (l : Launch) (D : va_G) (dJ : ClassId) (e0 a sz n z : Nat) (f : Nat → Int64) (LP : List Nat) (hok : okq e0 a n LP) (hn : n ≤ 300) (hz : z ≤ n) : Met l yX2_trim (ws_ yX2_trim cX2_trim 3 (some (.array .long))) ({ frames := 1, cells := 1, slots := 300, locals := 40 } : Room) (va_Pc [.ref a, .int (nI z)] (cE D dJ e0 sz ([] ++ va_pl LP (fun _ => la dJ n f)))) (va_Qr (fun (u : Nat × (Nat → Int64) × List Nat) => z ≤ u.1 ∧ u.1 ≤ 300 ∧ ∀ j, j < z → u.2.1 j = f j) (fun u r t => okq e0 r u.1 u.2.2 ∧ cB D (va_A ([] ++ va_pl LP (fun _ => la dJ n f)) sz) (va_pl u.2.2 (fun _ => la dJ u.1 u.2.1)) t) (va_A ([] ++ va_pl LP (fun _ => la dJ n f)) sz)) 1 300 (va_A ([] ++ va_pl LP (fun _ => la dJ n f)) sz) := by
  refine Met.ofW (cc := cX2_trim) (maxL := 3) (ret := (some (.array .long))) (by decide) rfl ?_
  intro p e s m args below meth c s₁ B hml hv
  obtain ⟨rfl, ⟨hsz, hP, hK, hD0⟩, hE⟩ := hv
  have hx := B.exec
  have hb := B.bytes
  have hr := B.returns
  have hts := atoms_spec (ws := (ws_ yX2_trim cX2_trim 3 (some (.array .long)))) B.pre
  have hts : ∀ w ∈ lw_all, w.before _ s = true := fun w h => hts w (List.mem_cons_of_mem _ h)
  have hown : s.vm.findClass RX2 = some m.cls := findClass_of_methodNamed B.named
  have hlocks := B.notSynchronized
  subst hsz
  have hD := hD0.self (sz := s.heap.size)
  generalize hAe : va_A ([] ++ va_pl LP (fun _ => la dJ n f)) s.heap.size = A at hD hE ⊢
  have hA : ∀ q : Nat, s.heap.size ≤ q → A q := fun q h => by rw [← hAe]; exact Or.inr h
  obtain ⟨H, hHe⟩ : ∃ H : Heap, H = s.heap := ⟨_, rfl⟩
  rw [← hHe]
  have hS : va_S A s.heap H [] := by rw [hHe]; exact va_S.rf
  have hP : va_P D vwCl ([] ++ va_pl LP (fun _ => la dJ n f)) H := by rw [hHe]; exact hP
  have hl := lv_entry ([.ref a, .int (nI z)]) (n := 3) (Nat.le_of_ble_eq_true rfl)
  rw [lg_entry_eq]
  generalize (lg_sl ([.ref a, .int (nI z)]) ++ List.replicate (3 - (lg_sl ([.ref a, .int (nI z)])).length) Slot.unset).toArray = ls at hl ⊢
  have hl : lv_has ls 3 [(0, .ref a), (1, .int (nI z))] := hl
  refine lv_iload_n hx hb dX2_trim_0 rfl (lv_at hl 1 rfl) ?_
  refine lv_aload_n hx hb dX2_trim_1 rfl (lv_at hl 0 rfl) ?_
  refine q_alen hx hb hK hP hE hS (okq_row [] hok) dX2_trim_2 ?_
  refine q_iclt hx hb (by omega) (by omega) (tgt := 8) dX2_trim_3 (by decide) (fun hc => ?_) (fun hc => ?_)
  · have hLP := okq_own hok (by omega)
    subst hLP
    have hP : va_P D vwCl [(a, la dJ n f)] H := hP
    have hD : va_D A [(a, la dJ n f)] := hD
    refine lv_iload_n hx hb dX2_trim_8 rfl (lv_at hl 1 rfl) ?_
    refine q_ifne hx hb (by omega) (tgt := 18) dX2_trim_9 (by decide) (fun hc => ?_) (fun hc => ?_)
    · refine lv_iload_n hx hb dX2_trim_18 rfl (lv_at hl 1 rfl) ?_
      refine q_newa hx hb (hts _ q43) hK hP hD hS hA (N := z) (by omega) (Nat.le_of_ble_eq_true rfl) (by show 0 + z ≤ 300; omega) dX2_trim_19 (fun q H hP hD hS => ?_)
      have hP : va_P D vwCl ([(a, la dJ n f), (q, la dJ z ((fun _ => 0)))]) H := hP
      have hD : va_D A ([(a, la dJ n f), (q, la dJ z ((fun _ => 0)))]) := hD
      refine W.widen (k := 1) (n := 300) (Nat.le_refl 1) (by omega) ?_
      refine lv_astore_n (lv' := [(2, .ref q), (0, .ref a), (1, .int (nI z))]) hx hb dX2_trim_21 rfl hl (by decide) rfl (fun ls hl => ?_)
      refine lv_aload_n hx hb dX2_trim_22 rfl (lv_at hl 1 rfl) ?_
      refine lv_iconst (v := 0) hx hb dX2_trim_23 (by decide) ?_
      refine lv_aload_n hx hb dX2_trim_24 rfl (lv_at hl 0 rfl) ?_
      refine lv_iconst (v := 0) hx hb dX2_trim_25 (by decide) ?_
      refine lv_iload_n hx hb dX2_trim_26 rfl (lv_at hl 2 rfl) ?_
      refine q_copy (k := z) hx hb (hml.trans hl.1.symm) hown (hts _ q77) (hts _ q79) (hts _ q78) (hts _ q8) hK hP hD hE hS (Or.inr ⟨0, rfl⟩) 1 rfl hz (Nat.le_refl z) (by omega) (Nat.le_of_ble_eq_true rfl) (Nat.le_of_ble_eq_true rfl) dX2_trim_27 (fun H locs g hg hP hD hS => ?_)
      have hP : va_P D vwCl ([(a, la dJ n f), (q, la dJ z g)]) H := hP
      have hD : va_D A ([(a, la dJ n f), (q, la dJ z g)]) := hD
      refine lv_aload_n hx hb dX2_trim_30 rfl (lv_at hl 0 rfl) ?_
      exact W.aret (v := .ref q) (rt := .array .long) hx hb hr (Or.inr ⟨_, rfl⟩) (Or.inr ⟨_, rfl⟩) (fun t ht hW => ⟨⟨(z, g, [q]), q, rfl, ⟨Nat.le_refl z, by omega, hg⟩, Or.inr rfl, by rw [ht]; exact hP.sub [1] rfl, hD.sub [1] (by decide) rfl⟩, hS.F ht⟩) hS.2.2 dX2_trim_31
    · subst hc
      refine va_gets hx hb hE.1 hS hown (hts _ q204) (fun _ h => h) dX2_trim_12 ?_
      refine lv_goto (tgt := 21) hx hb dX2_trim_15 (by decide) ?_
      refine lv_astore_n (lv' := [(2, .ref e0), (0, .ref a), (1, .int (nI 0))]) hx hb dX2_trim_21 rfl hl (by decide) rfl (fun ls hl => ?_)
      refine lv_aload_n hx hb dX2_trim_22 rfl (lv_at hl 1 rfl) ?_
      refine lv_iconst (v := 0) hx hb dX2_trim_23 (by decide) ?_
      refine lv_aload_n hx hb dX2_trim_24 rfl (lv_at hl 0 rfl) ?_
      refine lv_iconst (v := 0) hx hb dX2_trim_25 (by decide) ?_
      refine lv_iload_n hx hb dX2_trim_26 rfl (lv_at hl 2 rfl) ?_
      obtain ⟨ce, he1, he2, he3⟩ := q_cell hK hP hE hS (Or.inl ⟨rfl, rfl⟩ : qrow dJ e0 [(a, la dJ n f)] e0 0 f)
      refine q_copy0 hx hb (hml.trans hl.1.symm) hown (hts _ q77) (hts _ q79) (hts _ q78) (hts _ q8) (hP 0 _ rfl) he1 ((hK.2 0 _ rfl).1 n (fun j => .long (f j))) he2 (fun h => by cases h) he3 (Nat.le_of_ble_eq_true rfl) (Nat.le_of_ble_eq_true rfl) dX2_trim_27 ?_
      refine lv_aload_n hx hb dX2_trim_30 rfl (lv_at hl 0 rfl) ?_
      refine W.widen (k := 1) (n := 300) (Nat.zero_le _) (Nat.zero_le _) ?_
      exact W.aret (v := .ref e0) (rt := .array .long) hx hb hr (Or.inr ⟨_, rfl⟩) (Or.inr ⟨_, rfl⟩) (fun t ht hW => ⟨⟨(0, f, []), e0, rfl, ⟨Nat.le_refl 0, by omega, fun j _ => rfl⟩, Or.inl ⟨rfl, rfl, rfl⟩, by rw [ht]; exact hP.sub [] rfl, hD.sub [] (by decide) rfl⟩, hS.F ht⟩) hS.2.2 dX2_trim_31
  · refine lv_aload_n hx hb dX2_trim_6 rfl (lv_at hl 0 rfl) ?_
    refine W.widen (k := 1) (n := 300) (Nat.zero_le _) (Nat.zero_le _) ?_
    exact W.aret (v := .ref a) (rt := .array .long) hx hb hr (Or.inr ⟨_, rfl⟩) (Or.inr ⟨_, rfl⟩) (fun t ht hW => ⟨⟨(n, f, LP), a, rfl, ⟨hz, hn, fun j _ => rfl⟩, hok, by rw [ht]; exact hP, hD⟩, hS.F ht⟩) hS.2.2 dX2_trim_7
end
section
/-! LongHeapPriorityQueue: the queue at h: its row at a, z longs in it, no comparator; its row is the static empty one (LP = []) or its own (LP = [a]) -/
set_option maxHeartbeats 4000000 in
set_option maxRecDepth 100000 in
/-- LongHeapPriorityQueue(0, null) -/
theorem m_qinit2 (l : Launch) (D : va_G) (dJ : ClassId) (e0 h sz : Nat) : Met l yX1_init_2 (ws_ yX1_init_2 cX1_init_2 3 none) ({ frames := 1, cells := 0, slots := 0, locals := 12 } : Room) (va_Pc [.ref h, .int 0, .null] (cE D dJ e0 sz ([(h, .inr (1, [.null, .int 0, .null]))]))) (va_Qv (fun (_ : Unit) => True) (fun _ t => cB D (va_A ([(h, .inr (1, [.null, .int 0, .null]))]) sz) [(h, .inr (1, [.ref e0, .int 0, .null]))] t) (va_A ([(h, .inr (1, [.null, .int 0, .null]))]) sz)) 0 0 (va_A ([(h, .inr (1, [.null, .int 0, .null]))]) sz) := by
  refine Met.ofW (cc := cX1_init_2) (maxL := 3) (ret := none) (by decide) rfl ?_
  intro p e s m args below meth c s₁ B hml hv
  obtain ⟨rfl, ⟨hsz, hP, hK, hD0⟩, hE⟩ := hv
  have hx := B.exec
  have hb := B.bytes
  have hr := B.returns
  have hts := atoms_spec (ws := (ws_ yX1_init_2 cX1_init_2 3 none)) B.pre
  have hts : ∀ w ∈ lw_all, w.before _ s = true := fun w h => hts w (List.mem_cons_of_mem _ h)
  have hown : s.vm.findClass RX1 = some m.cls := findClass_of_methodNamed B.named
  have hlocks := B.notSynchronized
  have hin : meth.name = "<init>" := (name_of_methodNamed B.named B.method).1
  subst hsz
  have hD := hD0.self (sz := s.heap.size)
  generalize hAe : va_A ([(h, .inr (1, [.null, .int 0, .null]))]) s.heap.size = A at hD hE ⊢
  have hA : ∀ q : Nat, s.heap.size ≤ q → A q := fun q h => by rw [← hAe]; exact Or.inr h
  obtain ⟨H, hHe⟩ : ∃ H : Heap, H = s.heap := ⟨_, rfl⟩
  rw [← hHe]
  have hS : va_S A s.heap H [] := by rw [hHe]; exact va_S.rf
  have hP : va_P D vwCl ([(h, .inr (1, [.null, .int 0, .null]))]) H := by rw [hHe]; exact hP
  have hl := lv_entry ([.ref h, .int 0, .null]) (n := 3) (Nat.le_of_ble_eq_true rfl)
  rw [lg_entry_eq]
  generalize (lg_sl ([.ref h, .int 0, .null]) ++ List.replicate (3 - (lg_sl ([.ref h, .int 0, .null])).length) Slot.unset).toArray = ls at hl ⊢
  have hl : lv_has ls 3 [(0, .ref h), (1, .int 0), (2, .null)] := hl
  refine lv_aload_n hx hb dX1_init_2_0 rfl (lv_at hl 0 rfl) ?_
  refine W.objInit hx hb hown (hts _ q30) (hts _ q20) (hts _ q21) rfl (by rw [hml]; exact hl.1) rfl dX1_init_2_1 (Nat.le_of_ble_eq_true rfl) (Nat.le_of_ble_eq_true rfl) ?_
  refine W.eq (g2 := F0 m 4 ls []) rfl ?_
  refine lv_aload_n hx hb dX1_init_2_4 rfl (lv_at hl 0 rfl) ?_
  refine va_gets hx hb hE.1 hS hown (hts _ q31) (fun _ h => h) dX1_init_2_5 ?_
  refine va_put (D := D) (ci := 1) (v := .ref e0) (ty := .array .long) (C := RX1) (T := TX1) (N := 3) hx hb hts in_X1 tyX1 tyX1_ok nmX1 hown hK hP hD hS 0 rfl rfl 0 (by decide) (hts _ q33) (fun _ h9 => h9) rfl (by decide +kernel) rfl rfl (Nat.le_of_ble_eq_true rfl) dX1_init_2_8 (fun H locs hP hD hS => ?_)
  have hP : va_P D vwCl ([(h, .inr (1, [.ref e0, .int 0, .null]))]) H := hP
  have hD : va_D A ([(h, .inr (1, [.ref e0, .int 0, .null]))]) := hD
  refine lv_iload_n hx hb dX1_init_2_11 rfl (lv_at hl 1 rfl) ?_
  refine q_ifle hx hb (x := 0) (by decide) (tgt := 22) dX1_init_2_12 (by decide) (fun hc => ?_) (fun hc => ?_)
  · refine lv_aload_n hx hb dX1_init_2_22 rfl (lv_at hl 0 rfl) ?_
    refine lv_aload_nN hx hb dX1_init_2_23 rfl (lv_at hl 2 rfl) ?_
    refine va_put (D := D) (ci := 1) (v := .null) (ty := .object "LongComparator") (C := RX1) (T := TX1) (N := 3) hx hb hts in_X1 tyX1 tyX1_ok nmX1 hown hK hP hD hS 0 rfl rfl 2 (by decide) (hts _ q35) (fun _ h9 => h9) rfl (by decide +kernel) rfl rfl (Nat.le_of_ble_eq_true rfl) dX1_init_2_24 (fun H locs hP hD hS => ?_)
    have hP : va_P D vwCl ([(h, .inr (1, [.ref e0, .int 0, .null]))]) H := hP
    have hD : va_D A ([(h, .inr (1, [.ref e0, .int 0, .null]))]) := hD
    exact W.vret hx hb hr (fun t ht hW => ⟨⟨(), rfl, trivial, by rw [ht]; exact hP, hD⟩, hS.F ht⟩) hS.2.2 dX1_init_2_27
  · exact absurd hc (Nat.lt_irrefl 0)
set_option maxHeartbeats 4000000 in
set_option maxRecDepth 100000 in
/-- LongHeapPriorityQueue(null) -/
theorem m_qinit6 (l : Launch) (D : va_G) (dJ : ClassId) (e0 h sz : Nat) : Met l yX1_init_6 (ws_ yX1_init_6 cX1_init_6 2 none) ({ frames := 2, cells := 0, slots := 0, locals := 34 } : Room) (va_Pc [.ref h, .null] (cE D dJ e0 sz ([(h, .inr (1, [.null, .int 0, .null]))]))) (va_Qv (fun (_ : Unit) => True) (fun _ t => cB D (va_A ([(h, .inr (1, [.null, .int 0, .null]))]) sz) [(h, .inr (1, [.ref e0, .int 0, .null]))] t) (va_A ([(h, .inr (1, [.null, .int 0, .null]))]) sz)) 0 0 (va_A ([(h, .inr (1, [.null, .int 0, .null]))]) sz) := by
  refine Met.ofW (cc := cX1_init_6) (maxL := 2) (ret := none) (by decide) rfl ?_
  intro p e s m args below meth c s₁ B hml hv
  obtain ⟨rfl, ⟨hsz, hP, hK, hD0⟩, hE⟩ := hv
  have hx := B.exec
  have hb := B.bytes
  have hr := B.returns
  have hts := atoms_spec (ws := (ws_ yX1_init_6 cX1_init_6 2 none)) B.pre
  have hts : ∀ w ∈ lw_all, w.before _ s = true := fun w h => hts w (List.mem_cons_of_mem _ h)
  have hown : s.vm.findClass RX1 = some m.cls := findClass_of_methodNamed B.named
  have hlocks := B.notSynchronized
  have hin : meth.name = "<init>" := (name_of_methodNamed B.named B.method).1
  subst hsz
  have hD := hD0.self (sz := s.heap.size)
  generalize hAe : va_A ([(h, .inr (1, [.null, .int 0, .null]))]) s.heap.size = A at hD hE ⊢
  have hA : ∀ q : Nat, s.heap.size ≤ q → A q := fun q h => by rw [← hAe]; exact Or.inr h
  obtain ⟨H, hHe⟩ : ∃ H : Heap, H = s.heap := ⟨_, rfl⟩
  rw [← hHe]
  have hS : va_S A s.heap H [] := by rw [hHe]; exact va_S.rf
  have hP : va_P D vwCl ([(h, .inr (1, [.null, .int 0, .null]))]) H := by rw [hHe]; exact hP
  have hl := lv_entry ([.ref h, .null]) (n := 2) (Nat.le_of_ble_eq_true rfl)
  rw [lg_entry_eq]
  generalize (lg_sl ([.ref h, .null]) ++ List.replicate (2 - (lg_sl ([.ref h, .null])).length) Slot.unset).toArray = ls at hl ⊢
  have hl : lv_has ls 2 [(0, .ref h), (1, .null)] := hl
  refine lv_aload_n hx hb dX1_init_6_0 rfl (lv_at hl 0 rfl) ?_
  refine lv_iconst (v := 0) hx hb dX1_init_6_1 (by decide) ?_
  refine lv_aload_nN hx hb dX1_init_6_2 rfl (lv_at hl 1 rfl) ?_
  have hPc := hP.sub (ws' := [(h, .inr (1, [.null, .int 0, .null]))]) [0] rfl
  have hDc := hD.sub (ws' := [(h, .inr (1, [.null, .int 0, .null]))]) [0] (by decide) rfl
  have hFc := va_free (wc := [(h, .inr (1, [.null, .int 0, .null]))]) hD hS hA [0] rfl
  refine va_callv (va_runI (As := [.int 0, .null]) (rest := []) ⟨hx, hb, hml, hown, hts⟩ (m_qinit2 l D dJ e0 h H.size) (cwI 2 hts (lw_meth q29) rfl rfl rfl (hts _ q4) (hts _ q27) (hts _ q28) rfl (by decide +kernel) ⟨Nat.le_of_ble_eq_true rfl, Nat.le_of_ble_eq_true rfl⟩) (cE_S hK hPc hDc hE hS hFc) rfl rfl hl.1 rfl (lv_room (Nat.le_of_ble_eq_true rfl)) dX1_init_6_3 ⟨Nat.le_of_ble_eq_true rfl, Nat.le_of_ble_eq_true rfl⟩) hS (fun q _ h => hFc q h) hFc (fun u t H1 locs ht hvm hw hB hzz hk1 hS => ?_)
  obtain ⟨hP1, hD1⟩ := hB
  rw [ht] at hP1
  obtain ⟨hP, hD⟩ := va_join (wr := []) (w1 := [(h, .inr (1, [.ref e0, .int 0, .null]))]) hP hD [0] [] rfl rfl (by decide) (by decide) hk1 hFc hP1 hD1
  generalize H1 = H at hP hS ⊢
  have hP : va_P D vwCl ([(h, .inr (1, [.ref e0, .int 0, .null]))]) H := hP
  have hD : va_D A ([(h, .inr (1, [.ref e0, .int 0, .null]))]) := hD
  exact W.vret hx hb hr (fun t ht hW => ⟨⟨(), rfl, trivial, by rw [ht]; exact hP, hD⟩, hS.F ht⟩) hS.2.2 dX1_init_6_6
set_option maxHeartbeats 4000000 in
set_option maxRecDepth 100000 in
/-- LongHeapPriorityQueue() -/
theorem m_qinit (l : Launch) (D : va_G) (dJ : ClassId) (e0 h sz : Nat) : Met l yX1_init (ws_ yX1_init cX1_init 1 none) ({ frames := 2, cells := 0, slots := 0, locals := 34 } : Room) (va_Pc [.ref h] (cE D dJ e0 sz ([(h, .inr (1, [.null, .int 0, .null]))]))) (va_Qv (fun (_ : Unit) => True) (fun _ t => cB D (va_A ([(h, .inr (1, [.null, .int 0, .null]))]) sz) [(h, .inr (1, [.ref e0, .int 0, .null]))] t) (va_A ([(h, .inr (1, [.null, .int 0, .null]))]) sz)) 0 0 (va_A ([(h, .inr (1, [.null, .int 0, .null]))]) sz) := by
  refine Met.ofW (cc := cX1_init) (maxL := 1) (ret := none) (by decide) rfl ?_
  intro p e s m args below meth c s₁ B hml hv
  obtain ⟨rfl, ⟨hsz, hP, hK, hD0⟩, hE⟩ := hv
  have hx := B.exec
  have hb := B.bytes
  have hr := B.returns
  have hts := atoms_spec (ws := (ws_ yX1_init cX1_init 1 none)) B.pre
  have hts : ∀ w ∈ lw_all, w.before _ s = true := fun w h => hts w (List.mem_cons_of_mem _ h)
  have hown : s.vm.findClass RX1 = some m.cls := findClass_of_methodNamed B.named
  have hlocks := B.notSynchronized
  have hin : meth.name = "<init>" := (name_of_methodNamed B.named B.method).1
  subst hsz
  have hD := hD0.self (sz := s.heap.size)
  generalize hAe : va_A ([(h, .inr (1, [.null, .int 0, .null]))]) s.heap.size = A at hD hE ⊢
  have hA : ∀ q : Nat, s.heap.size ≤ q → A q := fun q h => by rw [← hAe]; exact Or.inr h
  obtain ⟨H, hHe⟩ : ∃ H : Heap, H = s.heap := ⟨_, rfl⟩
  rw [← hHe]
  have hS : va_S A s.heap H [] := by rw [hHe]; exact va_S.rf
  have hP : va_P D vwCl ([(h, .inr (1, [.null, .int 0, .null]))]) H := by rw [hHe]; exact hP
  have hl := lv_entry ([.ref h]) (n := 1) (Nat.le_of_ble_eq_true rfl)
  rw [lg_entry_eq]
  generalize (lg_sl ([.ref h]) ++ List.replicate (1 - (lg_sl ([.ref h])).length) Slot.unset).toArray = ls at hl ⊢
  have hl : lv_has ls 1 [(0, .ref h)] := hl
  refine lv_aload_n hx hb dX1_init_0 rfl (lv_at hl 0 rfl) ?_
  refine lv_iconst (v := 0) hx hb dX1_init_1 (by decide) ?_
  refine lv_null hx hb dX1_init_2 ?_
  have hPc := hP.sub (ws' := [(h, .inr (1, [.null, .int 0, .null]))]) [0] rfl
  have hDc := hD.sub (ws' := [(h, .inr (1, [.null, .int 0, .null]))]) [0] (by decide) rfl
  have hFc := va_free (wc := [(h, .inr (1, [.null, .int 0, .null]))]) hD hS hA [0] rfl
  refine va_callv (va_runI (As := [.int 0, .null]) (rest := []) ⟨hx, hb, hml, hown, hts⟩ (m_qinit2 l D dJ e0 h H.size) (cwI 2 hts (lw_meth q29) rfl rfl rfl (hts _ q4) (hts _ q27) (hts _ q28) rfl (by decide +kernel) ⟨Nat.le_of_ble_eq_true rfl, Nat.le_of_ble_eq_true rfl⟩) (cE_S hK hPc hDc hE hS hFc) rfl rfl hl.1 rfl (lv_room (Nat.le_of_ble_eq_true rfl)) dX1_init_3 ⟨Nat.le_of_ble_eq_true rfl, Nat.le_of_ble_eq_true rfl⟩) hS (fun q _ h => hFc q h) hFc (fun u t H1 locs ht hvm hw hB hzz hk1 hS => ?_)
  obtain ⟨hP1, hD1⟩ := hB
  rw [ht] at hP1
  obtain ⟨hP, hD⟩ := va_join (wr := []) (w1 := [(h, .inr (1, [.ref e0, .int 0, .null]))]) hP hD [0] [] rfl rfl (by decide) (by decide) hk1 hFc hP1 hD1
  generalize H1 = H at hP hS ⊢
  have hP : va_P D vwCl ([(h, .inr (1, [.ref e0, .int 0, .null]))]) H := hP
  have hD : va_D A ([(h, .inr (1, [.ref e0, .int 0, .null]))]) := hD
  exact W.vret hx hb hr (fun t ht hW => ⟨⟨(), rfl, trivial, by rw [ht]; exact hP, hD⟩, hS.F ht⟩) hS.2.2 dX1_init_6
set_option maxHeartbeats 4000000 in
set_option maxRecDepth 100000 in
/-- LongHeapPriorityQueue(a, a.length, null) -/
theorem m_qinit5 (l : Launch) (D : va_G) (dJ : ClassId) (e0 h a sz n : Nat) (f : Nat → Int64) (hn : n ≤ 300) : Met l yX1_init_5 (ws_ yX1_init_5 cX1_init_5 4 none) ({ frames := 3, cells := 0, slots := 0, locals := 55 } : Room) (va_Pc [.ref h, .ref a, .int (nI n), .null] (cE D dJ e0 sz ([(h, .inr (1, [.null, .int 0, .null])), (a, la dJ n f)]))) (va_Qv (fun (u : Nat → Int64) => hp 0 u n ∧ (ab u n).Perm (ab f n)) (fun u t => cB D (va_A ([(h, .inr (1, [.null, .int 0, .null])), (a, la dJ n f)]) sz) [(h, .inr (1, [.ref a, .int (nI n), .null])), (a, la dJ n u)] t) (va_A ([(h, .inr (1, [.null, .int 0, .null])), (a, la dJ n f)]) sz)) 0 0 (va_A ([(h, .inr (1, [.null, .int 0, .null])), (a, la dJ n f)]) sz) := by
  refine Met.ofW (cc := cX1_init_5) (maxL := 4) (ret := none) (by decide) rfl ?_
  intro p e s m args below meth c s₁ B hml hv
  obtain ⟨rfl, ⟨hsz, hP, hK, hD0⟩, hE⟩ := hv
  have hx := B.exec
  have hb := B.bytes
  have hr := B.returns
  have hts := atoms_spec (ws := (ws_ yX1_init_5 cX1_init_5 4 none)) B.pre
  have hts : ∀ w ∈ lw_all, w.before _ s = true := fun w h => hts w (List.mem_cons_of_mem _ h)
  have hown : s.vm.findClass RX1 = some m.cls := findClass_of_methodNamed B.named
  have hlocks := B.notSynchronized
  have hin : meth.name = "<init>" := (name_of_methodNamed B.named B.method).1
  subst hsz
  have hD := hD0.self (sz := s.heap.size)
  generalize hAe : va_A ([(h, .inr (1, [.null, .int 0, .null])), (a, la dJ n f)]) s.heap.size = A at hD hE ⊢
  have hA : ∀ q : Nat, s.heap.size ≤ q → A q := fun q h => by rw [← hAe]; exact Or.inr h
  obtain ⟨H, hHe⟩ : ∃ H : Heap, H = s.heap := ⟨_, rfl⟩
  rw [← hHe]
  have hS : va_S A s.heap H [] := by rw [hHe]; exact va_S.rf
  have hP : va_P D vwCl ([(h, .inr (1, [.null, .int 0, .null])), (a, la dJ n f)]) H := by rw [hHe]; exact hP
  have hl := lv_entry ([.ref h, .ref a, .int (nI n), .null]) (n := 4) (Nat.le_of_ble_eq_true rfl)
  rw [lg_entry_eq]
  generalize (lg_sl ([.ref h, .ref a, .int (nI n), .null]) ++ List.replicate (4 - (lg_sl ([.ref h, .ref a, .int (nI n), .null])).length) Slot.unset).toArray = ls at hl ⊢
  have hl : lv_has ls 4 [(0, .ref h), (1, .ref a), (2, .int (nI n)), (3, .null)] := hl
  refine lv_aload_n hx hb dX1_init_5_0 rfl (lv_at hl 0 rfl) ?_
  refine lv_aload_nN hx hb dX1_init_5_1 rfl (lv_at hl 3 rfl) ?_
  have hPc := hP.sub (ws' := [(h, .inr (1, [.null, .int 0, .null]))]) [0] rfl
  have hDc := hD.sub (ws' := [(h, .inr (1, [.null, .int 0, .null]))]) [0] (by decide) rfl
  have hFc := va_free (wc := [(h, .inr (1, [.null, .int 0, .null]))]) hD hS hA [0] rfl
  refine va_callv (va_runI (As := [.null]) (rest := []) ⟨hx, hb, hml, hown, hts⟩ (m_qinit6 l D dJ e0 h H.size) (cwI 1 hts (lw_meth q99) rfl rfl rfl (hts _ q4) (hts _ q97) (hts _ q98) rfl (by decide +kernel) ⟨Nat.le_of_ble_eq_true rfl, Nat.le_of_ble_eq_true rfl⟩) (cE_S hK hPc hDc hE hS hFc) rfl rfl hl.1 rfl (lv_room (Nat.le_of_ble_eq_true rfl)) dX1_init_5_2 ⟨Nat.le_of_ble_eq_true rfl, Nat.le_of_ble_eq_true rfl⟩) hS (fun q _ h => hFc q h) hFc (fun u t H1 locs ht hvm hw hB hzz hk1 hS => ?_)
  obtain ⟨hP1, hD1⟩ := hB
  rw [ht] at hP1
  obtain ⟨hP, hD⟩ := va_join (wr := [(a, la dJ n f)]) (w1 := [(h, .inr (1, [.ref e0, .int 0, .null]))]) hP hD [0] [1] rfl rfl (by decide) (by decide) hk1 hFc hP1 hD1
  generalize H1 = H at hP hS ⊢
  have hP : va_P D vwCl ([(a, la dJ n f), (h, .inr (1, [.ref e0, .int 0, .null]))]) H := hP
  have hD : va_D A ([(a, la dJ n f), (h, .inr (1, [.ref e0, .int 0, .null]))]) := hD
  refine lv_aload_n hx hb dX1_init_5_5 rfl (lv_at hl 0 rfl) ?_
  refine lv_aload_n hx hb dX1_init_5_6 rfl (lv_at hl 1 rfl) ?_
  refine va_put (D := D) (ci := 1) (v := .ref a) (ty := .array .long) (C := RX1) (T := TX1) (N := 3) hx hb hts in_X1 tyX1 tyX1_ok nmX1 hown hK hP hD hS 1 rfl rfl 0 (by decide) (hts _ q33) (fun _ h9 => h9) rfl (by decide +kernel) rfl rfl (Nat.le_of_ble_eq_true rfl) dX1_init_5_7 (fun H locs hP hD hS => ?_)
  have hP : va_P D vwCl ([(a, la dJ n f), (h, .inr (1, [.ref a, .int 0, .null]))]) H := hP
  have hD : va_D A ([(a, la dJ n f), (h, .inr (1, [.ref a, .int 0, .null]))]) := hD
  refine lv_aload_n hx hb dX1_init_5_10 rfl (lv_at hl 0 rfl) ?_
  refine lv_iload_n hx hb dX1_init_5_11 rfl (lv_at hl 2 rfl) ?_
  refine va_put (D := D) (ci := 1) (v := .int (nI n)) (ty := .int) (C := RX1) (T := TX1) (N := 3) hx hb hts in_X1 tyX1 tyX1_ok nmX1 hown hK hP hD hS 1 rfl rfl 1 (by decide) (hts _ q34) (fun _ h9 => h9) rfl (by decide +kernel) rfl rfl (Nat.le_of_ble_eq_true rfl) dX1_init_5_12 (fun H locs hP hD hS => ?_)
  have hP : va_P D vwCl ([(a, la dJ n f), (h, .inr (1, [.ref a, .int (nI n), .null]))]) H := hP
  have hD : va_D A ([(a, la dJ n f), (h, .inr (1, [.ref a, .int (nI n), .null]))]) := hD
  refine lv_aload_n hx hb dX1_init_5_15 rfl (lv_at hl 1 rfl) ?_
  refine lv_iload_n hx hb dX1_init_5_16 rfl (lv_at hl 2 rfl) ?_
  refine lv_aload_nN hx hb dX1_init_5_17 rfl (lv_at hl 3 rfl) ?_
  have hPc := hP.sub (ws' := [(a, la dJ n f)]) [0] rfl
  have hDc := hD.sub (ws' := [(a, la dJ n f)]) [0] (by decide) rfl
  have hFc := va_free (wc := [(a, la dJ n f)]) hD hS hA [0] rfl
  refine va_callv (va_runS (As := [.ref a, .int (nI n), .null]) (rest := []) ⟨hx, hb, hml, hown, hts⟩ (m_makeHeap l D dJ a H.size n n f (by omega) (Nat.le_refl n)) (va_cwS 3 hts (lw_S q100 q101 q9 q102) rfl rfl rfl (by decide +kernel) ⟨Nat.le_of_ble_eq_true rfl, Nat.le_of_ble_eq_true rfl⟩) (cP_S hK hPc hDc) rfl rfl hl.1 rfl (lv_room (Nat.le_of_ble_eq_true rfl)) dX1_init_5_18 ⟨Nat.le_of_ble_eq_true rfl, Nat.le_of_ble_eq_true rfl⟩) hS (fun q _ h => hFc q h) hFc (fun u t H1 locs ht hvm hw hB hzz hk1 hS => ?_)
  obtain ⟨hP1, hD1⟩ := hB
  rw [ht] at hP1
  obtain ⟨hP, hD⟩ := va_join (wr := [(h, .inr (1, [.ref a, .int (nI n), .null]))]) (w1 := [(a, la dJ n u)]) hP hD [0] [1] rfl rfl (by decide) (by decide) hk1 hFc hP1 hD1
  generalize H1 = H at hP hS ⊢
  have hP : va_P D vwCl ([(h, .inr (1, [.ref a, .int (nI n), .null])), (a, la dJ n u)]) H := hP
  have hD : va_D A ([(h, .inr (1, [.ref a, .int (nI n), .null])), (a, la dJ n u)]) := hD
  exact W.vret hx hb hr (fun t ht hW => ⟨⟨u, rfl, hw, by rw [ht]; exact hP, hD⟩, hS.F ht⟩) hS.2.2 dX1_init_5_21
set_option maxHeartbeats 4000000 in
set_option maxRecDepth 100000 in
/-- LongHeapPriorityQueue(a, a.length) -/
theorem m_qinit4 (l : Launch) (D : va_G) (dJ : ClassId) (e0 h a sz n : Nat) (f : Nat → Int64) (hn : n ≤ 300) : Met l yX1_init_4 (ws_ yX1_init_4 cX1_init_4 3 none) ({ frames := 4, cells := 0, slots := 0, locals := 78 } : Room) (va_Pc [.ref h, .ref a, .int (nI n)] (cE D dJ e0 sz ([(h, .inr (1, [.null, .int 0, .null])), (a, la dJ n f)]))) (va_Qv (fun (u : Nat → Int64) => hp 0 u n ∧ (ab u n).Perm (ab f n)) (fun u t => cB D (va_A ([(h, .inr (1, [.null, .int 0, .null])), (a, la dJ n f)]) sz) [(h, .inr (1, [.ref a, .int (nI n), .null])), (a, la dJ n u)] t) (va_A ([(h, .inr (1, [.null, .int 0, .null])), (a, la dJ n f)]) sz)) 0 0 (va_A ([(h, .inr (1, [.null, .int 0, .null])), (a, la dJ n f)]) sz) := by
  refine Met.ofW (cc := cX1_init_4) (maxL := 3) (ret := none) (by decide) rfl ?_
  intro p e s m args below meth c s₁ B hml hv
  obtain ⟨rfl, ⟨hsz, hP, hK, hD0⟩, hE⟩ := hv
  have hx := B.exec
  have hb := B.bytes
  have hr := B.returns
  have hts := atoms_spec (ws := (ws_ yX1_init_4 cX1_init_4 3 none)) B.pre
  have hts : ∀ w ∈ lw_all, w.before _ s = true := fun w h => hts w (List.mem_cons_of_mem _ h)
  have hown : s.vm.findClass RX1 = some m.cls := findClass_of_methodNamed B.named
  have hlocks := B.notSynchronized
  have hin : meth.name = "<init>" := (name_of_methodNamed B.named B.method).1
  subst hsz
  have hD := hD0.self (sz := s.heap.size)
  generalize hAe : va_A ([(h, .inr (1, [.null, .int 0, .null])), (a, la dJ n f)]) s.heap.size = A at hD hE ⊢
  have hA : ∀ q : Nat, s.heap.size ≤ q → A q := fun q h => by rw [← hAe]; exact Or.inr h
  obtain ⟨H, hHe⟩ : ∃ H : Heap, H = s.heap := ⟨_, rfl⟩
  rw [← hHe]
  have hS : va_S A s.heap H [] := by rw [hHe]; exact va_S.rf
  have hP : va_P D vwCl ([(h, .inr (1, [.null, .int 0, .null])), (a, la dJ n f)]) H := by rw [hHe]; exact hP
  have hl := lv_entry ([.ref h, .ref a, .int (nI n)]) (n := 3) (Nat.le_of_ble_eq_true rfl)
  rw [lg_entry_eq]
  generalize (lg_sl ([.ref h, .ref a, .int (nI n)]) ++ List.replicate (3 - (lg_sl ([.ref h, .ref a, .int (nI n)])).length) Slot.unset).toArray = ls at hl ⊢
  have hl : lv_has ls 3 [(0, .ref h), (1, .ref a), (2, .int (nI n))] := hl
  refine lv_aload_n hx hb dX1_init_4_0 rfl (lv_at hl 0 rfl) ?_
  refine lv_aload_n hx hb dX1_init_4_1 rfl (lv_at hl 1 rfl) ?_
  refine lv_iload_n hx hb dX1_init_4_2 rfl (lv_at hl 2 rfl) ?_
  refine lv_null hx hb dX1_init_4_3 ?_
  have hPc := hP.sub (ws' := [(h, .inr (1, [.null, .int 0, .null])), (a, la dJ n f)]) [0, 1] rfl
  have hDc := hD.sub (ws' := [(h, .inr (1, [.null, .int 0, .null])), (a, la dJ n f)]) [0, 1] (by decide) rfl
  have hFc := va_free (wc := [(h, .inr (1, [.null, .int 0, .null])), (a, la dJ n f)]) hD hS hA [0, 1] rfl
  refine va_callv (va_runI (As := [.ref a, .int (nI n), .null]) (rest := []) ⟨hx, hb, hml, hown, hts⟩ (m_qinit5 l D dJ e0 h a H.size n f hn) (cwI 3 hts (lw_meth q96) rfl rfl rfl (hts _ q4) (hts _ q94) (hts _ q95) rfl (by decide +kernel) ⟨Nat.le_of_ble_eq_true rfl, Nat.le_of_ble_eq_true rfl⟩) (cE_S hK hPc hDc hE hS hFc) rfl rfl hl.1 rfl (lv_room (Nat.le_of_ble_eq_true rfl)) dX1_init_4_4 ⟨Nat.le_of_ble_eq_true rfl, Nat.le_of_ble_eq_true rfl⟩) hS (fun q _ h => hFc q h) hFc (fun u t H1 locs ht hvm hw hB hzz hk1 hS => ?_)
  obtain ⟨hP1, hD1⟩ := hB
  rw [ht] at hP1
  obtain ⟨hP, hD⟩ := va_join (wr := []) (w1 := [(h, .inr (1, [.ref a, .int (nI n), .null])), (a, la dJ n u)]) hP hD [0, 1] [] rfl rfl (by decide) (by decide) hk1 hFc hP1 hD1
  generalize H1 = H at hP hS ⊢
  have hP : va_P D vwCl ([(h, .inr (1, [.ref a, .int (nI n), .null])), (a, la dJ n u)]) H := hP
  have hD : va_D A ([(h, .inr (1, [.ref a, .int (nI n), .null])), (a, la dJ n u)]) := hD
  exact W.vret hx hb hr (fun t ht hW => ⟨⟨u, rfl, hw, by rw [ht]; exact hP, hD⟩, hS.F ht⟩) hS.2.2 dX1_init_4_7
set_option maxHeartbeats 4000000 in
set_option maxRecDepth 100000 in
/-- LongHeapPriorityQueue(a) -/
theorem m_qinit3 (l : Launch) (D : va_G) (dJ : ClassId) (e0 h a sz n : Nat) (f : Nat → Int64) (hn : n ≤ 300) : Met l yX1_init_3 (ws_ yX1_init_3 cX1_init_3 2 none) ({ frames := 5, cells := 0, slots := 0, locals := 100 } : Room) (va_Pc [.ref h, .ref a] (cE D dJ e0 sz ([(h, .inr (1, [.null, .int 0, .null])), (a, la dJ n f)]))) (va_Qv (fun (u : Nat → Int64) => hp 0 u n ∧ (ab u n).Perm (ab f n)) (fun u t => cB D (va_A ([(h, .inr (1, [.null, .int 0, .null])), (a, la dJ n f)]) sz) [(h, .inr (1, [.ref a, .int (nI n), .null])), (a, la dJ n u)] t) (va_A ([(h, .inr (1, [.null, .int 0, .null])), (a, la dJ n f)]) sz)) 0 0 (va_A ([(h, .inr (1, [.null, .int 0, .null])), (a, la dJ n f)]) sz) := by
  refine Met.ofW (cc := cX1_init_3) (maxL := 2) (ret := none) (by decide) rfl ?_
  intro p e s m args below meth c s₁ B hml hv
  obtain ⟨rfl, ⟨hsz, hP, hK, hD0⟩, hE⟩ := hv
  have hx := B.exec
  have hb := B.bytes
  have hr := B.returns
  have hts := atoms_spec (ws := (ws_ yX1_init_3 cX1_init_3 2 none)) B.pre
  have hts : ∀ w ∈ lw_all, w.before _ s = true := fun w h => hts w (List.mem_cons_of_mem _ h)
  have hown : s.vm.findClass RX1 = some m.cls := findClass_of_methodNamed B.named
  have hlocks := B.notSynchronized
  have hin : meth.name = "<init>" := (name_of_methodNamed B.named B.method).1
  subst hsz
  have hD := hD0.self (sz := s.heap.size)
  generalize hAe : va_A ([(h, .inr (1, [.null, .int 0, .null])), (a, la dJ n f)]) s.heap.size = A at hD hE ⊢
  have hA : ∀ q : Nat, s.heap.size ≤ q → A q := fun q h => by rw [← hAe]; exact Or.inr h
  obtain ⟨H, hHe⟩ : ∃ H : Heap, H = s.heap := ⟨_, rfl⟩
  rw [← hHe]
  have hS : va_S A s.heap H [] := by rw [hHe]; exact va_S.rf
  have hP : va_P D vwCl ([(h, .inr (1, [.null, .int 0, .null])), (a, la dJ n f)]) H := by rw [hHe]; exact hP
  have hl := lv_entry ([.ref h, .ref a]) (n := 2) (Nat.le_of_ble_eq_true rfl)
  rw [lg_entry_eq]
  generalize (lg_sl ([.ref h, .ref a]) ++ List.replicate (2 - (lg_sl ([.ref h, .ref a])).length) Slot.unset).toArray = ls at hl ⊢
  have hl : lv_has ls 2 [(0, .ref h), (1, .ref a)] := hl
  refine lv_aload_n hx hb dX1_init_3_0 rfl (lv_at hl 0 rfl) ?_
  refine lv_aload_n hx hb dX1_init_3_1 rfl (lv_at hl 1 rfl) ?_
  refine lv_aload_n hx hb dX1_init_3_2 rfl (lv_at hl 1 rfl) ?_
  refine va_alen (v := nI n) hx hb hK hP 1 0 rfl rfl rfl dX1_init_3_3 ?_
  have hPc := hP.sub (ws' := [(h, .inr (1, [.null, .int 0, .null])), (a, la dJ n f)]) [0, 1] rfl
  have hDc := hD.sub (ws' := [(h, .inr (1, [.null, .int 0, .null])), (a, la dJ n f)]) [0, 1] (by decide) rfl
  have hFc := va_free (wc := [(h, .inr (1, [.null, .int 0, .null])), (a, la dJ n f)]) hD hS hA [0, 1] rfl
  refine va_callv (va_runI (As := [.ref a, .int (nI n)]) (rest := []) ⟨hx, hb, hml, hown, hts⟩ (m_qinit4 l D dJ e0 h a H.size n f hn) (cwI 2 hts (lw_meth q93) rfl rfl rfl (hts _ q4) (hts _ q91) (hts _ q92) rfl (by decide +kernel) ⟨Nat.le_of_ble_eq_true rfl, Nat.le_of_ble_eq_true rfl⟩) (cE_S hK hPc hDc hE hS hFc) rfl rfl hl.1 rfl (lv_room (Nat.le_of_ble_eq_true rfl)) dX1_init_3_4 ⟨Nat.le_of_ble_eq_true rfl, Nat.le_of_ble_eq_true rfl⟩) hS (fun q _ h => hFc q h) hFc (fun u t H1 locs ht hvm hw hB hzz hk1 hS => ?_)
  obtain ⟨hP1, hD1⟩ := hB
  rw [ht] at hP1
  obtain ⟨hP, hD⟩ := va_join (wr := []) (w1 := [(h, .inr (1, [.ref a, .int (nI n), .null])), (a, la dJ n u)]) hP hD [0, 1] [] rfl rfl (by decide) (by decide) hk1 hFc hP1 hD1
  generalize H1 = H at hP hS ⊢
  have hP : va_P D vwCl ([(h, .inr (1, [.ref a, .int (nI n), .null])), (a, la dJ n u)]) H := hP
  have hD : va_D A ([(h, .inr (1, [.ref a, .int (nI n), .null])), (a, la dJ n u)]) := hD
  exact W.vret hx hb hr (fun t ht hW => ⟨⟨u, rfl, hw, by rw [ht]; exact hP, hD⟩, hS.F ht⟩) hS.2.2 dX1_init_3_7
set_option maxHeartbeats 4000000 in
set_option maxRecDepth 100000 in
/-- size() -/
theorem m_qsize (l : Launch) (D : va_G) (dJ : ClassId) (h a sz z : Nat) : Met l yX1_size (ws_ yX1_size cX1_size 1 (some .int)) ({ frames := 0, cells := 0, slots := 0, locals := 0 } : Room) (va_Pc [.ref h] (cP D dJ sz ([(h, .inr (1, [.ref a, .int (nI z), .null]))]))) (va_Qi (fun (r : Int32) (_ : Unit) => r = nI z) (fun _ t => cB D (va_A ([(h, .inr (1, [.ref a, .int (nI z), .null]))]) sz) [(h, .inr (1, [.ref a, .int (nI z), .null]))] t) (va_A ([(h, .inr (1, [.ref a, .int (nI z), .null]))]) sz)) 0 0 (va_A ([(h, .inr (1, [.ref a, .int (nI z), .null]))]) sz) := by
  refine Met.ofW (cc := cX1_size) (maxL := 1) (ret := (some .int)) (by decide) rfl ?_
  intro p e s m args below meth c s₁ B hml hv
  obtain ⟨rfl, hsz, hP, hK, hD0⟩ := hv
  have hx := B.exec
  have hb := B.bytes
  have hr := B.returns
  have hts := atoms_spec (ws := (ws_ yX1_size cX1_size 1 (some .int))) B.pre
  have hts : ∀ w ∈ lw_all, w.before _ s = true := fun w h => hts w (List.mem_cons_of_mem _ h)
  have hown : s.vm.findClass RX1 = some m.cls := findClass_of_methodNamed B.named
  have hlocks := B.notSynchronized
  subst hsz
  have hD := hD0.self (sz := s.heap.size)
  generalize hAe : va_A ([(h, .inr (1, [.ref a, .int (nI z), .null]))]) s.heap.size = A at hD ⊢
  have hA : ∀ q : Nat, s.heap.size ≤ q → A q := fun q h => by rw [← hAe]; exact Or.inr h
  obtain ⟨H, hHe⟩ : ∃ H : Heap, H = s.heap := ⟨_, rfl⟩
  rw [← hHe]
  have hS : va_S A s.heap H [] := by rw [hHe]; exact va_S.rf
  have hP : va_P D vwCl ([(h, .inr (1, [.ref a, .int (nI z), .null]))]) H := by rw [hHe]; exact hP
  have hl := lv_entry ([.ref h]) (n := 1) (Nat.le_of_ble_eq_true rfl)
  rw [lg_entry_eq]
  generalize (lg_sl ([.ref h]) ++ List.replicate (1 - (lg_sl ([.ref h])).length) Slot.unset).toArray = ls at hl ⊢
  have hl : lv_has ls 1 [(0, .ref h)] := hl
  refine lv_aload_n hx hb dX1_size_0 rfl (lv_at hl 0 rfl) ?_
  refine va_get (D := D) (ci := 1) (v := .int (nI z)) (C := RX1) (T := TX1) (N := 3) hx hb hts in_X1 hown hK hP 0 rfl rfl 1 (by decide) (hts _ q34) (fun _ h9 => h9) rfl dX1_size_1 ?_
  exact W.iret (v := nI z) hx hb hr (fun t ht hW => ⟨⟨nI z, (), rfl, rfl, by rw [ht]; exact hP, hD⟩, hS.F ht⟩) hS.2.2 dX1_size_4
set_option maxHeartbeats 4000000 in
set_option maxRecDepth 100000 in
/-- clear() -/
theorem m_qclear (l : Launch) (D : va_G) (dJ : ClassId) (h a sz z : Nat) : Met l yX1_clear (ws_ yX1_clear cX1_clear 1 none) ({ frames := 0, cells := 0, slots := 0, locals := 0 } : Room) (va_Pc [.ref h] (cP D dJ sz ([(h, .inr (1, [.ref a, .int (nI z), .null]))]))) (va_Qv (fun (_ : Unit) => True) (fun _ t => cB D (va_A ([(h, .inr (1, [.ref a, .int (nI z), .null]))]) sz) [(h, .inr (1, [.ref a, .int (nI 0), .null]))] t) (va_A ([(h, .inr (1, [.ref a, .int (nI z), .null]))]) sz)) 0 0 (va_A ([(h, .inr (1, [.ref a, .int (nI z), .null]))]) sz) := by
  refine Met.ofW (cc := cX1_clear) (maxL := 1) (ret := none) (by decide) rfl ?_
  intro p e s m args below meth c s₁ B hml hv
  obtain ⟨rfl, hsz, hP, hK, hD0⟩ := hv
  have hx := B.exec
  have hb := B.bytes
  have hr := B.returns
  have hts := atoms_spec (ws := (ws_ yX1_clear cX1_clear 1 none)) B.pre
  have hts : ∀ w ∈ lw_all, w.before _ s = true := fun w h => hts w (List.mem_cons_of_mem _ h)
  have hown : s.vm.findClass RX1 = some m.cls := findClass_of_methodNamed B.named
  have hlocks := B.notSynchronized
  subst hsz
  have hD := hD0.self (sz := s.heap.size)
  generalize hAe : va_A ([(h, .inr (1, [.ref a, .int (nI z), .null]))]) s.heap.size = A at hD ⊢
  have hA : ∀ q : Nat, s.heap.size ≤ q → A q := fun q h => by rw [← hAe]; exact Or.inr h
  obtain ⟨H, hHe⟩ : ∃ H : Heap, H = s.heap := ⟨_, rfl⟩
  rw [← hHe]
  have hS : va_S A s.heap H [] := by rw [hHe]; exact va_S.rf
  have hP : va_P D vwCl ([(h, .inr (1, [.ref a, .int (nI z), .null]))]) H := by rw [hHe]; exact hP
  have hl := lv_entry ([.ref h]) (n := 1) (Nat.le_of_ble_eq_true rfl)
  rw [lg_entry_eq]
  generalize (lg_sl ([.ref h]) ++ List.replicate (1 - (lg_sl ([.ref h])).length) Slot.unset).toArray = ls at hl ⊢
  have hl : lv_has ls 1 [(0, .ref h)] := hl
  refine lv_aload_n hx hb dX1_clear_0 rfl (lv_at hl 0 rfl) ?_
  refine lv_iconst (v := 0) hx hb dX1_clear_1 (by decide) ?_
  refine va_put (D := D) (ci := 1) (v := .int 0) (ty := .int) (C := RX1) (T := TX1) (N := 3) hx hb hts in_X1 tyX1 tyX1_ok nmX1 hown hK hP hD hS 0 rfl rfl 1 (by decide) (hts _ q34) (fun _ h9 => h9) rfl (by decide +kernel) rfl rfl (Nat.le_of_ble_eq_true rfl) dX1_clear_2 (fun H locs hP hD hS => ?_)
  have hP : va_P D vwCl ([(h, .inr (1, [.ref a, .int 0, .null]))]) H := hP
  have hD : va_D A ([(h, .inr (1, [.ref a, .int 0, .null]))]) := hD
  exact W.vret hx hb hr (fun t ht hW => ⟨⟨(), rfl, trivial, by rw [ht]; exact hP, hD⟩, hS.F ht⟩) hS.2.2 dX1_clear_5
set_option maxHeartbeats 4000000 in
set_option maxRecDepth 100000 in
/-- firstLong(), not empty -/
theorem m_qfirst (l : Launch) (D : va_G) (dJ : ClassId) (h a sz n z : Nat) (f : Nat → Int64) (hn : n ≤ 300) (hz : z + 1 ≤ n) : Met l yX1_firstLong (ws_ yX1_firstLong cX1_firstLong 1 (some .long)) ({ frames := 0, cells := 0, slots := 0, locals := 0 } : Room) (va_Pc [.ref h] (cP D dJ sz ([(h, .inr (1, [.ref a, .int (nI (z + 1)), .null])), (a, la dJ n f)]))) (va_Ql (fun (r : Int64) (_ : Unit) => r = f 0) (fun _ t => cB D (va_A ([(h, .inr (1, [.ref a, .int (nI (z + 1)), .null])), (a, la dJ n f)]) sz) [(h, .inr (1, [.ref a, .int (nI (z + 1)), .null])), (a, la dJ n f)] t) (va_A ([(h, .inr (1, [.ref a, .int (nI (z + 1)), .null])), (a, la dJ n f)]) sz)) 0 0 (va_A ([(h, .inr (1, [.ref a, .int (nI (z + 1)), .null])), (a, la dJ n f)]) sz) := by
  refine Met.ofW (cc := cX1_firstLong) (maxL := 1) (ret := (some .long)) (by decide) rfl ?_
  intro p e s m args below meth c s₁ B hml hv
  obtain ⟨rfl, hsz, hP, hK, hD0⟩ := hv
  have hx := B.exec
  have hb := B.bytes
  have hr := B.returns
  have hts := atoms_spec (ws := (ws_ yX1_firstLong cX1_firstLong 1 (some .long))) B.pre
  have hts : ∀ w ∈ lw_all, w.before _ s = true := fun w h => hts w (List.mem_cons_of_mem _ h)
  have hown : s.vm.findClass RX1 = some m.cls := findClass_of_methodNamed B.named
  have hlocks := B.notSynchronized
  subst hsz
  have hD := hD0.self (sz := s.heap.size)
  generalize hAe : va_A ([(h, .inr (1, [.ref a, .int (nI (z + 1)), .null])), (a, la dJ n f)]) s.heap.size = A at hD ⊢
  have hA : ∀ q : Nat, s.heap.size ≤ q → A q := fun q h => by rw [← hAe]; exact Or.inr h
  obtain ⟨H, hHe⟩ : ∃ H : Heap, H = s.heap := ⟨_, rfl⟩
  rw [← hHe]
  have hS : va_S A s.heap H [] := by rw [hHe]; exact va_S.rf
  have hP : va_P D vwCl ([(h, .inr (1, [.ref a, .int (nI (z + 1)), .null])), (a, la dJ n f)]) H := by rw [hHe]; exact hP
  have hl := lv_entry ([.ref h]) (n := 1) (Nat.le_of_ble_eq_true rfl)
  rw [lg_entry_eq]
  generalize (lg_sl ([.ref h]) ++ List.replicate (1 - (lg_sl ([.ref h])).length) Slot.unset).toArray = ls at hl ⊢
  have hl : lv_has ls 1 [(0, .ref h)] := hl
  refine lv_aload_n hx hb dX1_firstLong_0 rfl (lv_at hl 0 rfl) ?_
  refine va_get (D := D) (ci := 1) (v := .int (nI (z + 1))) (C := RX1) (T := TX1) (N := 3) hx hb hts in_X1 hown hK hP 0 rfl rfl 1 (by decide) (hts _ q34) (fun _ h9 => h9) rfl dX1_firstLong_1 ?_
  refine q_ifne hx hb (by omega) (tgt := 15) dX1_firstLong_4 (by decide) (fun hc => ?_) (fun hc => ?_)
  · refine lv_aload_n hx hb dX1_firstLong_15 rfl (lv_at hl 0 rfl) ?_
    refine va_get (D := D) (ci := 1) (v := .ref a) (C := RX1) (T := TX1) (N := 3) hx hb hts in_X1 hown hK hP 0 rfl rfl 0 (by decide) (hts _ q33) (fun _ h9 => h9) rfl dX1_firstLong_16 ?_
    refine lv_iconst (v := 0) hx hb dX1_firstLong_19 (by decide) ?_
    refine q_lald hx hb hK hP 1 rfl (i := 0) (by omega) (by omega) dX1_firstLong_20 ?_
    exact W.lret (v := f 0) hx hb hr (fun t ht hW => ⟨⟨f 0, (), rfl, rfl, by rw [ht]; exact hP, hD⟩, hS.F ht⟩) hS.2.2 dX1_firstLong_21
  · exact absurd hc (by omega)
set_option maxHeartbeats 4000000 in
set_option maxRecDepth 100000 in
/-- trim() -/
theorem m_qtrim (l : Launch) (D : va_G) (dJ : ClassId) (e0 h a sz n z : Nat) (f : Nat → Int64) (LP : List Nat) (hok : okq e0 a n LP) (hn : n ≤ 300) (hz : z ≤ n) : Met l yX1_trim (ws_ yX1_trim cX1_trim 1 none) ({ frames := 2, cells := 1, slots := 300, locals := 62 } : Room) (va_Pc [.ref h] (cE D dJ e0 sz ([(h, .inr (1, [.ref a, .int (nI z), .null]))] ++ va_pl LP (fun _ => la dJ n f)))) (va_Qv (fun (u : Nat × Nat × (Nat → Int64) × List Nat) => okq e0 u.1 u.2.1 u.2.2.2 ∧ z ≤ u.2.1 ∧ u.2.1 ≤ 300 ∧ ∀ j, j < z → u.2.2.1 j = f j) (fun u t => cB D (va_A ([(h, .inr (1, [.ref a, .int (nI z), .null]))] ++ va_pl LP (fun _ => la dJ n f)) sz) ([(h, .inr (1, [.ref u.1, .int (nI z), .null]))] ++ va_pl u.2.2.2 (fun _ => la dJ u.2.1 u.2.2.1)) t) (va_A ([(h, .inr (1, [.ref a, .int (nI z), .null]))] ++ va_pl LP (fun _ => la dJ n f)) sz)) 1 300 (va_A ([(h, .inr (1, [.ref a, .int (nI z), .null]))] ++ va_pl LP (fun _ => la dJ n f)) sz) := by
  refine Met.ofW (cc := cX1_trim) (maxL := 1) (ret := none) (by decide) rfl ?_
  intro p e s m args below meth c s₁ B hml hv
  obtain ⟨rfl, ⟨hsz, hP, hK, hD0⟩, hE⟩ := hv
  have hx := B.exec
  have hb := B.bytes
  have hr := B.returns
  have hts := atoms_spec (ws := (ws_ yX1_trim cX1_trim 1 none)) B.pre
  have hts : ∀ w ∈ lw_all, w.before _ s = true := fun w h => hts w (List.mem_cons_of_mem _ h)
  have hown : s.vm.findClass RX1 = some m.cls := findClass_of_methodNamed B.named
  have hlocks := B.notSynchronized
  subst hsz
  have hD := hD0.self (sz := s.heap.size)
  generalize hAe : va_A ([(h, .inr (1, [.ref a, .int (nI z), .null]))] ++ va_pl LP (fun _ => la dJ n f)) s.heap.size = A at hD hE ⊢
  have hA : ∀ q : Nat, s.heap.size ≤ q → A q := fun q h => by rw [← hAe]; exact Or.inr h
  obtain ⟨H, hHe⟩ : ∃ H : Heap, H = s.heap := ⟨_, rfl⟩
  rw [← hHe]
  have hS : va_S A s.heap H [] := by rw [hHe]; exact va_S.rf
  have hP : va_P D vwCl ([(h, .inr (1, [.ref a, .int (nI z), .null]))] ++ va_pl LP (fun _ => la dJ n f)) H := by rw [hHe]; exact hP
  have hl := lv_entry ([.ref h]) (n := 1) (Nat.le_of_ble_eq_true rfl)
  rw [lg_entry_eq]
  generalize (lg_sl ([.ref h]) ++ List.replicate (1 - (lg_sl ([.ref h])).length) Slot.unset).toArray = ls at hl ⊢
  have hl : lv_has ls 1 [(0, .ref h)] := hl
  refine lv_aload_n hx hb dX1_trim_0 rfl (lv_at hl 0 rfl) ?_
  refine lv_aload_n hx hb dX1_trim_1 rfl (lv_at hl 0 rfl) ?_
  refine va_get (D := D) (ci := 1) (v := .ref a) (C := RX1) (T := TX1) (N := 3) hx hb hts in_X1 hown hK hP 0 rfl rfl 0 (by decide) (hts _ q33) (fun _ h9 => h9) rfl dX1_trim_2 ?_
  refine lv_aload_n hx hb dX1_trim_5 rfl (lv_at hl 0 rfl) ?_
  refine va_get (D := D) (ci := 1) (v := .int (nI z)) (C := RX1) (T := TX1) (N := 3) hx hb hts in_X1 hown hK hP 0 rfl rfl 1 (by decide) (hts _ q34) (fun _ h9 => h9) rfl dX1_trim_6 ?_
  have hPc : va_P D vwCl (va_pl LP (fun _ => la dJ n f)) H := hP.part (cx := []) [] rfl
  have hDc : va_D A (va_pl LP (fun _ => la dJ n f)) := hD.part (cx := []) [] (by decide) rfl
  have hFc : ∀ q, va_A (va_pl LP (fun _ => la dJ n f)) H.size q → A q := va_freeP (cx := []) hD hS hA [] rfl
  refine va_callr (va_runS (As := [.ref a, .int (nI z)]) (rest := [.ref h]) ⟨hx, hb, hml, hown, hts⟩ (m_atrim l D dJ e0 a H.size n z f LP hok hn hz) (va_cwS 2 hts (lw_S q201 q202 q5 q203) rfl rfl rfl (by decide +kernel) ⟨Nat.le_of_ble_eq_true rfl, Nat.le_of_ble_eq_true rfl⟩) (cE_S hK hPc hDc hE hS hFc) rfl rfl hl.1 rfl (lv_room (Nat.le_of_ble_eq_true rfl)) dX1_trim_9 ⟨Nat.le_of_ble_eq_true rfl, Nat.le_of_ble_eq_true rfl⟩) hS (fun q _ h => hFc q h) hFc (fun u r t H1 locs ht hvm hw hB hzz hk1 hS => ?_)
  obtain ⟨hok1, hP1, hD1⟩ := hB
  obtain ⟨n', f', LP'⟩ := u
  dsimp only at hw hok1 hP1 hD1
  rw [ht] at hP1
  obtain ⟨hP, hD⟩ := va_joinP (wr := [(h, .inr (1, [.ref a, .int (nI z), .null]))]) (rx := []) (cx := []) (pl1 := va_pl LP' (fun _ => la dJ n' f')) hP hD [] [0] rfl rfl (by decide) (by decide) hk1 hFc hP1 hD1
  generalize H1 = H at hP hS ⊢
  have hP : va_P D vwCl ([(h, .inr (1, [.ref a, .int (nI z), .null]))] ++ va_pl LP' (fun _ => la dJ n' f')) H := hP
  have hD : va_D A ([(h, .inr (1, [.ref a, .int (nI z), .null]))] ++ va_pl LP' (fun _ => la dJ n' f')) := hD
  refine va_put (D := D) (ci := 1) (v := .ref r) (ty := .array .long) (C := RX1) (T := TX1) (N := 3) hx hb hts in_X1 tyX1 tyX1_ok nmX1 hown hK hP hD hS 0 rfl rfl 0 (by decide) (hts _ q33) (fun _ h9 => h9) rfl (by decide +kernel) rfl rfl (Nat.le_of_ble_eq_true rfl) dX1_trim_12 (fun H locs hP hD hS => ?_)
  have hP : va_P D vwCl ([(h, .inr (1, [.ref r, .int (nI z), .null]))] ++ va_pl LP' (fun _ => la dJ n' f')) H := hP
  have hD : va_D A ([(h, .inr (1, [.ref r, .int (nI z), .null]))] ++ va_pl LP' (fun _ => la dJ n' f')) := hD
  exact W.vret hx hb hr (fun t ht hW => ⟨⟨(r, n', f', LP'), rfl, ⟨hok1, hw⟩, by rw [ht]; exact hP, hD⟩, hS.F ht⟩) hS.2.2 dX1_trim_15
set_option maxHeartbeats 4000000 in
set_option maxRecDepth 100000 in
/-- enqueue(x), fewer than 200 in it -/
theorem m_enqueue (l : Launch) (D : va_G) (dJ : ClassId) (e0 h a sz n z : Nat) (f : Nat → Int64) (LP : List Nat) (x : Int64) (hok : okq e0 a n LP) (hn : n ≤ 300) (hz : z ≤ n) (hz2 : z < 200) (hh : hp 0 f z) : Met l yX1_enqueue (ws_ yX1_enqueue cX1_enqueue 3 none) ({ frames := 3, cells := 1, slots := 300, locals := 85 } : Room) (va_Pc [.ref h, .long x] (cE D dJ e0 sz ([(h, .inr (1, [.ref a, .int (nI z), .null]))] ++ va_pl LP (fun _ => la dJ n f)))) (va_Qv (fun (u : Nat × Nat × (Nat → Int64)) => u.2.1 ≤ 300 ∧ z + 1 ≤ u.2.1 ∧ hp 0 u.2.2 (z + 1) ∧ ∀ L, hol f z L → hol u.2.2 (z + 1) (x :: L)) (fun u t => cB D (va_A ([(h, .inr (1, [.ref a, .int (nI z), .null]))] ++ va_pl LP (fun _ => la dJ n f)) sz) ([(h, .inr (1, [.ref u.1, .int (nI (z + 1)), .null]))] ++ va_pl [u.1] (fun _ => la dJ u.2.1 u.2.2)) t) (va_A ([(h, .inr (1, [.ref a, .int (nI z), .null]))] ++ va_pl LP (fun _ => la dJ n f)) sz)) 1 300 (va_A ([(h, .inr (1, [.ref a, .int (nI z), .null]))] ++ va_pl LP (fun _ => la dJ n f)) sz) := by
  refine Met.ofW (cc := cX1_enqueue) (maxL := 3) (ret := none) (by decide) rfl ?_
  intro p e s m args below meth c s₁ B hml hv
  obtain ⟨rfl, ⟨hsz, hP, hK, hD0⟩, hE⟩ := hv
  have hx := B.exec
  have hb := B.bytes
  have hr := B.returns
  have hts := atoms_spec (ws := (ws_ yX1_enqueue cX1_enqueue 3 none)) B.pre
  have hts : ∀ w ∈ lw_all, w.before _ s = true := fun w h => hts w (List.mem_cons_of_mem _ h)
  have hown : s.vm.findClass RX1 = some m.cls := findClass_of_methodNamed B.named
  have hlocks := B.notSynchronized
  subst hsz
  have hD := hD0.self (sz := s.heap.size)
  generalize hAe : va_A ([(h, .inr (1, [.ref a, .int (nI z), .null]))] ++ va_pl LP (fun _ => la dJ n f)) s.heap.size = A at hD hE ⊢
  have hA : ∀ q : Nat, s.heap.size ≤ q → A q := fun q h => by rw [← hAe]; exact Or.inr h
  obtain ⟨H, hHe⟩ : ∃ H : Heap, H = s.heap := ⟨_, rfl⟩
  rw [← hHe]
  have hS : va_S A s.heap H [] := by rw [hHe]; exact va_S.rf
  have hP : va_P D vwCl ([(h, .inr (1, [.ref a, .int (nI z), .null]))] ++ va_pl LP (fun _ => la dJ n f)) H := by rw [hHe]; exact hP
  have hl := lv_entry ([.ref h, .long x]) (n := 3) (Nat.le_of_ble_eq_true rfl)
  rw [lg_entry_eq]
  generalize (lg_sl ([.ref h, .long x]) ++ List.replicate (3 - (lg_sl ([.ref h, .long x])).length) Slot.unset).toArray = ls at hl ⊢
  have hl : lv_has ls 3 [(0, .ref h), (1, .long x)] := hl
  have tail : ∀ (a n : Nat) (g : Nat → Int64) (H : Heap) (locs : List Loc) (ls : Array Slot), z + 1 ≤ n → n ≤ 300 → hp 0 g z → (∀ L, hol f z L → hol g z L) → va_P D vwCl [(h, .inr (1, [.ref a, .int (nI z), .null])), (a, la dJ n g)] H → va_D A [(h, .inr (1, [.ref a, .int (nI z), .null])), (a, la dJ n g)] → va_S A s.heap H locs → lv_has ls 3 [(0, .ref h), (1, .long x)] → W p l e (headSpec (ws_ yX1_enqueue cX1_enqueue 3 none) ({ frames := 3, cells := 1, slots := 300, locals := 85 } : Room)).room s m ([.ref h, .long x] : List Value).toArray below meth c H locs 1 300 (MQ below (va_Qv (fun (u : Nat × Nat × (Nat → Int64)) => u.2.1 ≤ 300 ∧ z + 1 ≤ u.2.1 ∧ hp 0 u.2.2 (z + 1) ∧ ∀ L, hol f z L → hol u.2.2 (z + 1) (x :: L)) (fun u t => cB D A ([(h, .inr (1, [.ref u.1, .int (nI (z + 1)), .null]))] ++ va_pl [u.1] (fun _ => la dJ u.2.1 u.2.2)) t) A) ([.ref h, .long x] : List Value).toArray s 1 300 A) (F0 m 29 ls []) := by
    intro a n g H locs ls hz1 hn1 hg hL hP hD hS hl
    refine lv_aload_n hx hb dX1_enqueue_29 rfl (lv_at hl 0 rfl) ?_
    refine va_get (D := D) (ci := 1) (v := .ref a) (C := RX1) (T := TX1) (N := 3) hx hb hts in_X1 hown hK hP 0 rfl rfl 0 (by decide) (hts _ q33) (fun _ h9 => h9) rfl dX1_enqueue_30 ?_
    refine lv_aload_n hx hb dX1_enqueue_33 rfl (lv_at hl 0 rfl) ?_
    refine lv_dup hx hb dX1_enqueue_34 rfl ?_
    refine va_get (D := D) (ci := 1) (v := .int (nI z)) (C := RX1) (T := TX1) (N := 3) hx hb hts in_X1 hown hK hP 0 rfl rfl 1 (by decide) (hts _ q34) (fun _ h9 => h9) rfl dX1_enqueue_35 ?_
    refine lv_dup_x1 hx hb dX1_enqueue_38 rfl rfl ?_
    refine lv_iconst (v := 1) hx hb dX1_enqueue_39 (by decide) ?_
    refine lv_iadd hx hb dX1_enqueue_40 ?_
    refine lv_topi (fun t1 et1 => ?_)
    obtain rfl : t1 = nI (z + 1) := et1.trans (nI_1 z)
    refine va_put (D := D) (ci := 1) (v := .int (nI (z + 1))) (ty := .int) (C := RX1) (T := TX1) (N := 3) hx hb hts in_X1 tyX1 tyX1_ok nmX1 hown hK hP hD hS 0 rfl rfl 1 (by decide) (hts _ q34) (fun _ h9 => h9) rfl (by decide +kernel) rfl rfl (Nat.le_of_ble_eq_true rfl) dX1_enqueue_41 (fun H locs hP hD hS => ?_)
    have hP : va_P D vwCl ([(h, .inr (1, [.ref a, .int (nI (z + 1)), .null])), (a, la dJ n g)]) H := hP
    have hD : va_D A ([(h, .inr (1, [.ref a, .int (nI (z + 1)), .null])), (a, la dJ n g)]) := hD
    refine lv_lload_n hx hb dX1_enqueue_44 rfl (lv_at hl 1 rfl) ?_
    refine q_last hx hb hK hP hD hS 1 rfl (i := z) (by omega) (by omega) dX1_enqueue_45 (fun H locs hP hD hS => ?_)
    have hP : va_P D vwCl ([(h, .inr (1, [.ref a, .int (nI (z + 1)), .null])), (a, la dJ n (vp_updL g z x))]) H := hP
    have hD : va_D A ([(h, .inr (1, [.ref a, .int (nI (z + 1)), .null])), (a, la dJ n (vp_updL g z x))]) := hD
    refine lv_aload_n hx hb dX1_enqueue_46 rfl (lv_at hl 0 rfl) ?_
    refine va_get (D := D) (ci := 1) (v := .ref a) (C := RX1) (T := TX1) (N := 3) hx hb hts in_X1 hown hK hP 0 rfl rfl 0 (by decide) (hts _ q33) (fun _ h9 => h9) rfl dX1_enqueue_47 ?_
    refine lv_aload_n hx hb dX1_enqueue_50 rfl (lv_at hl 0 rfl) ?_
    refine va_get (D := D) (ci := 1) (v := .int (nI (z + 1))) (C := RX1) (T := TX1) (N := 3) hx hb hts in_X1 hown hK hP 0 rfl rfl 1 (by decide) (hts _ q34) (fun _ h9 => h9) rfl dX1_enqueue_51 ?_
    refine lv_aload_n hx hb dX1_enqueue_54 rfl (lv_at hl 0 rfl) ?_
    refine va_get (D := D) (ci := 1) (v := .int (nI (z + 1))) (C := RX1) (T := TX1) (N := 3) hx hb hts in_X1 hown hK hP 0 rfl rfl 1 (by decide) (hts _ q34) (fun _ h9 => h9) rfl dX1_enqueue_55 ?_
    refine lv_iconst (v := 1) hx hb dX1_enqueue_58 (by decide) ?_
    refine lv_isub hx hb dX1_enqueue_59 ?_
    refine lv_topi (fun t2 et2 => ?_)
    obtain rfl : t2 = nI z := et2.trans (nI_pred z)
    refine lv_aload_n hx hb dX1_enqueue_60 rfl (lv_at hl 0 rfl) ?_
    refine va_get (D := D) (ci := 1) (v := .null) (C := RX1) (T := TX1) (N := 3) hx hb hts in_X1 hown hK hP 0 rfl rfl 2 (by decide) (hts _ q35) (fun _ h9 => h9) rfl dX1_enqueue_61 ?_
    have hPc := hP.sub (ws' := [(a, la dJ n (vp_updL g z x))]) [1] rfl
    have hDc := hD.sub (ws' := [(a, la dJ n (vp_updL g z x))]) [1] (by decide) rfl
    have hFc := va_free (wc := [(a, la dJ n (vp_updL g z x))]) hD hS hA [1] rfl
    refine va_calli (va_runS (As := [.ref a, .int (nI (z + 1)), .int (nI z), .null]) (rest := []) ⟨hx, hb, hml, hown, hts⟩ (m_upHeap l D dJ a H.size n z (vp_updL g z x) (by omega) hz1 (hp_congr hg (fun j hj => up_n _ _ (Nat.ne_of_lt hj)))) (va_cwS 4 hts (lw_S q80 q81 q9 q82) rfl rfl rfl (by decide +kernel) ⟨Nat.le_of_ble_eq_true rfl, Nat.le_of_ble_eq_true rfl⟩) (cP_S hK hPc hDc) rfl rfl hl.1 rfl (lv_room (Nat.le_of_ble_eq_true rfl)) dX1_enqueue_64 ⟨Nat.le_of_ble_eq_true rfl, Nat.le_of_ble_eq_true rfl⟩) hS (fun q _ h => hFc q h) hFc (fun r u t H1 locs ht hvm hw hB hzz hk1 hS => ?_)
    obtain ⟨hP1, hD1⟩ := hB
    rw [ht] at hP1
    obtain ⟨hP, hD⟩ := va_join (wr := [(h, .inr (1, [.ref a, .int (nI (z + 1)), .null]))]) (w1 := [(a, la dJ n u)]) hP hD [1] [0] rfl rfl (by decide) (by decide) hk1 hFc hP1 hD1
    generalize H1 = H at hP hS ⊢
    have hP : va_P D vwCl ([(h, .inr (1, [.ref a, .int (nI (z + 1)), .null])), (a, la dJ n u)]) H := hP
    have hD : va_D A ([(h, .inr (1, [.ref a, .int (nI (z + 1)), .null])), (a, la dJ n u)]) := hD
    refine lv_pop hx hb dX1_enqueue_67 rfl ?_
    exact W.vret hx hb hr (fun t ht hW => ⟨⟨(a, n, u), rfl, ⟨hn1, hz1, hw.1, fun L h => hw.2.trans (hol_add (hL L h))⟩, by rw [ht]; exact hP, hD⟩, hS.F ht⟩) hS.2.2 dX1_enqueue_68
  refine lv_aload_n hx hb dX1_enqueue_0 rfl (lv_at hl 0 rfl) ?_
  refine va_get (D := D) (ci := 1) (v := .int (nI z)) (C := RX1) (T := TX1) (N := 3) hx hb hts in_X1 hown hK hP 0 rfl rfl 1 (by decide) (hts _ q34) (fun _ h9 => h9) rfl dX1_enqueue_1 ?_
  refine lv_aload_n hx hb dX1_enqueue_4 rfl (lv_at hl 0 rfl) ?_
  refine va_get (D := D) (ci := 1) (v := .ref a) (C := RX1) (T := TX1) (N := 3) hx hb hts in_X1 hown hK hP 0 rfl rfl 0 (by decide) (hts _ q33) (fun _ h9 => h9) rfl dX1_enqueue_5 ?_
  refine q_alen hx hb hK hP hE hS (okq_row [(h, .inr (1, [.ref a, .int (nI z), .null]))] hok) dX1_enqueue_8 ?_
  refine q_icne hx hb (by omega) (by omega) (tgt := 29) dX1_enqueue_9 (by decide) (fun hc => ?_) (fun hc => ?_)
  · have hLP := okq_own hok (by omega)
    subst hLP
    refine W.widen (k := 1) (n := 300) (Nat.zero_le _) (Nat.zero_le _) ?_
    exact tail a n f H [] ls (by omega) hn hh (fun _ h => h) hP hD hS (lv_sub hl [0, 1] rfl)
  · subst hc
    refine lv_aload_n hx hb dX1_enqueue_12 rfl (lv_at hl 0 rfl) ?_
    refine lv_aload_n hx hb dX1_enqueue_13 rfl (lv_at hl 0 rfl) ?_
    refine va_get (D := D) (ci := 1) (v := .ref a) (C := RX1) (T := TX1) (N := 3) hx hb hts in_X1 hown hK hP 0 rfl rfl 0 (by decide) (hts _ q33) (fun _ h9 => h9) rfl dX1_enqueue_14 ?_
    refine lv_aload_n hx hb dX1_enqueue_17 rfl (lv_at hl 0 rfl) ?_
    refine va_get (D := D) (ci := 1) (v := .int (nI z)) (C := RX1) (T := TX1) (N := 3) hx hb hts in_X1 hown hK hP 0 rfl rfl 1 (by decide) (hts _ q34) (fun _ h9 => h9) rfl dX1_enqueue_18 ?_
    refine lv_iconst (v := 1) hx hb dX1_enqueue_21 (by decide) ?_
    refine lv_iadd hx hb dX1_enqueue_22 ?_
    refine lv_topi (fun t3 et3 => ?_)
    obtain rfl : t3 = nI (z + 1) := et3.trans (nI_1 z)
    have hPc : va_P D vwCl (va_pl LP (fun _ => la dJ z f)) H := hP.part (cx := []) [] rfl
    have hDc : va_D A (va_pl LP (fun _ => la dJ z f)) := hD.part (cx := []) [] (by decide) rfl
    have hFc : ∀ q, va_A (va_pl LP (fun _ => la dJ z f)) H.size q → A q := va_freeP (cx := []) hD hS hA [] rfl
    refine va_callr (va_runS (As := [.ref a, .int (nI (z + 1))]) (rest := [.ref h]) ⟨hx, hb, hml, hown, hts⟩ (m_grow l D dJ e0 a H.size z f LP hok hz2) (va_cwS 2 hts (lw_S q64 q65 q5 q66) rfl rfl rfl (by decide +kernel) ⟨Nat.le_of_ble_eq_true rfl, Nat.le_of_ble_eq_true rfl⟩) (cE_S hK hPc hDc hE hS hFc) rfl rfl hl.1 rfl (lv_room (Nat.le_of_ble_eq_true rfl)) dX1_enqueue_23 ⟨Nat.le_of_ble_eq_true rfl, Nat.le_of_ble_eq_true rfl⟩) hS (fun q _ h => hFc q h) hFc (fun u r t H1 locs ht hvm hw hB hzz hk1 hS => ?_)
    obtain ⟨hP1, hD1⟩ := hB
    obtain ⟨n', f'⟩ := u
    dsimp only at hw hP1 hD1
    rw [ht] at hP1
    obtain ⟨hP, hD⟩ := va_joinP (wr := [(h, .inr (1, [.ref a, .int (nI z), .null]))]) (rx := []) (cx := []) (pl1 := [(r, la dJ n' f')]) hP hD [] [0] rfl rfl (by decide) (by decide) hk1 hFc hP1 hD1
    generalize H1 = H at hP hS ⊢
    have hP : va_P D vwCl ([(h, .inr (1, [.ref a, .int (nI z), .null])), (r, la dJ n' f')]) H := hP
    have hD : va_D A ([(h, .inr (1, [.ref a, .int (nI z), .null])), (r, la dJ n' f')]) := hD
    refine va_put (D := D) (ci := 1) (v := .ref r) (ty := .array .long) (C := RX1) (T := TX1) (N := 3) hx hb hts in_X1 tyX1 tyX1_ok nmX1 hown hK hP hD hS 0 rfl rfl 0 (by decide) (hts _ q33) (fun _ h9 => h9) rfl (by decide +kernel) rfl rfl (Nat.le_of_ble_eq_true rfl) dX1_enqueue_26 (fun H locs hP hD hS => ?_)
    have hP : va_P D vwCl ([(h, .inr (1, [.ref r, .int (nI z), .null])), (r, la dJ n' f')]) H := hP
    have hD : va_D A ([(h, .inr (1, [.ref r, .int (nI z), .null])), (r, la dJ n' f')]) := hD
    refine W.widen (k := 1) (n := 300) (Nat.le_of_ble_eq_true rfl) (Nat.le_of_ble_eq_true rfl) ?_
    exact tail r n' f' H locs ls hw.1 hw.2.1 (hp_congr hh hw.2.2) (fun L h => hol_congr h hw.2.2) hP hD hS (lv_sub hl [0, 1] rfl)
set_option maxHeartbeats 4000000 in
set_option maxRecDepth 100000 in
/-- dequeueLong(), not empty -/
theorem m_dequeue (l : Launch) (D : va_G) (dJ : ClassId) (h a sz n z : Nat) (f : Nat → Int64) (hn : n ≤ 300) (hz : z + 1 ≤ n) (hh : hp 0 f (z + 1)) : Met l yX1_dequeueLong (ws_ yX1_dequeueLong cX1_dequeueLong 3 (some .long)) ({ frames := 1, cells := 0, slots := 0, locals := 29 } : Room) (va_Pc [.ref h] (cP D dJ sz ([(h, .inr (1, [.ref a, .int (nI (z + 1)), .null])), (a, la dJ n f)]))) (va_Ql (fun (r : Int64) (u : Nat → Int64) => r = f 0 ∧ hp 0 u z ∧ ∀ L, hol f (z + 1) L → hol u z (L.erase (f 0))) (fun u t => cB D (va_A ([(h, .inr (1, [.ref a, .int (nI (z + 1)), .null])), (a, la dJ n f)]) sz) [(h, .inr (1, [.ref a, .int (nI z), .null])), (a, la dJ n u)] t) (va_A ([(h, .inr (1, [.ref a, .int (nI (z + 1)), .null])), (a, la dJ n f)]) sz)) 0 0 (va_A ([(h, .inr (1, [.ref a, .int (nI (z + 1)), .null])), (a, la dJ n f)]) sz) := by
  refine Met.ofW (cc := cX1_dequeueLong) (maxL := 3) (ret := (some .long)) (by decide) rfl ?_
  intro p e s m args below meth c s₁ B hml hv
  obtain ⟨rfl, hsz, hP, hK, hD0⟩ := hv
  have hx := B.exec
  have hb := B.bytes
  have hr := B.returns
  have hts := atoms_spec (ws := (ws_ yX1_dequeueLong cX1_dequeueLong 3 (some .long))) B.pre
  have hts : ∀ w ∈ lw_all, w.before _ s = true := fun w h => hts w (List.mem_cons_of_mem _ h)
  have hown : s.vm.findClass RX1 = some m.cls := findClass_of_methodNamed B.named
  have hlocks := B.notSynchronized
  subst hsz
  have hD := hD0.self (sz := s.heap.size)
  generalize hAe : va_A ([(h, .inr (1, [.ref a, .int (nI (z + 1)), .null])), (a, la dJ n f)]) s.heap.size = A at hD ⊢
  have hA : ∀ q : Nat, s.heap.size ≤ q → A q := fun q h => by rw [← hAe]; exact Or.inr h
  obtain ⟨H, hHe⟩ : ∃ H : Heap, H = s.heap := ⟨_, rfl⟩
  rw [← hHe]
  have hS : va_S A s.heap H [] := by rw [hHe]; exact va_S.rf
  have hP : va_P D vwCl ([(h, .inr (1, [.ref a, .int (nI (z + 1)), .null])), (a, la dJ n f)]) H := by rw [hHe]; exact hP
  have hl := lv_entry ([.ref h]) (n := 3) (Nat.le_of_ble_eq_true rfl)
  rw [lg_entry_eq]
  generalize (lg_sl ([.ref h]) ++ List.replicate (3 - (lg_sl ([.ref h])).length) Slot.unset).toArray = ls at hl ⊢
  have hl : lv_has ls 3 [(0, .ref h)] := hl
  refine lv_aload_n hx hb dX1_dequeueLong_0 rfl (lv_at hl 0 rfl) ?_
  refine va_get (D := D) (ci := 1) (v := .int (nI (z + 1))) (C := RX1) (T := TX1) (N := 3) hx hb hts in_X1 hown hK hP 0 rfl rfl 1 (by decide) (hts _ q34) (fun _ h9 => h9) rfl dX1_dequeueLong_1 ?_
  refine q_ifne hx hb (by omega) (tgt := 15) dX1_dequeueLong_4 (by decide) (fun hc => ?_) (fun hc => ?_)
  · refine lv_aload_n hx hb dX1_dequeueLong_15 rfl (lv_at hl 0 rfl) ?_
    refine va_get (D := D) (ci := 1) (v := .ref a) (C := RX1) (T := TX1) (N := 3) hx hb hts in_X1 hown hK hP 0 rfl rfl 0 (by decide) (hts _ q33) (fun _ h9 => h9) rfl dX1_dequeueLong_16 ?_
    refine lv_iconst (v := 0) hx hb dX1_dequeueLong_19 (by decide) ?_
    refine q_lald hx hb hK hP 1 rfl (i := 0) (by omega) (by omega) dX1_dequeueLong_20 ?_
    refine lv_lstore_n (lv' := [(1, .long (f 0)), (0, .ref h)]) hx hb dX1_dequeueLong_21 rfl hl (by decide) rfl (fun ls hl => ?_)
    refine lv_aload_n hx hb dX1_dequeueLong_22 rfl (lv_at hl 1 rfl) ?_
    refine va_get (D := D) (ci := 1) (v := .ref a) (C := RX1) (T := TX1) (N := 3) hx hb hts in_X1 hown hK hP 0 rfl rfl 0 (by decide) (hts _ q33) (fun _ h9 => h9) rfl dX1_dequeueLong_23 ?_
    refine lv_iconst (v := 0) hx hb dX1_dequeueLong_26 (by decide) ?_
    refine lv_aload_n hx hb dX1_dequeueLong_27 rfl (lv_at hl 1 rfl) ?_
    refine va_get (D := D) (ci := 1) (v := .ref a) (C := RX1) (T := TX1) (N := 3) hx hb hts in_X1 hown hK hP 0 rfl rfl 0 (by decide) (hts _ q33) (fun _ h9 => h9) rfl dX1_dequeueLong_28 ?_
    refine lv_aload_n hx hb dX1_dequeueLong_31 rfl (lv_at hl 1 rfl) ?_
    refine lv_dup hx hb dX1_dequeueLong_32 rfl ?_
    refine va_get (D := D) (ci := 1) (v := .int (nI (z + 1))) (C := RX1) (T := TX1) (N := 3) hx hb hts in_X1 hown hK hP 0 rfl rfl 1 (by decide) (hts _ q34) (fun _ h9 => h9) rfl dX1_dequeueLong_33 ?_
    refine lv_iconst (v := 1) hx hb dX1_dequeueLong_36 (by decide) ?_
    refine lv_isub hx hb dX1_dequeueLong_37 ?_
    refine lv_topi (fun t4 et4 => ?_)
    obtain rfl : t4 = nI z := et4.trans (nI_pred z)
    refine lv_dup_x1 hx hb dX1_dequeueLong_38 rfl rfl ?_
    refine va_put (D := D) (ci := 1) (v := .int (nI z)) (ty := .int) (C := RX1) (T := TX1) (N := 3) hx hb hts in_X1 tyX1 tyX1_ok nmX1 hown hK hP hD hS 0 rfl rfl 1 (by decide) (hts _ q34) (fun _ h9 => h9) rfl (by decide +kernel) rfl rfl (Nat.le_of_ble_eq_true rfl) dX1_dequeueLong_39 (fun H locs hP hD hS => ?_)
    have hP : va_P D vwCl ([(h, .inr (1, [.ref a, .int (nI z), .null])), (a, la dJ n f)]) H := hP
    have hD : va_D A ([(h, .inr (1, [.ref a, .int (nI z), .null])), (a, la dJ n f)]) := hD
    refine q_lald hx hb hK hP 1 rfl (i := z) (by omega) (by omega) dX1_dequeueLong_42 ?_
    refine q_last hx hb hK hP hD hS 1 rfl (i := 0) (by omega) (by omega) dX1_dequeueLong_43 (fun H locs hP hD hS => ?_)
    have hP : va_P D vwCl ([(h, .inr (1, [.ref a, .int (nI z), .null])), (a, la dJ n (vp_updL f 0 (f z)))]) H := hP
    have hD : va_D A ([(h, .inr (1, [.ref a, .int (nI z), .null])), (a, la dJ n (vp_updL f 0 (f z)))]) := hD
    refine lv_aload_n hx hb dX1_dequeueLong_44 rfl (lv_at hl 1 rfl) ?_
    refine va_get (D := D) (ci := 1) (v := .int (nI z)) (C := RX1) (T := TX1) (N := 3) hx hb hts in_X1 hown hK hP 0 rfl rfl 1 (by decide) (hts _ q34) (fun _ h9 => h9) rfl dX1_dequeueLong_45 ?_
    refine q_ifeq hx hb (by omega) (tgt := 68) dX1_dequeueLong_48 (by decide) (fun hc => ?_) (fun hc => ?_)
    · refine lv_lload_n hx hb dX1_dequeueLong_68 rfl (lv_at hl 0 rfl) ?_
      exact W.lret (v := f 0) hx hb hr (fun t ht hW => ⟨⟨f 0, vp_updL f 0 (f z), rfl, ⟨rfl, hp_small (by omega), fun L h => hol_out h (by omega)⟩, by rw [ht]; exact hP, hD⟩, hS.F ht⟩) hS.2.2 dX1_dequeueLong_69
    · refine lv_aload_n hx hb dX1_dequeueLong_51 rfl (lv_at hl 1 rfl) ?_
      refine va_get (D := D) (ci := 1) (v := .ref a) (C := RX1) (T := TX1) (N := 3) hx hb hts in_X1 hown hK hP 0 rfl rfl 0 (by decide) (hts _ q33) (fun _ h9 => h9) rfl dX1_dequeueLong_52 ?_
      refine lv_aload_n hx hb dX1_dequeueLong_55 rfl (lv_at hl 1 rfl) ?_
      refine va_get (D := D) (ci := 1) (v := .int (nI z)) (C := RX1) (T := TX1) (N := 3) hx hb hts in_X1 hown hK hP 0 rfl rfl 1 (by decide) (hts _ q34) (fun _ h9 => h9) rfl dX1_dequeueLong_56 ?_
      refine lv_iconst (v := 0) hx hb dX1_dequeueLong_59 (by decide) ?_
      refine lv_aload_n hx hb dX1_dequeueLong_60 rfl (lv_at hl 1 rfl) ?_
      refine va_get (D := D) (ci := 1) (v := .null) (C := RX1) (T := TX1) (N := 3) hx hb hts in_X1 hown hK hP 0 rfl rfl 2 (by decide) (hts _ q35) (fun _ h9 => h9) rfl dX1_dequeueLong_61 ?_
      have hPc := hP.sub (ws' := [(a, la dJ n (vp_updL f 0 (f z)))]) [1] rfl
      have hDc := hD.sub (ws' := [(a, la dJ n (vp_updL f 0 (f z)))]) [1] (by decide) rfl
      have hFc := va_free (wc := [(a, la dJ n (vp_updL f 0 (f z)))]) hD hS hA [1] rfl
      refine va_calli (va_runS (As := [.ref a, .int (nI z), .int 0, .null]) (rest := []) ⟨hx, hb, hml, hown, hts⟩ (m_downHeap l D dJ a H.size n z 0 (vp_updL f 0 (f z)) (by omega) (by omega) (by omega) (fun k c h1 h2 h3 => by rw [up_n _ _ (show k ≠ 0 by omega), up_n _ _ (show c ≠ 0 by omega)]; exact hh k c (Nat.zero_le k) h2 (by omega))) (va_cwS 4 hts (lw_S q183 q104 q9 q105) rfl rfl rfl (by decide +kernel) ⟨Nat.le_of_ble_eq_true rfl, Nat.le_of_ble_eq_true rfl⟩) (cP_S hK hPc hDc) rfl rfl hl.1 rfl (lv_room (Nat.le_of_ble_eq_true rfl)) dX1_dequeueLong_64 ⟨Nat.le_of_ble_eq_true rfl, Nat.le_of_ble_eq_true rfl⟩) hS (fun q _ h => hFc q h) hFc (fun r u t H1 locs ht hvm hw hB hzz hk1 hS => ?_)
      obtain ⟨hP1, hD1⟩ := hB
      rw [ht] at hP1
      obtain ⟨hP, hD⟩ := va_join (wr := [(h, .inr (1, [.ref a, .int (nI z), .null]))]) (w1 := [(a, la dJ n u)]) hP hD [1] [0] rfl rfl (by decide) (by decide) hk1 hFc hP1 hD1
      generalize H1 = H at hP hS ⊢
      have hP : va_P D vwCl ([(h, .inr (1, [.ref a, .int (nI z), .null])), (a, la dJ n u)]) H := hP
      have hD : va_D A ([(h, .inr (1, [.ref a, .int (nI z), .null])), (a, la dJ n u)]) := hD
      refine lv_pop hx hb dX1_dequeueLong_67 rfl ?_
      refine lv_lload_n hx hb dX1_dequeueLong_68 rfl (lv_at hl 0 rfl) ?_
      exact W.lret (v := f 0) hx hb hr (fun t ht hW => ⟨⟨f 0, u, rfl, ⟨rfl, hw.1, fun L h => hw.2.trans (hol_out h (by omega))⟩, by rw [ht]; exact hP, hD⟩, hS.F ht⟩) hS.2.2 dX1_dequeueLong_69
  · exact absurd hc (by omega)
end
section
/-! LongHeapDeskModel: the bag at bg, z longs in it; L: what it holds, as a list up to its order -/
/-- the model at mo holds the list L -/
def mAt (D : va_G) (dJ : ClassId) (A : Nat → Prop) (mo bg : Nat) (L : List Int64) (t : State) : Prop := ∃ (z : Nat) (g : Nat → Int64), hol g z L ∧ z ≤ 200 ∧ cB D A [(mo, .inr (2, [.ref bg, .int (nI z)])), (bg, la dJ 200 g)] t
/-- what the desk's calls do to the list, and what they answer -/
def enL (L : List Int64) (x : Int64) : List Int64 := if L.length < 200 then x :: L else L
def enR (L : List Int64) : Int32 := if L.length < 200 then 1 else 0
def wn (x : Int32) : Nat := x.toBitVec.toNat % 2 ^ 6
def tn5 (x : Int32) : Nat := x.toBitVec.toNat % 2 ^ 5
theorem wn_lt (x : Int32) : wn x < 64 := Nat.mod_lt _ (by decide)
theorem tn5_lt (x : Int32) : tn5 x < 32 := Nat.mod_lt _ (by decide)
def whR (x : Int32) : Int32 := if 0 < wn x then 1 else 0
noncomputable def lsR : List Int64 → Int64
  | [] => 0
  | x :: t => mn (x :: t)
theorem lsR_ne {L : List Int64} (h : L ≠ []) : lsR L = mn L := by
  cases L with
  | nil => exact absurd rfl h
  | cons x t => rfl
set_option maxHeartbeats 4000000 in
set_option maxRecDepth 100000 in
/-- LongHeapDeskModel() -/
theorem m_minit (l : Launch) (D : va_G) (dJ : ClassId) (mo sz : Nat) : Met l yX3_init (ws_ yX3_init cX3_init 1 none) ({ frames := 1, cells := 1, slots := 200, locals := 12 } : Room) (va_Pc [.ref mo] (cP D dJ sz ([(mo, .inr (2, [.null, .int 0]))]))) (va_Qv (fun (_ : Unit) => True) (fun _ t => ∃ bg : Nat, mAt D dJ (va_A ([(mo, .inr (2, [.null, .int 0]))]) sz) mo bg [] t) (va_A ([(mo, .inr (2, [.null, .int 0]))]) sz)) 1 200 (va_A ([(mo, .inr (2, [.null, .int 0]))]) sz) := by
  refine Met.ofW (cc := cX3_init) (maxL := 1) (ret := none) (by decide) rfl ?_
  intro p e s m args below meth c s₁ B hml hv
  obtain ⟨rfl, hsz, hP, hK, hD0⟩ := hv
  have hx := B.exec
  have hb := B.bytes
  have hr := B.returns
  have hts := atoms_spec (ws := (ws_ yX3_init cX3_init 1 none)) B.pre
  have hts : ∀ w ∈ lw_all, w.before _ s = true := fun w h => hts w (List.mem_cons_of_mem _ h)
  have hown : s.vm.findClass RX3 = some m.cls := findClass_of_methodNamed B.named
  have hlocks := B.notSynchronized
  have hin : meth.name = "<init>" := (name_of_methodNamed B.named B.method).1
  subst hsz
  have hD := hD0.self (sz := s.heap.size)
  generalize hAe : va_A ([(mo, .inr (2, [.null, .int 0]))]) s.heap.size = A at hD ⊢
  have hA : ∀ q : Nat, s.heap.size ≤ q → A q := fun q h => by rw [← hAe]; exact Or.inr h
  obtain ⟨H, hHe⟩ : ∃ H : Heap, H = s.heap := ⟨_, rfl⟩
  rw [← hHe]
  have hS : va_S A s.heap H [] := by rw [hHe]; exact va_S.rf
  have hP : va_P D vwCl ([(mo, .inr (2, [.null, .int 0]))]) H := by rw [hHe]; exact hP
  have hl := lv_entry ([.ref mo]) (n := 1) (Nat.le_of_ble_eq_true rfl)
  rw [lg_entry_eq]
  generalize (lg_sl ([.ref mo]) ++ List.replicate (1 - (lg_sl ([.ref mo])).length) Slot.unset).toArray = ls at hl ⊢
  have hl : lv_has ls 1 [(0, .ref mo)] := hl
  refine lv_aload_n hx hb dX3_init_0 rfl (lv_at hl 0 rfl) ?_
  refine W.objInit hx hb hown (hts _ q218) (hts _ q20) (hts _ q21) rfl (by rw [hml]; exact hl.1) rfl dX3_init_1 (Nat.le_of_ble_eq_true rfl) (Nat.le_of_ble_eq_true rfl) ?_
  refine W.eq (g2 := F0 m 4 ls []) rfl ?_
  refine lv_aload_n hx hb dX3_init_4 rfl (lv_at hl 0 rfl) ?_
  refine lv_sipush (v := 200) hx hb dX3_init_5 (by decide) ?_
  refine q_newa hx hb (hts _ q43) hK hP hD hS hA (N := 200) (by decide) (Nat.le_of_ble_eq_true rfl) (Nat.le_of_ble_eq_true rfl) dX3_init_8 (fun q H hP hD hS => ?_)
  have hP : va_P D vwCl ([(mo, .inr (2, [.null, .int 0])), (q, la dJ 200 (fun _ => 0))]) H := hP
  have hD : va_D A ([(mo, .inr (2, [.null, .int 0])), (q, la dJ 200 (fun _ => 0))]) := hD
  refine va_putF (D := D) (ci := 2) (v := .ref q) (ty := .array .long) (C := RX3) (T := TX3) (N := 2) hx hb hts in_X3 tyX3 tyX3_ok nmX3 hown hK hP hD hS 0 rfl rfl 0 (by decide) (hts _ q219) (fun _ h9 => h9) rfl hin rfl (by decide +kernel) rfl rfl (Nat.le_of_ble_eq_true rfl) dX3_init_10 (fun H locs hP hD hS => ?_)
  have hP : va_P D vwCl ([(mo, .inr (2, [.ref q, .int 0])), (q, la dJ 200 (fun _ => 0))]) H := hP
  have hD : va_D A ([(mo, .inr (2, [.ref q, .int 0])), (q, la dJ 200 (fun _ => 0))]) := hD
  exact W.vret hx hb hr (fun t ht hW => ⟨⟨(), rfl, trivial, q, 0, fun _ => 0, hol_0 _, by decide, by rw [ht]; exact hP, hD⟩, hS.F ht⟩) hS.2.2 dX3_init_13
set_option maxHeartbeats 4000000 in
set_option maxRecDepth 100000 in
/-- wide(hi, lo) -/
theorem m_wide (l : Launch) (D : va_G) (dJ : ClassId) (sz : Nat) (hi lo : Int32) : Met l yX3_wide (ws_ yX3_wide cX3_wide 5 (some .long)) ({ frames := 0, cells := 0, slots := 0, locals := 0 } : Room) (va_Pc [.int hi, .int lo] (cP D dJ sz ([]))) (va_Ql (fun (r : Int64) (_ : Unit) => r = wd hi lo) (fun _ t => cB D (va_A ([]) sz) [] t) (va_A ([]) sz)) 0 0 (va_A ([]) sz) := by
  refine Met.ofW (cc := cX3_wide) (maxL := 5) (ret := (some .long)) (by decide) rfl ?_
  intro p e s m args below meth c s₁ B hml hv
  obtain ⟨rfl, hsz, hP, hK, hD0⟩ := hv
  have hx := B.exec
  have hb := B.bytes
  have hr := B.returns
  have hts := atoms_spec (ws := (ws_ yX3_wide cX3_wide 5 (some .long))) B.pre
  have hts : ∀ w ∈ lw_all, w.before _ s = true := fun w h => hts w (List.mem_cons_of_mem _ h)
  have hown : s.vm.findClass RX3 = some m.cls := findClass_of_methodNamed B.named
  have hlocks := B.notSynchronized
  subst hsz
  have hD := hD0.self (sz := s.heap.size)
  generalize hAe : va_A ([]) s.heap.size = A at hD ⊢
  have hA : ∀ q : Nat, s.heap.size ≤ q → A q := fun q h => by rw [← hAe]; exact Or.inr h
  obtain ⟨H, hHe⟩ : ∃ H : Heap, H = s.heap := ⟨_, rfl⟩
  rw [← hHe]
  have hS : va_S A s.heap H [] := by rw [hHe]; exact va_S.rf
  have hP : va_P D vwCl ([]) H := by rw [hHe]; exact hP
  have hl := lv_entry ([.int hi, .int lo]) (n := 5) (Nat.le_of_ble_eq_true rfl)
  rw [lg_entry_eq]
  generalize (lg_sl ([.int hi, .int lo]) ++ List.replicate (5 - (lg_sl ([.int hi, .int lo])).length) Slot.unset).toArray = ls at hl ⊢
  have hl : lv_has ls 5 [(0, .int hi), (1, .int lo)] := hl
  refine lv_iload_n hx hb dX3_wide_0 rfl (lv_at hl 0 rfl) ?_
  refine lv_i2l (v := hi.toInt64) hx hb dX3_wide_1 (rfl) ?_
  refine lv_lstore_n (lv' := [(2, .long hi.toInt64), (0, .int hi), (1, .int lo)]) hx hb dX3_wide_2 rfl hl (by decide) rfl (fun ls hl => ?_)
  refine lv_bipush (v := 31) hx hb dX3_wide_3 (by decide) ?_
  refine lv_istore (lv' := [(4, .int 31), (2, .long hi.toInt64), (0, .int hi), (1, .int lo)]) hx hb dX3_wide_5 hl (by decide) rfl (fun ls hl => ?_)
  have loop : ∀ (j : Nat) (ls : Array Slot), j ≤ 32 → lv_has ls 5 [(1, .int lo), (2, .long (wv hi lo j)), (4, .int (nI j + (-1)))] → W p l e (headSpec (ws_ yX3_wide cX3_wide 5 (some .long)) ({ frames := 0, cells := 0, slots := 0, locals := 0 } : Room)).room s m ([.int hi, .int lo] : List Value).toArray below meth c H [] 0 0 (MQ below (va_Ql (fun (r : Int64) (_ : Unit) => r = wd hi lo) (fun _ t => cB D A [] t) A) ([.int hi, .int lo] : List Value).toArray s 0 0 A) (F0 m 7 ls []) := by
    intro j
    induction j with
    | zero =>
      intro ls _ hl
      refine lv_iload hx hb dX3_wide_7 (lv_at hl 2 rfl) ?_
      refine lv_if_lt hx hb (tgt := 32) dX3_wide_9 (by decide) (fun hc => ?_) (fun hc => ?_)
      · refine lv_lload_n hx hb dX3_wide_32 rfl (lv_at hl 1 rfl) ?_
        exact W.lret (v := wv hi lo 0) hx hb hr (fun t ht hW => ⟨⟨wv hi lo 0, (), rfl, wv_0 hi lo, by rw [ht]; exact hP, hD⟩, hS.F ht⟩) hS.2.2 dX3_wide_33
      · exact absurd (by decide) hc
    | succ j ih =>
      intro ls hj hl
      rw [pk_m1 j] at hl
      refine lv_iload hx hb dX3_wide_7 (lv_at hl 2 rfl) ?_
      refine lv_if_lt hx hb (tgt := 32) dX3_wide_9 (by decide) (fun hc => ?_) (fun hc => ?_)
      · exact absurd hc (nI_pos (by omega))
      · refine lv_ldc2 (v := 2) hx hb hown (hts _ q233) dX3_wide_12 ?_
        refine lv_lload_n hx hb dX3_wide_15 rfl (lv_at hl 1 rfl) ?_
        refine lv_lmul hx hb dX3_wide_16 ?_
        refine lv_topl (fun t1 et1 => ?_)
        obtain rfl : t1 = 2 * wv hi lo (j + 1) := et1.trans (rfl)
        refine lv_iload_n hx hb dX3_wide_17 rfl (lv_at hl 0 rfl) ?_
        refine lv_iload hx hb dX3_wide_18 (lv_at hl 2 rfl) ?_
        refine lv_ishr hx hb dX3_wide_20 ?_
        refine lv_topi (fun t2 et2 => ?_)
        obtain rfl : t2 = lo >>> (nI j &&& 31) := et2.trans (rfl)
        refine lv_iconst (v := 1) hx hb dX3_wide_21 (by decide) ?_
        refine lv_iand hx hb dX3_wide_22 ?_
        refine lv_topi (fun t3 et3 => ?_)
        obtain rfl : t3 = (lo >>> (nI j &&& 31)) &&& 1 := et3.trans (rfl)
        refine lv_i2l (v := (((lo >>> (nI j &&& 31)) &&& 1)).toInt64) hx hb dX3_wide_23 (rfl) ?_
        refine lv_ladd hx hb dX3_wide_24 ?_
        refine lv_topl (fun t4 et4 => ?_)
        obtain rfl : t4 = wv hi lo j := et4.trans (wv_step hi lo (by omega))
        refine lv_lstore_n (lv' := [(2, .long (wv hi lo j)), (1, .int lo), (4, .int (nI j))]) hx hb dX3_wide_25 rfl hl (by decide) rfl (fun ls hl => ?_)
        refine lv_iinc (v := nI j + (-1)) (lv' := [(4, .int (nI j + (-1))), (2, .long (wv hi lo j)), (1, .int lo)]) hx hb dX3_wide_26 hl (k := 2) rfl (rfl) (by decide) rfl (fun ls hl => ?_)
        refine lv_goto (tgt := 7) hx hb dX3_wide_29 (by decide) ?_
        exact ih ls (by omega) (lv_sub hl [2, 1, 0] rfl)
  exact loop 32 ls (Nat.le_refl 32) (by rw [wv_32]; exact lv_sub hl [3, 1, 0] rfl)
set_option maxHeartbeats 4000000 in
set_option maxRecDepth 100000 in
/-- leastAt(), not empty: a place of the least -/
theorem m_leastAt (l : Launch) (D : va_G) (dJ : ClassId) (mo bg sz z : Nat) (g : Nat → Int64) (hz : z ≤ 200) (hz0 : 0 < z) : Met l yX3_leastAt (ws_ yX3_leastAt cX3_leastAt 3 (some .int)) ({ frames := 0, cells := 0, slots := 0, locals := 0 } : Room) (va_Pc [.ref mo] (cP D dJ sz ([(mo, .inr (2, [.ref bg, .int (nI z)])), (bg, la dJ 200 g)]))) (va_Qi (fun (r : Int32) (u : Nat) => r = nI u ∧ u < z ∧ ∀ k, k < z → g u ≤ g k) (fun _ t => cB D (va_A ([(mo, .inr (2, [.ref bg, .int (nI z)])), (bg, la dJ 200 g)]) sz) [(mo, .inr (2, [.ref bg, .int (nI z)])), (bg, la dJ 200 g)] t) (va_A ([(mo, .inr (2, [.ref bg, .int (nI z)])), (bg, la dJ 200 g)]) sz)) 0 0 (va_A ([(mo, .inr (2, [.ref bg, .int (nI z)])), (bg, la dJ 200 g)]) sz) := by
  refine Met.ofW (cc := cX3_leastAt) (maxL := 3) (ret := (some .int)) (by decide) rfl ?_
  intro p e s m args below meth c s₁ B hml hv
  obtain ⟨rfl, hsz, hP, hK, hD0⟩ := hv
  have hx := B.exec
  have hb := B.bytes
  have hr := B.returns
  have hts := atoms_spec (ws := (ws_ yX3_leastAt cX3_leastAt 3 (some .int))) B.pre
  have hts : ∀ w ∈ lw_all, w.before _ s = true := fun w h => hts w (List.mem_cons_of_mem _ h)
  have hown : s.vm.findClass RX3 = some m.cls := findClass_of_methodNamed B.named
  have hlocks := B.notSynchronized
  subst hsz
  have hD := hD0.self (sz := s.heap.size)
  generalize hAe : va_A ([(mo, .inr (2, [.ref bg, .int (nI z)])), (bg, la dJ 200 g)]) s.heap.size = A at hD ⊢
  have hA : ∀ q : Nat, s.heap.size ≤ q → A q := fun q h => by rw [← hAe]; exact Or.inr h
  obtain ⟨H, hHe⟩ : ∃ H : Heap, H = s.heap := ⟨_, rfl⟩
  rw [← hHe]
  have hS : va_S A s.heap H [] := by rw [hHe]; exact va_S.rf
  have hP : va_P D vwCl ([(mo, .inr (2, [.ref bg, .int (nI z)])), (bg, la dJ 200 g)]) H := by rw [hHe]; exact hP
  have hl := lv_entry ([.ref mo]) (n := 3) (Nat.le_of_ble_eq_true rfl)
  rw [lg_entry_eq]
  generalize (lg_sl ([.ref mo]) ++ List.replicate (3 - (lg_sl ([.ref mo])).length) Slot.unset).toArray = ls at hl ⊢
  have hl : lv_has ls 3 [(0, .ref mo)] := hl
  refine lv_iconst (v := 0) hx hb dX3_leastAt_0 (by decide) ?_
  refine lv_istore_n (lv' := [(1, .int 0), (0, .ref mo)]) hx hb dX3_leastAt_1 rfl hl (by decide) rfl (fun ls hl => ?_)
  refine lv_iconst (v := 1) hx hb dX3_leastAt_2 (by decide) ?_
  refine lv_istore_n (lv' := [(2, .int 1), (1, .int 0), (0, .ref mo)]) hx hb dX3_leastAt_3 rfl hl (by decide) rfl (fun ls hl => ?_)
  have hl : lv_has ls 3 [(0, .ref mo), (1, .int (nI 0)), (2, .int (nI 1))] := lv_sub hl [2, 1, 0] rfl
  have loop : ∀ (N k j : Nat) (ls : Array Slot), z ≤ k + N → k ≤ z → j < z → (∀ i, i < k → g j ≤ g i) → lv_has ls 3 [(0, .ref mo), (1, .int (nI j)), (2, .int (nI k))] → W p l e (headSpec (ws_ yX3_leastAt cX3_leastAt 3 (some .int)) ({ frames := 0, cells := 0, slots := 0, locals := 0 } : Room)).room s m ([.ref mo] : List Value).toArray below meth c H [] 0 0 (MQ below (va_Qi (fun (r : Int32) (u : Nat) => r = nI u ∧ u < z ∧ ∀ k, k < z → g u ≤ g k) (fun _ t => cB D A [(mo, .inr (2, [.ref bg, .int (nI z)])), (bg, la dJ 200 g)] t) A) ([.ref mo] : List Value).toArray s 0 0 A) (F0 m 4 ls []) := by
    intro N
    induction N with
    | zero =>
      intro k j ls hN hk hj hm hl
      refine lv_iload_n hx hb dX3_leastAt_4 rfl (lv_at hl 2 rfl) ?_
      refine lv_aload_n hx hb dX3_leastAt_5 rfl (lv_at hl 0 rfl) ?_
      refine va_get (D := D) (ci := 2) (v := .int (nI z)) (C := RX3) (T := TX3) (N := 2) hx hb hts in_X3 hown hK hP 0 rfl rfl 1 (by decide) (hts _ q220) (fun _ h9 => h9) rfl dX3_leastAt_6 ?_
      refine q_icge hx hb (by omega) (by omega) (tgt := 40) dX3_leastAt_9 (by decide) (fun hc => ?_) (fun hc => ?_)
      · refine lv_iload_n hx hb dX3_leastAt_40 rfl (lv_at hl 1 rfl) ?_
        exact W.iret (v := nI j) hx hb hr (fun t ht hW => ⟨⟨nI j, j, rfl, ⟨rfl, hj, fun i hi => hm i (by omega)⟩, by rw [ht]; exact hP, hD⟩, hS.F ht⟩) hS.2.2 dX3_leastAt_41
      · exact absurd hc (by omega)
    | succ N ih =>
      intro k j ls hN hk hj hm hl
      have cont : ∀ (j' : Nat) (ls : Array Slot), k < z → j' < z → (∀ i, i < k + 1 → g j' ≤ g i) → lv_has ls 3 [(0, .ref mo), (2, .int (nI k))] → W p l e (headSpec (ws_ yX3_leastAt cX3_leastAt 3 (some .int)) ({ frames := 0, cells := 0, slots := 0, locals := 0 } : Room)).room s m ([.ref mo] : List Value).toArray below meth c H [] 0 0 (MQ below (va_Qi (fun (r : Int32) (u : Nat) => r = nI u ∧ u < z ∧ ∀ k, k < z → g u ≤ g k) (fun _ t => cB D A [(mo, .inr (2, [.ref bg, .int (nI z)])), (bg, la dJ 200 g)] t) A) ([.ref mo] : List Value).toArray s 0 0 A) (F0 m 33 ls [.int (nI j')]) := by
        intro j' ls hkz hj' hm' hl
        refine lv_istore_n (lv' := [(1, .int (nI j')), (0, .ref mo), (2, .int (nI k))]) hx hb dX3_leastAt_33 rfl hl (by decide) rfl (fun ls hl => ?_)
        refine lv_iinc (v := nI (k + 1)) (lv' := [(2, .int (nI (k + 1))), (1, .int (nI j')), (0, .ref mo)]) hx hb dX3_leastAt_34 hl (k := 2) rfl (nI_1 k) (by decide) rfl (fun ls hl => ?_)
        refine lv_goto (tgt := 4) hx hb dX3_leastAt_37 (by decide) ?_
        exact ih (k + 1) j' ls (by omega) (by omega) hj' hm' (lv_sub hl [2, 1, 0] rfl)
      refine lv_iload_n hx hb dX3_leastAt_4 rfl (lv_at hl 2 rfl) ?_
      refine lv_aload_n hx hb dX3_leastAt_5 rfl (lv_at hl 0 rfl) ?_
      refine va_get (D := D) (ci := 2) (v := .int (nI z)) (C := RX3) (T := TX3) (N := 2) hx hb hts in_X3 hown hK hP 0 rfl rfl 1 (by decide) (hts _ q220) (fun _ h9 => h9) rfl dX3_leastAt_6 ?_
      refine q_icge hx hb (by omega) (by omega) (tgt := 40) dX3_leastAt_9 (by decide) (fun hc => ?_) (fun hc => ?_)
      · refine lv_iload_n hx hb dX3_leastAt_40 rfl (lv_at hl 1 rfl) ?_
        exact W.iret (v := nI j) hx hb hr (fun t ht hW => ⟨⟨nI j, j, rfl, ⟨rfl, hj, fun i hi => hm i (by omega)⟩, by rw [ht]; exact hP, hD⟩, hS.F ht⟩) hS.2.2 dX3_leastAt_41
      · refine lv_aload_n hx hb dX3_leastAt_12 rfl (lv_at hl 0 rfl) ?_
        refine va_get (D := D) (ci := 2) (v := .ref bg) (C := RX3) (T := TX3) (N := 2) hx hb hts in_X3 hown hK hP 0 rfl rfl 0 (by decide) (hts _ q219) (fun _ h9 => h9) rfl dX3_leastAt_13 ?_
        refine lv_iload_n hx hb dX3_leastAt_16 rfl (lv_at hl 2 rfl) ?_
        refine q_lald hx hb hK hP 1 rfl (i := k) (by omega) (by omega) dX3_leastAt_17 ?_
        refine lv_aload_n hx hb dX3_leastAt_18 rfl (lv_at hl 0 rfl) ?_
        refine va_get (D := D) (ci := 2) (v := .ref bg) (C := RX3) (T := TX3) (N := 2) hx hb hts in_X3 hown hK hP 0 rfl rfl 0 (by decide) (hts _ q219) (fun _ h9 => h9) rfl dX3_leastAt_19 ?_
        refine lv_iload_n hx hb dX3_leastAt_22 rfl (lv_at hl 1 rfl) ?_
        refine q_lald hx hb hK hP 1 rfl (i := j) (by omega) (by omega) dX3_leastAt_23 ?_
        refine q_lge hx hb (tgt := 32) dX3_leastAt_24 dX3_leastAt_25 (by decide) (fun hc => ?_) (fun hc => ?_)
        · refine lv_iload_n hx hb dX3_leastAt_32 rfl (lv_at hl 1 rfl) ?_
          exact cont j ls (by omega) hj (fun i hi => by rcases Nat.lt_or_ge i k with h | h; exact hm i h; rw [show i = k by omega]; assumption) (lv_sub hl [0, 2] rfl)
        · refine lv_iload_n hx hb dX3_leastAt_28 rfl (lv_at hl 2 rfl) ?_
          refine lv_goto (tgt := 33) hx hb dX3_leastAt_29 (by decide) ?_
          exact cont k ls (by omega) (by omega) (fun i hi => by rcases Nat.lt_or_ge i k with h | h; exact Int64.le_trans (le_of_nle (by assumption)) (hm i h); rw [show i = k by omega]; exact Int64.le_refl _) (lv_sub hl [0, 2] rfl)
  exact loop z 1 0 ls (by omega) (by omega) hz0 (fun i hi => by rw [show i = 0 by omega]; exact Int64.le_refl _) hl
set_option maxHeartbeats 4000000 in
set_option maxRecDepth 100000 in
/-- enter(hi, lo) -/
theorem m_menter (l : Launch) (D : va_G) (dJ : ClassId) (mo bg sz z : Nat) (g : Nat → Int64) (L : List Int64) (hz : z ≤ 200) (hL : hol g z L) (hi lo : Int32) : Met l yX3_enter (ws_ yX3_enter cX3_enter 3 (some .boolean)) ({ frames := 1, cells := 0, slots := 0, locals := 24 } : Room) (va_Pc [.ref mo, .int hi, .int lo] (cP D dJ sz ([(mo, .inr (2, [.ref bg, .int (nI z)])), (bg, la dJ 200 g)]))) (va_Qi (fun (r : Int32) (_ : Unit) => r = enR L) (fun (_ : Unit) t => mAt D dJ (va_A ([(mo, .inr (2, [.ref bg, .int (nI z)])), (bg, la dJ 200 g)]) sz) mo bg (enL L (wd hi lo)) t) (va_A ([(mo, .inr (2, [.ref bg, .int (nI z)])), (bg, la dJ 200 g)]) sz)) 0 0 (va_A ([(mo, .inr (2, [.ref bg, .int (nI z)])), (bg, la dJ 200 g)]) sz) := by
  refine Met.ofW (cc := cX3_enter) (maxL := 3) (ret := (some .boolean)) (by decide) rfl ?_
  intro p e s m args below meth c s₁ B hml hv
  obtain ⟨rfl, hsz, hP, hK, hD0⟩ := hv
  have hx := B.exec
  have hb := B.bytes
  have hr := B.returns
  have hts := atoms_spec (ws := (ws_ yX3_enter cX3_enter 3 (some .boolean))) B.pre
  have hts : ∀ w ∈ lw_all, w.before _ s = true := fun w h => hts w (List.mem_cons_of_mem _ h)
  have hown : s.vm.findClass RX3 = some m.cls := findClass_of_methodNamed B.named
  have hlocks := B.notSynchronized
  subst hsz
  have hD := hD0.self (sz := s.heap.size)
  generalize hAe : va_A ([(mo, .inr (2, [.ref bg, .int (nI z)])), (bg, la dJ 200 g)]) s.heap.size = A at hD ⊢
  have hA : ∀ q : Nat, s.heap.size ≤ q → A q := fun q h => by rw [← hAe]; exact Or.inr h
  obtain ⟨H, hHe⟩ : ∃ H : Heap, H = s.heap := ⟨_, rfl⟩
  rw [← hHe]
  have hS : va_S A s.heap H [] := by rw [hHe]; exact va_S.rf
  have hP : va_P D vwCl ([(mo, .inr (2, [.ref bg, .int (nI z)])), (bg, la dJ 200 g)]) H := by rw [hHe]; exact hP
  have hl := lv_entry ([.ref mo, .int hi, .int lo]) (n := 3) (Nat.le_of_ble_eq_true rfl)
  rw [lg_entry_eq]
  generalize (lg_sl ([.ref mo, .int hi, .int lo]) ++ List.replicate (3 - (lg_sl ([.ref mo, .int hi, .int lo])).length) Slot.unset).toArray = ls at hl ⊢
  have hl : lv_has ls 3 [(0, .ref mo), (1, .int hi), (2, .int lo)] := hl
  refine lv_aload_n hx hb dX3_enter_0 rfl (lv_at hl 0 rfl) ?_
  refine va_get (D := D) (ci := 2) (v := .int (nI z)) (C := RX3) (T := TX3) (N := 2) hx hb hts in_X3 hown hK hP 0 rfl rfl 1 (by decide) (hts _ q220) (fun _ h9 => h9) rfl dX3_enter_1 ?_
  refine lv_sipush (v := 200) hx hb dX3_enter_4 (by decide) ?_
  refine q_iclt hx hb (y := 200) (by omega) (by decide) (tgt := 12) dX3_enter_7 (by decide) (fun hc => ?_) (fun hc => ?_)
  · have hlen := hol_len hL
    have hR : enR L = 1 := if_pos (by omega)
    have hE : enL L (wd hi lo) = wd hi lo :: L := if_pos (by omega)
    refine lv_aload_n hx hb dX3_enter_12 rfl (lv_at hl 0 rfl) ?_
    refine va_get (D := D) (ci := 2) (v := .ref bg) (C := RX3) (T := TX3) (N := 2) hx hb hts in_X3 hown hK hP 0 rfl rfl 0 (by decide) (hts _ q219) (fun _ h9 => h9) rfl dX3_enter_13 ?_
    refine lv_aload_n hx hb dX3_enter_16 rfl (lv_at hl 0 rfl) ?_
    refine va_get (D := D) (ci := 2) (v := .int (nI z)) (C := RX3) (T := TX3) (N := 2) hx hb hts in_X3 hown hK hP 0 rfl rfl 1 (by decide) (hts _ q220) (fun _ h9 => h9) rfl dX3_enter_17 ?_
    refine lv_iload_n hx hb dX3_enter_20 rfl (lv_at hl 1 rfl) ?_
    refine lv_iload_n hx hb dX3_enter_21 rfl (lv_at hl 2 rfl) ?_
    have hPc := hP.sub (ws' := []) [] rfl
    have hDc := hD.sub (ws' := []) [] (by decide) rfl
    have hFc := va_free (wc := []) hD hS hA [] rfl
    refine va_calll (va_runS (As := [.int hi, .int lo]) (rest := [.int (nI z), .ref bg]) ⟨hx, hb, hml, hown, hts⟩ (m_wide l D dJ _ hi lo) (va_cwS 2 hts (lw_S q230 q231 q6 q232) rfl rfl rfl (by decide +kernel) ⟨Nat.le_of_ble_eq_true rfl, Nat.le_of_ble_eq_true rfl⟩) (cP_S hK hPc hDc) rfl rfl hl.1 rfl (lv_room (Nat.le_of_ble_eq_true rfl)) dX3_enter_22 ⟨Nat.le_of_ble_eq_true rfl, Nat.le_of_ble_eq_true rfl⟩) hS (fun q _ h => hFc q h) hFc (fun r u t H1 locs ht hvm hw hB hzz hk1 hS => ?_)
    have hw : r = wd hi lo := hw
    subst hw
    obtain ⟨hP1, hD1⟩ := hB
    rw [ht] at hP1
    obtain ⟨hP, hD⟩ := va_join (wr := [(mo, .inr (2, [.ref bg, .int (nI z)])), (bg, la dJ 200 g)]) (w1 := []) hP hD [] [0, 1] rfl rfl (by decide) (by decide) hk1 hFc hP1 hD1
    generalize H1 = H at hP hS ⊢
    have hP : va_P D vwCl ([(mo, .inr (2, [.ref bg, .int (nI z)])), (bg, la dJ 200 g)]) H := hP
    have hD : va_D A ([(mo, .inr (2, [.ref bg, .int (nI z)])), (bg, la dJ 200 g)]) := hD
    refine q_last hx hb hK hP hD hS 1 rfl (i := z) (by omega) (by omega) dX3_enter_25 (fun H locs hP hD hS => ?_)
    have hP : va_P D vwCl ([(mo, .inr (2, [.ref bg, .int (nI z)])), (bg, la dJ 200 (vp_updL g z (wd hi lo)))]) H := hP
    have hD : va_D A ([(mo, .inr (2, [.ref bg, .int (nI z)])), (bg, la dJ 200 (vp_updL g z (wd hi lo)))]) := hD
    refine lv_aload_n hx hb dX3_enter_26 rfl (lv_at hl 0 rfl) ?_
    refine lv_dup hx hb dX3_enter_27 rfl ?_
    refine va_get (D := D) (ci := 2) (v := .int (nI z)) (C := RX3) (T := TX3) (N := 2) hx hb hts in_X3 hown hK hP 0 rfl rfl 1 (by decide) (hts _ q220) (fun _ h9 => h9) rfl dX3_enter_28 ?_
    refine lv_iconst (v := 1) hx hb dX3_enter_31 (by decide) ?_
    refine lv_iadd hx hb dX3_enter_32 ?_
    refine lv_topi (fun t5 et5 => ?_)
    obtain rfl : t5 = nI (z + 1) := et5.trans (nI_1 z)
    refine va_put (D := D) (ci := 2) (v := .int (nI (z + 1))) (ty := .int) (C := RX3) (T := TX3) (N := 2) hx hb hts in_X3 tyX3 tyX3_ok nmX3 hown hK hP hD hS 0 rfl rfl 1 (by decide) (hts _ q220) (fun _ h9 => h9) rfl (by decide +kernel) rfl rfl (Nat.le_of_ble_eq_true rfl) dX3_enter_33 (fun H locs hP hD hS => ?_)
    have hP : va_P D vwCl ([(mo, .inr (2, [.ref bg, .int (nI (z + 1))])), (bg, la dJ 200 (vp_updL g z (wd hi lo)))]) H := hP
    have hD : va_D A ([(mo, .inr (2, [.ref bg, .int (nI (z + 1))])), (bg, la dJ 200 (vp_updL g z (wd hi lo)))]) := hD
    refine lv_iconst (v := 1) hx hb dX3_enter_36 (by decide) ?_
    exact W.zret (v := 1) hx hb hr rfl (fun t ht hW => ⟨⟨1, (), rfl, hR.symm, z + 1, vp_updL g z (wd hi lo), by rw [hE]; exact hol_add hL, by omega, by rw [ht]; exact hP, hD⟩, hS.F ht⟩) hS.2.2 dX3_enter_37
  · have hlen := hol_len hL
    have hR : enR L = 0 := if_neg (by omega)
    have hE : enL L (wd hi lo) = L := if_neg (by omega)
    refine lv_iconst (v := 0) hx hb dX3_enter_10 (by decide) ?_
    exact W.zret (v := 0) hx hb hr rfl (fun t ht hW => ⟨⟨0, (), rfl, hR.symm, z, g, by rw [hE]; exact hL, hz, by rw [ht]; exact hP, hD⟩, hS.F ht⟩) hS.2.2 dX3_enter_11
set_option maxHeartbeats 4000000 in
set_option maxRecDepth 100000 in
/-- whole(from, step, n) -/
theorem m_mwhole (l : Launch) (D : va_G) (dJ : ClassId) (mo bg sz z : Nat) (g : Nat → Int64) (fr sp n : Int32) : Met l yX3_whole (ws_ yX3_whole cX3_whole 7 (some .boolean)) ({ frames := 0, cells := 0, slots := 0, locals := 0 } : Room) (va_Pc [.ref mo, .int fr, .int sp, .int n] (cP D dJ sz ([(mo, .inr (2, [.ref bg, .int (nI z)])), (bg, la dJ 200 g)]))) (va_Qi (fun (r : Int32) (_ : Unit) => r = whR n) (fun (_ : Unit) t => mAt D dJ (va_A ([(mo, .inr (2, [.ref bg, .int (nI z)])), (bg, la dJ 200 g)]) sz) mo bg (ab (mkv fr sp) (wn n)) t) (va_A ([(mo, .inr (2, [.ref bg, .int (nI z)])), (bg, la dJ 200 g)]) sz)) 0 0 (va_A ([(mo, .inr (2, [.ref bg, .int (nI z)])), (bg, la dJ 200 g)]) sz) := by
  refine Met.ofW (cc := cX3_whole) (maxL := 7) (ret := (some .boolean)) (by decide) rfl ?_
  intro p e s m args below meth c s₁ B hml hv
  obtain ⟨rfl, hsz, hP, hK, hD0⟩ := hv
  have hx := B.exec
  have hb := B.bytes
  have hr := B.returns
  have hts := atoms_spec (ws := (ws_ yX3_whole cX3_whole 7 (some .boolean))) B.pre
  have hts : ∀ w ∈ lw_all, w.before _ s = true := fun w h => hts w (List.mem_cons_of_mem _ h)
  have hown : s.vm.findClass RX3 = some m.cls := findClass_of_methodNamed B.named
  have hlocks := B.notSynchronized
  subst hsz
  have hD := hD0.self (sz := s.heap.size)
  generalize hAe : va_A ([(mo, .inr (2, [.ref bg, .int (nI z)])), (bg, la dJ 200 g)]) s.heap.size = A at hD ⊢
  have hA : ∀ q : Nat, s.heap.size ≤ q → A q := fun q h => by rw [← hAe]; exact Or.inr h
  obtain ⟨H, hHe⟩ : ∃ H : Heap, H = s.heap := ⟨_, rfl⟩
  rw [← hHe]
  have hS : va_S A s.heap H [] := by rw [hHe]; exact va_S.rf
  have hP : va_P D vwCl ([(mo, .inr (2, [.ref bg, .int (nI z)])), (bg, la dJ 200 g)]) H := by rw [hHe]; exact hP
  have hl := lv_entry ([.ref mo, .int fr, .int sp, .int n]) (n := 7) (Nat.le_of_ble_eq_true rfl)
  rw [lg_entry_eq]
  generalize (lg_sl ([.ref mo, .int fr, .int sp, .int n]) ++ List.replicate (7 - (lg_sl ([.ref mo, .int fr, .int sp, .int n])).length) Slot.unset).toArray = ls at hl ⊢
  have hl : lv_has ls 7 [(0, .ref mo), (1, .int fr), (2, .int sp), (3, .int n)] := hl
  have hwn := wn_lt n
  refine lv_aload_n hx hb dX3_whole_0 rfl (lv_at hl 0 rfl) ?_
  refine lv_iload_n hx hb dX3_whole_1 rfl (lv_at hl 3 rfl) ?_
  refine lv_bipush (v := 63) hx hb dX3_whole_2 (by decide) ?_
  refine lv_iand hx hb dX3_whole_4 ?_
  refine lv_topi (fun t6 et6 => ?_)
  obtain rfl : t6 = nI (wn n) := et6.trans (pk_and n 6 (by decide))
  refine va_put (D := D) (ci := 2) (v := .int (nI (wn n))) (ty := .int) (C := RX3) (T := TX3) (N := 2) hx hb hts in_X3 tyX3 tyX3_ok nmX3 hown hK hP hD hS 0 rfl rfl 1 (by decide) (hts _ q220) (fun _ h9 => h9) rfl (by decide +kernel) rfl rfl (Nat.le_of_ble_eq_true rfl) dX3_whole_5 (fun H locs hP hD hS => ?_)
  have hP : va_P D vwCl ([(mo, .inr (2, [.ref bg, .int (nI (wn n))])), (bg, la dJ 200 g)]) H := hP
  have hD : va_D A ([(mo, .inr (2, [.ref bg, .int (nI (wn n))])), (bg, la dJ 200 g)]) := hD
  refine lv_iload_n hx hb dX3_whole_8 rfl (lv_at hl 1 rfl) ?_
  refine lv_i2l (v := mkv fr sp 0) hx hb dX3_whole_9 (rfl) ?_
  refine lv_lstore (lv' := [(4, .long (mkv fr sp 0)), (0, .ref mo), (1, .int fr), (2, .int sp), (3, .int n)]) hx hb dX3_whole_10 hl (by decide) rfl (fun ls hl => ?_)
  refine lv_iconst (v := 0) hx hb dX3_whole_12 (by decide) ?_
  refine lv_istore (lv' := [(6, .int 0), (4, .long (mkv fr sp 0)), (0, .ref mo), (1, .int fr), (2, .int sp), (3, .int n)]) hx hb dX3_whole_13 hl (by decide) rfl (fun ls hl => ?_)
  have hl : lv_has ls 7 [(0, .ref mo), (2, .int sp), (4, .long (mkv fr sp 0)), (6, .int (nI 0))] := lv_sub hl [2, 4, 1, 0] rfl
  have loop : ∀ (N k : Nat) (g : Nat → Int64) (H : Heap) (locs : List Loc) (ls : Array Slot), wn n = k + N → (∀ j, j < k → g j = mkv fr sp j) → va_P D vwCl [(mo, .inr (2, [.ref bg, .int (nI (wn n))])), (bg, la dJ 200 g)] H → va_D A [(mo, .inr (2, [.ref bg, .int (nI (wn n))])), (bg, la dJ 200 g)] → va_S A s.heap H locs → lv_has ls 7 [(0, .ref mo), (2, .int sp), (4, .long (mkv fr sp k)), (6, .int (nI k))] → W p l e (headSpec (ws_ yX3_whole cX3_whole 7 (some .boolean)) ({ frames := 0, cells := 0, slots := 0, locals := 0 } : Room)).room s m ([.ref mo, .int fr, .int sp, .int n] : List Value).toArray below meth c H locs 0 0 (MQ below (va_Qi (fun (r : Int32) (_ : Unit) => r = whR n) (fun (_ : Unit) t => mAt D dJ A mo bg (ab (mkv fr sp) (wn n)) t) A) ([.ref mo, .int fr, .int sp, .int n] : List Value).toArray s 0 0 A) (F0 m 15 ls []) := by
    intro N
    induction N with
    | zero =>
      intro k g H locs ls hN hg hP hD hS hl
      refine lv_iload hx hb dX3_whole_15 (lv_at hl 3 rfl) ?_
      refine lv_aload_n hx hb dX3_whole_17 rfl (lv_at hl 0 rfl) ?_
      refine va_get (D := D) (ci := 2) (v := .int (nI (wn n))) (C := RX3) (T := TX3) (N := 2) hx hb hts in_X3 hown hK hP 0 rfl rfl 1 (by decide) (hts _ q220) (fun _ h9 => h9) rfl dX3_whole_18 ?_
      refine q_icge hx hb (by omega) (by omega) (tgt := 50) dX3_whole_21 (by decide) (fun hc => ?_) (fun hc => ?_)
      · refine lv_aload_n hx hb dX3_whole_50 rfl (lv_at hl 0 rfl) ?_
        refine va_get (D := D) (ci := 2) (v := .int (nI (wn n))) (C := RX3) (T := TX3) (N := 2) hx hb hts in_X3 hown hK hP 0 rfl rfl 1 (by decide) (hts _ q220) (fun _ h9 => h9) rfl dX3_whole_51 ?_
        refine q_ifle hx hb (by omega) (tgt := 61) dX3_whole_54 (by decide) (fun hc => ?_) (fun hc => ?_)
        · refine lv_iconst (v := 0) hx hb dX3_whole_61 (by decide) ?_
          exact W.zret (v := 0) hx hb hr rfl (fun t ht hW => ⟨⟨0, (), rfl, (if_neg (by omega)).symm, wn n, g, by rw [show wn n = k by omega]; unfold hol; rw [ab_congr hg], by omega, by rw [ht]; exact hP, hD⟩, hS.F ht⟩) hS.2.2 dX3_whole_62
        · refine lv_iconst (v := 1) hx hb dX3_whole_57 (by decide) ?_
          refine lv_goto (tgt := 62) hx hb dX3_whole_58 (by decide) ?_
          exact W.zret (v := 1) hx hb hr rfl (fun t ht hW => ⟨⟨1, (), rfl, (if_pos (by omega)).symm, wn n, g, by rw [show wn n = k by omega]; unfold hol; rw [ab_congr hg], by omega, by rw [ht]; exact hP, hD⟩, hS.F ht⟩) hS.2.2 dX3_whole_62
      · exact absurd hc (by omega)
    | succ N ih =>
      intro k g H locs ls hN hg hP hD hS hl
      refine lv_iload hx hb dX3_whole_15 (lv_at hl 3 rfl) ?_
      refine lv_aload_n hx hb dX3_whole_17 rfl (lv_at hl 0 rfl) ?_
      refine va_get (D := D) (ci := 2) (v := .int (nI (wn n))) (C := RX3) (T := TX3) (N := 2) hx hb hts in_X3 hown hK hP 0 rfl rfl 1 (by decide) (hts _ q220) (fun _ h9 => h9) rfl dX3_whole_18 ?_
      refine q_icge hx hb (by omega) (by omega) (tgt := 50) dX3_whole_21 (by decide) (fun hc => ?_) (fun hc => ?_)
      · exact absurd hc (by omega)
      · refine lv_aload_n hx hb dX3_whole_24 rfl (lv_at hl 0 rfl) ?_
        refine va_get (D := D) (ci := 2) (v := .ref bg) (C := RX3) (T := TX3) (N := 2) hx hb hts in_X3 hown hK hP 0 rfl rfl 0 (by decide) (hts _ q219) (fun _ h9 => h9) rfl dX3_whole_25 ?_
        refine lv_iload hx hb dX3_whole_28 (lv_at hl 3 rfl) ?_
        refine lv_lload hx hb dX3_whole_30 (lv_at hl 2 rfl) ?_
        refine q_last hx hb hK hP hD hS 1 rfl (i := k) (by omega) (by omega) dX3_whole_32 (fun H locs hP hD hS => ?_)
        have hP : va_P D vwCl ([(mo, .inr (2, [.ref bg, .int (nI (wn n))])), (bg, la dJ 200 (vp_updL g k (mkv fr sp k)))]) H := hP
        have hD : va_D A ([(mo, .inr (2, [.ref bg, .int (nI (wn n))])), (bg, la dJ 200 (vp_updL g k (mkv fr sp k)))]) := hD
        refine lv_lload hx hb dX3_whole_33 (lv_at hl 2 rfl) ?_
        refine lv_ldc2 (v := 6364136223846793005) hx hb hown (hts _ q238) dX3_whole_35 ?_
        refine lv_lmul hx hb dX3_whole_38 ?_
        refine lv_topl (fun t7 et7 => ?_)
        obtain rfl : t7 = mkv fr sp k * 6364136223846793005 := et7.trans (rfl)
        refine lv_iload_n hx hb dX3_whole_39 rfl (lv_at hl 1 rfl) ?_
        refine lv_i2l (v := sp.toInt64) hx hb dX3_whole_40 (rfl) ?_
        refine lv_ladd hx hb dX3_whole_41 ?_
        refine lv_topl (fun t8 et8 => ?_)
        obtain rfl : t8 = mkv fr sp (k + 1) := et8.trans (rfl)
        refine lv_lstore (lv' := [(4, .long (mkv fr sp (k + 1))), (0, .ref mo), (2, .int sp), (6, .int (nI k))]) hx hb dX3_whole_42 hl (by decide) rfl (fun ls hl => ?_)
        refine lv_iinc (v := nI (k + 1)) (lv' := [(6, .int (nI (k + 1))), (4, .long (mkv fr sp (k + 1))), (0, .ref mo), (2, .int sp)]) hx hb dX3_whole_44 hl (k := 3) rfl (nI_1 k) (by decide) rfl (fun ls hl => ?_)
        refine lv_goto (tgt := 15) hx hb dX3_whole_47 (by decide) ?_
        exact ih (k + 1) _ H locs ls (by omega) (fun j hj => by rcases Nat.lt_or_ge j k with h | h; rw [up_n _ _ (Nat.ne_of_lt h)]; exact hg j h; rw [show j = k by omega, up_s]) hP hD hS (lv_sub hl [2, 3, 1, 0] rfl)
  exact loop (wn n) 0 g H locs ls (by omega) (fun j hj => absurd hj (Nat.not_lt_zero j)) hP hD hS hl
set_option maxHeartbeats 4000000 in
set_option maxRecDepth 100000 in
/-- least() -/
theorem m_mleast (l : Launch) (D : va_G) (dJ : ClassId) (mo bg sz z : Nat) (g : Nat → Int64) (L : List Int64) (hz : z ≤ 200) (hL : hol g z L) : Met l yX3_least (ws_ yX3_least cX3_least 1 (some .long)) ({ frames := 1, cells := 0, slots := 0, locals := 22 } : Room) (va_Pc [.ref mo] (cP D dJ sz ([(mo, .inr (2, [.ref bg, .int (nI z)])), (bg, la dJ 200 g)]))) (va_Ql (fun (r : Int64) (_ : Unit) => r = lsR L) (fun (_ : Unit) t => mAt D dJ (va_A ([(mo, .inr (2, [.ref bg, .int (nI z)])), (bg, la dJ 200 g)]) sz) mo bg (L) t) (va_A ([(mo, .inr (2, [.ref bg, .int (nI z)])), (bg, la dJ 200 g)]) sz)) 0 0 (va_A ([(mo, .inr (2, [.ref bg, .int (nI z)])), (bg, la dJ 200 g)]) sz) := by
  refine Met.ofW (cc := cX3_least) (maxL := 1) (ret := (some .long)) (by decide) rfl ?_
  intro p e s m args below meth c s₁ B hml hv
  obtain ⟨rfl, hsz, hP, hK, hD0⟩ := hv
  have hx := B.exec
  have hb := B.bytes
  have hr := B.returns
  have hts := atoms_spec (ws := (ws_ yX3_least cX3_least 1 (some .long))) B.pre
  have hts : ∀ w ∈ lw_all, w.before _ s = true := fun w h => hts w (List.mem_cons_of_mem _ h)
  have hown : s.vm.findClass RX3 = some m.cls := findClass_of_methodNamed B.named
  have hlocks := B.notSynchronized
  subst hsz
  have hD := hD0.self (sz := s.heap.size)
  generalize hAe : va_A ([(mo, .inr (2, [.ref bg, .int (nI z)])), (bg, la dJ 200 g)]) s.heap.size = A at hD ⊢
  have hA : ∀ q : Nat, s.heap.size ≤ q → A q := fun q h => by rw [← hAe]; exact Or.inr h
  obtain ⟨H, hHe⟩ : ∃ H : Heap, H = s.heap := ⟨_, rfl⟩
  rw [← hHe]
  have hS : va_S A s.heap H [] := by rw [hHe]; exact va_S.rf
  have hP : va_P D vwCl ([(mo, .inr (2, [.ref bg, .int (nI z)])), (bg, la dJ 200 g)]) H := by rw [hHe]; exact hP
  have hl := lv_entry ([.ref mo]) (n := 1) (Nat.le_of_ble_eq_true rfl)
  rw [lg_entry_eq]
  generalize (lg_sl ([.ref mo]) ++ List.replicate (1 - (lg_sl ([.ref mo])).length) Slot.unset).toArray = ls at hl ⊢
  have hl : lv_has ls 1 [(0, .ref mo)] := hl
  refine lv_aload_n hx hb dX3_least_0 rfl (lv_at hl 0 rfl) ?_
  refine va_get (D := D) (ci := 2) (v := .int (nI z)) (C := RX3) (T := TX3) (N := 2) hx hb hts in_X3 hown hK hP 0 rfl rfl 1 (by decide) (hts _ q220) (fun _ h9 => h9) rfl dX3_least_1 ?_
  refine q_ifne hx hb (by omega) (tgt := 11) dX3_least_4 (by decide) (fun hc => ?_) (fun hc => ?_)
  · refine lv_aload_n hx hb dX3_least_11 rfl (lv_at hl 0 rfl) ?_
    refine va_get (D := D) (ci := 2) (v := .ref bg) (C := RX3) (T := TX3) (N := 2) hx hb hts in_X3 hown hK hP 0 rfl rfl 0 (by decide) (hts _ q219) (fun _ h9 => h9) rfl dX3_least_12 ?_
    refine lv_aload_n hx hb dX3_least_15 rfl (lv_at hl 0 rfl) ?_
    have hPc := hP.sub (ws' := [(mo, .inr (2, [.ref bg, .int (nI z)])), (bg, la dJ 200 g)]) [0, 1] rfl
    have hDc := hD.sub (ws' := [(mo, .inr (2, [.ref bg, .int (nI z)])), (bg, la dJ 200 g)]) [0, 1] (by decide) rfl
    have hFc := va_free (wc := [(mo, .inr (2, [.ref bg, .int (nI z)])), (bg, la dJ 200 g)]) hD hS hA [0, 1] rfl
    refine va_calli (va_runV (As := []) (rest := [.ref bg]) ⟨hx, hb, hml, hown, hts⟩ (m_leastAt l D dJ mo bg _ z g hz hc) (cwV 0 hts (lw_V q243 q245 qs1 q6 q246) rfl rfl rfl (by decide +kernel) ⟨Nat.le_of_ble_eq_true rfl, Nat.le_of_ble_eq_true rfl⟩) (cP_V hK hPc hDc (ci := 2) (q := (RX3, TX3, 2)) (q0 := 0) rfl rfl) rfl rfl hl.1 rfl (lv_room (Nat.le_of_ble_eq_true rfl)) dX3_least_16 ⟨Nat.le_of_ble_eq_true rfl, Nat.le_of_ble_eq_true rfl⟩) hS (fun q _ h => hFc q h) hFc (fun r u t H1 locs ht hvm hw hB hzz hk1 hS => ?_)
    obtain ⟨hw1, hw2, hw3⟩ := hw
    subst hw1
    obtain ⟨hP1, hD1⟩ := hB
    rw [ht] at hP1
    obtain ⟨hP, hD⟩ := va_join (wr := []) (w1 := [(mo, .inr (2, [.ref bg, .int (nI z)])), (bg, la dJ 200 g)]) hP hD [0, 1] [] rfl rfl (by decide) (by decide) hk1 hFc hP1 hD1
    generalize H1 = H at hP hS ⊢
    have hP : va_P D vwCl ([(mo, .inr (2, [.ref bg, .int (nI z)])), (bg, la dJ 200 g)]) H := hP
    have hD : va_D A ([(mo, .inr (2, [.ref bg, .int (nI z)])), (bg, la dJ 200 g)]) := hD
    refine q_lald hx hb hK hP 1 rfl (i := u) (by omega) (by omega) dX3_least_19 ?_
    exact W.lret (v := g u) hx hb hr (fun t ht hW => ⟨⟨g u, (), rfl, ((lsR_ne (hol_ne hL (by assumption))).trans (hol_mn hL hw2 hw3)).symm, z, g, hL, hz, by rw [ht]; exact hP, hD⟩, hS.F ht⟩) hS.2.2 dX3_least_20
  · refine lv_lconst (v := 0) hx hb dX3_least_7 (by decide) ?_
    refine lv_goto (tgt := 20) hx hb dX3_least_8 (by decide) ?_
    subst hc
    have hN := hol_nil hL
    subst hN
    exact W.lret (v := 0) hx hb hr (fun t ht hW => ⟨⟨0, (), rfl, rfl, 0, g, hL, hz, by rw [ht]; exact hP, hD⟩, hS.F ht⟩) hS.2.2 dX3_least_20
set_option maxHeartbeats 4000000 in
set_option maxRecDepth 100000 in
/-- take() -/
theorem m_mtake (l : Launch) (D : va_G) (dJ : ClassId) (mo bg sz z : Nat) (g : Nat → Int64) (L : List Int64) (hz : z ≤ 200) (hL : hol g z L) : Met l yX3_take (ws_ yX3_take cX3_take 4 (some .long)) ({ frames := 1, cells := 0, slots := 0, locals := 22 } : Room) (va_Pc [.ref mo] (cP D dJ sz ([(mo, .inr (2, [.ref bg, .int (nI z)])), (bg, la dJ 200 g)]))) (va_Ql (fun (r : Int64) (_ : Unit) => r = lsR L) (fun (_ : Unit) t => mAt D dJ (va_A ([(mo, .inr (2, [.ref bg, .int (nI z)])), (bg, la dJ 200 g)]) sz) mo bg (L.erase (mn L)) t) (va_A ([(mo, .inr (2, [.ref bg, .int (nI z)])), (bg, la dJ 200 g)]) sz)) 0 0 (va_A ([(mo, .inr (2, [.ref bg, .int (nI z)])), (bg, la dJ 200 g)]) sz) := by
  refine Met.ofW (cc := cX3_take) (maxL := 4) (ret := (some .long)) (by decide) rfl ?_
  intro p e s m args below meth c s₁ B hml hv
  obtain ⟨rfl, hsz, hP, hK, hD0⟩ := hv
  have hx := B.exec
  have hb := B.bytes
  have hr := B.returns
  have hts := atoms_spec (ws := (ws_ yX3_take cX3_take 4 (some .long))) B.pre
  have hts : ∀ w ∈ lw_all, w.before _ s = true := fun w h => hts w (List.mem_cons_of_mem _ h)
  have hown : s.vm.findClass RX3 = some m.cls := findClass_of_methodNamed B.named
  have hlocks := B.notSynchronized
  subst hsz
  have hD := hD0.self (sz := s.heap.size)
  generalize hAe : va_A ([(mo, .inr (2, [.ref bg, .int (nI z)])), (bg, la dJ 200 g)]) s.heap.size = A at hD ⊢
  have hA : ∀ q : Nat, s.heap.size ≤ q → A q := fun q h => by rw [← hAe]; exact Or.inr h
  obtain ⟨H, hHe⟩ : ∃ H : Heap, H = s.heap := ⟨_, rfl⟩
  rw [← hHe]
  have hS : va_S A s.heap H [] := by rw [hHe]; exact va_S.rf
  have hP : va_P D vwCl ([(mo, .inr (2, [.ref bg, .int (nI z)])), (bg, la dJ 200 g)]) H := by rw [hHe]; exact hP
  have hl := lv_entry ([.ref mo]) (n := 4) (Nat.le_of_ble_eq_true rfl)
  rw [lg_entry_eq]
  generalize (lg_sl ([.ref mo]) ++ List.replicate (4 - (lg_sl ([.ref mo])).length) Slot.unset).toArray = ls at hl ⊢
  have hl : lv_has ls 4 [(0, .ref mo)] := hl
  refine lv_aload_n hx hb dX3_take_0 rfl (lv_at hl 0 rfl) ?_
  refine va_get (D := D) (ci := 2) (v := .int (nI z)) (C := RX3) (T := TX3) (N := 2) hx hb hts in_X3 hown hK hP 0 rfl rfl 1 (by decide) (hts _ q220) (fun _ h9 => h9) rfl dX3_take_1 ?_
  refine q_ifne hx hb (by omega) (tgt := 9) dX3_take_4 (by decide) (fun hc => ?_) (fun hc => ?_)
  · refine lv_aload_n hx hb dX3_take_9 rfl (lv_at hl 0 rfl) ?_
    have hPc := hP.sub (ws' := [(mo, .inr (2, [.ref bg, .int (nI z)])), (bg, la dJ 200 g)]) [0, 1] rfl
    have hDc := hD.sub (ws' := [(mo, .inr (2, [.ref bg, .int (nI z)])), (bg, la dJ 200 g)]) [0, 1] (by decide) rfl
    have hFc := va_free (wc := [(mo, .inr (2, [.ref bg, .int (nI z)])), (bg, la dJ 200 g)]) hD hS hA [0, 1] rfl
    refine va_calli (va_runV (As := []) (rest := []) ⟨hx, hb, hml, hown, hts⟩ (m_leastAt l D dJ mo bg _ z g hz hc) (cwV 0 hts (lw_V q243 q245 qs1 q6 q246) rfl rfl rfl (by decide +kernel) ⟨Nat.le_of_ble_eq_true rfl, Nat.le_of_ble_eq_true rfl⟩) (cP_V hK hPc hDc (ci := 2) (q := (RX3, TX3, 2)) (q0 := 0) rfl rfl) rfl rfl hl.1 rfl (lv_room (Nat.le_of_ble_eq_true rfl)) dX3_take_10 ⟨Nat.le_of_ble_eq_true rfl, Nat.le_of_ble_eq_true rfl⟩) hS (fun q _ h => hFc q h) hFc (fun r u t H1 locs ht hvm hw hB hzz hk1 hS => ?_)
    obtain ⟨hw1, hw2, hw3⟩ := hw
    subst hw1
    obtain ⟨hP1, hD1⟩ := hB
    rw [ht] at hP1
    obtain ⟨hP, hD⟩ := va_join (wr := []) (w1 := [(mo, .inr (2, [.ref bg, .int (nI z)])), (bg, la dJ 200 g)]) hP hD [0, 1] [] rfl rfl (by decide) (by decide) hk1 hFc hP1 hD1
    generalize H1 = H at hP hS ⊢
    have hP : va_P D vwCl ([(mo, .inr (2, [.ref bg, .int (nI z)])), (bg, la dJ 200 g)]) H := hP
    have hD : va_D A ([(mo, .inr (2, [.ref bg, .int (nI z)])), (bg, la dJ 200 g)]) := hD
    have hmn : mn L = g u := hol_mn hL hw2 hw3
    have hls : lsR L = g u := (lsR_ne (hol_ne hL (by assumption))).trans hmn
    obtain ⟨z, rfl⟩ : ∃ z1, z = z1 + 1 := ⟨z - 1, by omega⟩
    have hP : va_P D vwCl ([(mo, .inr (2, [.ref bg, .int (nI (z + 1))])), (bg, la dJ 200 g)]) H := hP
    have hD : va_D A ([(mo, .inr (2, [.ref bg, .int (nI (z + 1))])), (bg, la dJ 200 g)]) := hD
    refine lv_istore_n (lv' := [(1, .int (nI u)), (0, .ref mo)]) hx hb dX3_take_13 rfl hl (by decide) rfl (fun ls hl => ?_)
    refine lv_aload_n hx hb dX3_take_14 rfl (lv_at hl 1 rfl) ?_
    refine va_get (D := D) (ci := 2) (v := .ref bg) (C := RX3) (T := TX3) (N := 2) hx hb hts in_X3 hown hK hP 0 rfl rfl 0 (by decide) (hts _ q219) (fun _ h9 => h9) rfl dX3_take_15 ?_
    refine lv_iload_n hx hb dX3_take_18 rfl (lv_at hl 0 rfl) ?_
    refine q_lald hx hb hK hP 1 rfl (i := u) (by omega) (by omega) dX3_take_19 ?_
    refine lv_lstore_n (lv' := [(2, .long (g u)), (1, .int (nI u)), (0, .ref mo)]) hx hb dX3_take_20 rfl hl (by decide) rfl (fun ls hl => ?_)
    refine lv_aload_n hx hb dX3_take_21 rfl (lv_at hl 2 rfl) ?_
    refine lv_dup hx hb dX3_take_22 rfl ?_
    refine va_get (D := D) (ci := 2) (v := .int (nI (z + 1))) (C := RX3) (T := TX3) (N := 2) hx hb hts in_X3 hown hK hP 0 rfl rfl 1 (by decide) (hts _ q220) (fun _ h9 => h9) rfl dX3_take_23 ?_
    refine lv_iconst (v := 1) hx hb dX3_take_26 (by decide) ?_
    refine lv_isub hx hb dX3_take_27 ?_
    refine lv_topi (fun t9 et9 => ?_)
    obtain rfl : t9 = nI z := et9.trans (nI_pred z)
    refine va_put (D := D) (ci := 2) (v := .int (nI z)) (ty := .int) (C := RX3) (T := TX3) (N := 2) hx hb hts in_X3 tyX3 tyX3_ok nmX3 hown hK hP hD hS 0 rfl rfl 1 (by decide) (hts _ q220) (fun _ h9 => h9) rfl (by decide +kernel) rfl rfl (Nat.le_of_ble_eq_true rfl) dX3_take_28 (fun H locs hP hD hS => ?_)
    have hP : va_P D vwCl ([(mo, .inr (2, [.ref bg, .int (nI z)])), (bg, la dJ 200 g)]) H := hP
    have hD : va_D A ([(mo, .inr (2, [.ref bg, .int (nI z)])), (bg, la dJ 200 g)]) := hD
    refine lv_aload_n hx hb dX3_take_31 rfl (lv_at hl 2 rfl) ?_
    refine va_get (D := D) (ci := 2) (v := .ref bg) (C := RX3) (T := TX3) (N := 2) hx hb hts in_X3 hown hK hP 0 rfl rfl 0 (by decide) (hts _ q219) (fun _ h9 => h9) rfl dX3_take_32 ?_
    refine lv_iload_n hx hb dX3_take_35 rfl (lv_at hl 1 rfl) ?_
    refine lv_aload_n hx hb dX3_take_36 rfl (lv_at hl 2 rfl) ?_
    refine va_get (D := D) (ci := 2) (v := .ref bg) (C := RX3) (T := TX3) (N := 2) hx hb hts in_X3 hown hK hP 0 rfl rfl 0 (by decide) (hts _ q219) (fun _ h9 => h9) rfl dX3_take_37 ?_
    refine lv_aload_n hx hb dX3_take_40 rfl (lv_at hl 2 rfl) ?_
    refine va_get (D := D) (ci := 2) (v := .int (nI z)) (C := RX3) (T := TX3) (N := 2) hx hb hts in_X3 hown hK hP 0 rfl rfl 1 (by decide) (hts _ q220) (fun _ h9 => h9) rfl dX3_take_41 ?_
    refine q_lald hx hb hK hP 1 rfl (i := z) (by omega) (by omega) dX3_take_44 ?_
    refine q_last hx hb hK hP hD hS 1 rfl (i := u) (by omega) (by omega) dX3_take_45 (fun H locs hP hD hS => ?_)
    have hP : va_P D vwCl ([(mo, .inr (2, [.ref bg, .int (nI z)])), (bg, la dJ 200 (vp_updL g u (g z)))]) H := hP
    have hD : va_D A ([(mo, .inr (2, [.ref bg, .int (nI z)])), (bg, la dJ 200 (vp_updL g u (g z)))]) := hD
    refine lv_lload_n hx hb dX3_take_46 rfl (lv_at hl 0 rfl) ?_
    exact W.lret (v := g u) hx hb hr (fun t ht hW => ⟨⟨g u, (), rfl, hls.symm, z, vp_updL g u (g z), by rw [hmn]; exact hol_out hL hw2, by omega, by rw [ht]; exact hP, hD⟩, hS.F ht⟩) hS.2.2 dX3_take_47
  · refine lv_lconst (v := 0) hx hb dX3_take_7 (by decide) ?_
    subst hc
    have hN := hol_nil hL
    subst hN
    exact W.lret (v := 0) hx hb hr (fun t ht hW => ⟨⟨0, (), rfl, rfl, 0, g, hL, hz, by rw [ht]; exact hP, hD⟩, hS.F ht⟩) hS.2.2 dX3_take_8
set_option maxHeartbeats 4000000 in
set_option maxRecDepth 100000 in
/-- takeMany(n) -/
theorem m_mtakeMany (l : Launch) (D : va_G) (dJ : ClassId) (mo bg sz z : Nat) (g : Nat → Int64) (L : List Int64) (hz : z ≤ 200) (hL : hol g z L) (n : Int32) : Met l yX3_takeMany (ws_ yX3_takeMany cX3_takeMany 6 (some .long)) ({ frames := 2, cells := 0, slots := 0, locals := 45 } : Room) (va_Pc [.ref mo, .int n] (cP D dJ sz ([(mo, .inr (2, [.ref bg, .int (nI z)])), (bg, la dJ 200 g)]))) (va_Ql (fun (r : Int64) (_ : Unit) => r = (tm (tn5 n) L 0).1) (fun (_ : Unit) t => mAt D dJ (va_A ([(mo, .inr (2, [.ref bg, .int (nI z)])), (bg, la dJ 200 g)]) sz) mo bg ((tm (tn5 n) L 0).2) t) (va_A ([(mo, .inr (2, [.ref bg, .int (nI z)])), (bg, la dJ 200 g)]) sz)) 0 0 (va_A ([(mo, .inr (2, [.ref bg, .int (nI z)])), (bg, la dJ 200 g)]) sz) := by
  refine Met.ofW (cc := cX3_takeMany) (maxL := 6) (ret := (some .long)) (by decide) rfl ?_
  intro p e s m args below meth c s₁ B hml hv
  obtain ⟨rfl, hsz, hP, hK, hD0⟩ := hv
  have hx := B.exec
  have hb := B.bytes
  have hr := B.returns
  have hts := atoms_spec (ws := (ws_ yX3_takeMany cX3_takeMany 6 (some .long))) B.pre
  have hts : ∀ w ∈ lw_all, w.before _ s = true := fun w h => hts w (List.mem_cons_of_mem _ h)
  have hown : s.vm.findClass RX3 = some m.cls := findClass_of_methodNamed B.named
  have hlocks := B.notSynchronized
  subst hsz
  have hD := hD0.self (sz := s.heap.size)
  generalize hAe : va_A ([(mo, .inr (2, [.ref bg, .int (nI z)])), (bg, la dJ 200 g)]) s.heap.size = A at hD ⊢
  have hA : ∀ q : Nat, s.heap.size ≤ q → A q := fun q h => by rw [← hAe]; exact Or.inr h
  obtain ⟨H, hHe⟩ : ∃ H : Heap, H = s.heap := ⟨_, rfl⟩
  rw [← hHe]
  have hS : va_S A s.heap H [] := by rw [hHe]; exact va_S.rf
  have hP : va_P D vwCl ([(mo, .inr (2, [.ref bg, .int (nI z)])), (bg, la dJ 200 g)]) H := by rw [hHe]; exact hP
  have hl := lv_entry ([.ref mo, .int n]) (n := 6) (Nat.le_of_ble_eq_true rfl)
  rw [lg_entry_eq]
  generalize (lg_sl ([.ref mo, .int n]) ++ List.replicate (6 - (lg_sl ([.ref mo, .int n])).length) Slot.unset).toArray = ls at hl ⊢
  have hl : lv_has ls 6 [(0, .ref mo), (1, .int n)] := hl
  have htn := tn5_lt n
  refine lv_lconst (v := 0) hx hb dX3_takeMany_0 (by decide) ?_
  refine lv_lstore_n (lv' := [(2, .long 0), (0, .ref mo), (1, .int n)]) hx hb dX3_takeMany_1 rfl hl (by decide) rfl (fun ls hl => ?_)
  refine lv_iload_n hx hb dX3_takeMany_2 rfl (lv_at hl 2 rfl) ?_
  refine lv_bipush (v := 31) hx hb dX3_takeMany_3 (by decide) ?_
  refine lv_iand hx hb dX3_takeMany_5 ?_
  refine lv_topi (fun t10 et10 => ?_)
  obtain rfl : t10 = nI (tn5 n) := et10.trans (pk_and n 5 (by decide))
  refine lv_istore (lv' := [(4, .int (nI (tn5 n))), (2, .long 0), (0, .ref mo), (1, .int n)]) hx hb dX3_takeMany_6 hl (by decide) rfl (fun ls hl => ?_)
  refine lv_iconst (v := 0) hx hb dX3_takeMany_8 (by decide) ?_
  refine lv_istore (lv' := [(5, .int 0), (4, .int (nI (tn5 n))), (2, .long 0), (0, .ref mo), (1, .int n)]) hx hb dX3_takeMany_9 hl (by decide) rfl (fun ls hl => ?_)
  have hl : lv_has ls 6 [(0, .ref mo), (2, .long 0), (4, .int (nI (tn5 n))), (5, .int (nI 0))] := lv_sub hl [3, 2, 1, 0] rfl
  have exit : ∀ (M : List Int64) (a : Int64) (z : Nat) (g : Nat → Int64) (H : Heap) (locs : List Loc) (ls : Array Slot), (a, M) = tm (tn5 n) L 0 → z ≤ 200 → hol g z M → va_P D vwCl [(mo, .inr (2, [.ref bg, .int (nI z)])), (bg, la dJ 200 g)] H → va_D A [(mo, .inr (2, [.ref bg, .int (nI z)])), (bg, la dJ 200 g)] → va_S A s.heap H locs → lv_has ls 6 [(2, .long a)] → W p l e (headSpec (ws_ yX3_takeMany cX3_takeMany 6 (some .long)) ({ frames := 2, cells := 0, slots := 0, locals := 45 } : Room)).room s m ([.ref mo, .int n] : List Value).toArray below meth c H locs 0 0 (MQ below (va_Ql (fun (r : Int64) (_ : Unit) => r = (tm (tn5 n) L 0).1) (fun (_ : Unit) t => mAt D dJ A mo bg ((tm (tn5 n) L 0).2) t) A) ([.ref mo, .int n] : List Value).toArray s 0 0 A) (F0 m 42 ls []) := by
    intro M a z g H locs ls hM hz hol1 hP hD hS hl
    refine lv_lload_n hx hb dX3_takeMany_42 rfl (lv_at hl 0 rfl) ?_
    exact W.lret (v := a) hx hb hr (fun t ht hW => ⟨⟨a, (), rfl, by rw [← hM], z, g, by rw [← hM]; exact hol1, hz, by rw [ht]; exact hP, hD⟩, hS.F ht⟩) hS.2.2 dX3_takeMany_43
  have loop : ∀ (r k : Nat) (M : List Int64) (a : Int64) (z : Nat) (g : Nat → Int64) (H : Heap) (locs : List Loc) (ls : Array Slot), k + r = tn5 n → tm r M a = tm (tn5 n) L 0 → z ≤ 200 → hol g z M → va_P D vwCl [(mo, .inr (2, [.ref bg, .int (nI z)])), (bg, la dJ 200 g)] H → va_D A [(mo, .inr (2, [.ref bg, .int (nI z)])), (bg, la dJ 200 g)] → va_S A s.heap H locs → lv_has ls 6 [(0, .ref mo), (2, .long a), (4, .int (nI (tn5 n))), (5, .int (nI k))] → W p l e (headSpec (ws_ yX3_takeMany cX3_takeMany 6 (some .long)) ({ frames := 2, cells := 0, slots := 0, locals := 45 } : Room)).room s m ([.ref mo, .int n] : List Value).toArray below meth c H locs 0 0 (MQ below (va_Ql (fun (r : Int64) (_ : Unit) => r = (tm (tn5 n) L 0).1) (fun (_ : Unit) t => mAt D dJ A mo bg ((tm (tn5 n) L 0).2) t) A) ([.ref mo, .int n] : List Value).toArray s 0 0 A) (F0 m 11 ls []) := by
    intro r
    induction r with
    | zero =>
      intro k M a z g H locs ls hk hM hz hol1 hP hD hS hl
      refine lv_iload hx hb dX3_takeMany_11 (lv_at hl 3 rfl) ?_
      refine lv_iload hx hb dX3_takeMany_13 (lv_at hl 2 rfl) ?_
      refine q_icge hx hb (by omega) (by omega) (tgt := 42) dX3_takeMany_15 (by decide) (fun hc => ?_) (fun hc => ?_)
      · exact exit M a z g H locs ls (by rw [← hM, tm_0]) hz hol1 hP hD hS (lv_sub hl [1] rfl)
      · exact absurd hc (by omega)
    | succ r ih =>
      intro k M a z g H locs ls hk hM hz hol1 hP hD hS hl
      refine lv_iload hx hb dX3_takeMany_11 (lv_at hl 3 rfl) ?_
      refine lv_iload hx hb dX3_takeMany_13 (lv_at hl 2 rfl) ?_
      refine q_icge hx hb (by omega) (by omega) (tgt := 42) dX3_takeMany_15 (by decide) (fun hc => ?_) (fun hc => ?_)
      · exact absurd hc (by omega)
      · refine lv_aload_n hx hb dX3_takeMany_18 rfl (lv_at hl 0 rfl) ?_
        refine va_get (D := D) (ci := 2) (v := .int (nI z)) (C := RX3) (T := TX3) (N := 2) hx hb hts in_X3 hown hK hP 0 rfl rfl 1 (by decide) (hts _ q220) (fun _ h9 => h9) rfl dX3_takeMany_19 ?_
        refine q_ifle hx hb (by omega) (tgt := 42) dX3_takeMany_22 (by decide) (fun hc => ?_) (fun hc => ?_)
        · subst hc
          have hN := hol_nil hol1
          subst hN
          exact exit [] a 0 g H locs ls (by rw [← hM, tm_nil]) hz hol1 hP hD hS (lv_sub hl [1] rfl)
        · have hne := hol_ne hol1 hc
          refine lv_lload_n hx hb dX3_takeMany_25 rfl (lv_at hl 1 rfl) ?_
          refine lv_ldc2 (v := 31) hx hb hown (hts _ q255) dX3_takeMany_26 ?_
          refine lv_lmul hx hb dX3_takeMany_29 ?_
          refine lv_topl (fun t11 et11 => ?_)
          obtain rfl : t11 = a * 31 := et11.trans (rfl)
          refine lv_aload_n hx hb dX3_takeMany_30 rfl (lv_at hl 0 rfl) ?_
          have hPc := hP.sub (ws' := [(mo, .inr (2, [.ref bg, .int (nI z)])), (bg, la dJ 200 g)]) [0, 1] rfl
          have hDc := hD.sub (ws' := [(mo, .inr (2, [.ref bg, .int (nI z)])), (bg, la dJ 200 g)]) [0, 1] (by decide) rfl
          have hFc := va_free (wc := [(mo, .inr (2, [.ref bg, .int (nI z)])), (bg, la dJ 200 g)]) hD hS hA [0, 1] rfl
          refine va_calll (va_runV (As := []) (rest := [.long (a * 31)]) ⟨hx, hb, hml, hown, hts⟩ (m_mtake l D dJ mo bg _ z g M hz hol1) (cwV 0 hts (lw_V q256 q248 q249 q6 q250) rfl rfl rfl (by decide +kernel) ⟨Nat.le_of_ble_eq_true rfl, Nat.le_of_ble_eq_true rfl⟩) (cP_V hK hPc hDc (ci := 2) (q := (RX3, TX3, 2)) (q0 := 0) rfl rfl) rfl rfl hl.1 rfl (lv_room (Nat.le_of_ble_eq_true rfl)) dX3_takeMany_31 ⟨Nat.le_of_ble_eq_true rfl, Nat.le_of_ble_eq_true rfl⟩) hS (fun q _ h => hFc q h) hFc (fun r1 u t H1 locs ht hvm hw hB hzz hk1 hS => ?_)
          have hw : r1 = lsR M := hw
          rw [lsR_ne hne] at hw
          subst hw
          obtain ⟨z', g', hol2, hz', hP1, hD1⟩ := hB
          rw [ht] at hP1
          obtain ⟨hP, hD⟩ := va_join (wr := []) (w1 := [(mo, .inr (2, [.ref bg, .int (nI z')])), (bg, la dJ 200 g')]) hP hD [0, 1] [] rfl rfl (by decide) (by decide) hk1 hFc hP1 hD1
          generalize H1 = H at hP hS ⊢
          have hP : va_P D vwCl ([(mo, .inr (2, [.ref bg, .int (nI z')])), (bg, la dJ 200 g')]) H := hP
          have hD : va_D A ([(mo, .inr (2, [.ref bg, .int (nI z')])), (bg, la dJ 200 g')]) := hD
          refine lv_ladd hx hb dX3_takeMany_34 ?_
          refine lv_topl (fun t12 et12 => ?_)
          obtain rfl : t12 = a * 31 + mn M := et12.trans (rfl)
          refine lv_lstore_n (lv' := [(2, .long (a * 31 + mn M)), (0, .ref mo), (4, .int (nI (tn5 n))), (5, .int (nI k))]) hx hb dX3_takeMany_35 rfl hl (by decide) rfl (fun ls hl => ?_)
          refine lv_iinc (v := nI (k + 1)) (lv' := [(5, .int (nI (k + 1))), (2, .long (a * 31 + mn M)), (0, .ref mo), (4, .int (nI (tn5 n)))]) hx hb dX3_takeMany_36 hl (k := 3) rfl (nI_1 k) (by decide) rfl (fun ls hl => ?_)
          refine lv_goto (tgt := 11) hx hb dX3_takeMany_39 (by decide) ?_
          exact ih (k + 1) (M.erase (mn M)) (a * 31 + mn M) z' g' H locs ls (by omega) (by rw [← hM, tm_cons hne]) hz' hol2 hP hD hS (lv_sub hl [2, 1, 3, 0] rfl)
  exact loop (tn5 n) 0 L 0 z g H [] ls (by omega) rfl hz hL hP hD hS hl
set_option maxHeartbeats 4000000 in
set_option maxRecDepth 100000 in
/-- waiting() -/
theorem m_mwaiting (l : Launch) (D : va_G) (dJ : ClassId) (mo bg sz z : Nat) (g : Nat → Int64) (L : List Int64) (hz : z ≤ 200) (hL : hol g z L) : Met l yX3_waiting (ws_ yX3_waiting cX3_waiting 1 (some .int)) ({ frames := 0, cells := 0, slots := 0, locals := 0 } : Room) (va_Pc [.ref mo] (cP D dJ sz ([(mo, .inr (2, [.ref bg, .int (nI z)])), (bg, la dJ 200 g)]))) (va_Qi (fun (r : Int32) (_ : Unit) => r = nI L.length) (fun (_ : Unit) t => mAt D dJ (va_A ([(mo, .inr (2, [.ref bg, .int (nI z)])), (bg, la dJ 200 g)]) sz) mo bg (L) t) (va_A ([(mo, .inr (2, [.ref bg, .int (nI z)])), (bg, la dJ 200 g)]) sz)) 0 0 (va_A ([(mo, .inr (2, [.ref bg, .int (nI z)])), (bg, la dJ 200 g)]) sz) := by
  refine Met.ofW (cc := cX3_waiting) (maxL := 1) (ret := (some .int)) (by decide) rfl ?_
  intro p e s m args below meth c s₁ B hml hv
  obtain ⟨rfl, hsz, hP, hK, hD0⟩ := hv
  have hx := B.exec
  have hb := B.bytes
  have hr := B.returns
  have hts := atoms_spec (ws := (ws_ yX3_waiting cX3_waiting 1 (some .int))) B.pre
  have hts : ∀ w ∈ lw_all, w.before _ s = true := fun w h => hts w (List.mem_cons_of_mem _ h)
  have hown : s.vm.findClass RX3 = some m.cls := findClass_of_methodNamed B.named
  have hlocks := B.notSynchronized
  subst hsz
  have hD := hD0.self (sz := s.heap.size)
  generalize hAe : va_A ([(mo, .inr (2, [.ref bg, .int (nI z)])), (bg, la dJ 200 g)]) s.heap.size = A at hD ⊢
  have hA : ∀ q : Nat, s.heap.size ≤ q → A q := fun q h => by rw [← hAe]; exact Or.inr h
  obtain ⟨H, hHe⟩ : ∃ H : Heap, H = s.heap := ⟨_, rfl⟩
  rw [← hHe]
  have hS : va_S A s.heap H [] := by rw [hHe]; exact va_S.rf
  have hP : va_P D vwCl ([(mo, .inr (2, [.ref bg, .int (nI z)])), (bg, la dJ 200 g)]) H := by rw [hHe]; exact hP
  have hl := lv_entry ([.ref mo]) (n := 1) (Nat.le_of_ble_eq_true rfl)
  rw [lg_entry_eq]
  generalize (lg_sl ([.ref mo]) ++ List.replicate (1 - (lg_sl ([.ref mo])).length) Slot.unset).toArray = ls at hl ⊢
  have hl : lv_has ls 1 [(0, .ref mo)] := hl
  refine lv_aload_n hx hb dX3_waiting_0 rfl (lv_at hl 0 rfl) ?_
  refine va_get (D := D) (ci := 2) (v := .int (nI z)) (C := RX3) (T := TX3) (N := 2) hx hb hts in_X3 hown hK hP 0 rfl rfl 1 (by decide) (hts _ q220) (fun _ h9 => h9) rfl dX3_waiting_1 ?_
  exact W.iret (v := nI z) hx hb hr (fun t ht hW => ⟨⟨nI z, (), rfl, by rw [hol_len hL], z, g, hL, hz, by rw [ht]; exact hP, hD⟩, hS.F ht⟩) hS.2.2 dX3_waiting_4
set_option maxHeartbeats 4000000 in
set_option maxRecDepth 100000 in
/-- shrink() -/
theorem m_mshrink (l : Launch) (D : va_G) (dJ : ClassId) (mo bg sz z : Nat) (g : Nat → Int64) (L : List Int64) (hz : z ≤ 200) (hL : hol g z L) : Met l yX3_shrink (ws_ yX3_shrink cX3_shrink 1 none) ({ frames := 0, cells := 0, slots := 0, locals := 0 } : Room) (va_Pc [.ref mo] (cP D dJ sz ([(mo, .inr (2, [.ref bg, .int (nI z)])), (bg, la dJ 200 g)]))) (va_Qv (fun (_ : Unit) => True) (fun (_ : Unit) t => mAt D dJ (va_A ([(mo, .inr (2, [.ref bg, .int (nI z)])), (bg, la dJ 200 g)]) sz) mo bg (L) t) (va_A ([(mo, .inr (2, [.ref bg, .int (nI z)])), (bg, la dJ 200 g)]) sz)) 0 0 (va_A ([(mo, .inr (2, [.ref bg, .int (nI z)])), (bg, la dJ 200 g)]) sz) := by
  refine Met.ofW (cc := cX3_shrink) (maxL := 1) (ret := none) (by decide) rfl ?_
  intro p e s m args below meth c s₁ B hml hv
  obtain ⟨rfl, hsz, hP, hK, hD0⟩ := hv
  have hx := B.exec
  have hb := B.bytes
  have hr := B.returns
  have hts := atoms_spec (ws := (ws_ yX3_shrink cX3_shrink 1 none)) B.pre
  have hts : ∀ w ∈ lw_all, w.before _ s = true := fun w h => hts w (List.mem_cons_of_mem _ h)
  have hown : s.vm.findClass RX3 = some m.cls := findClass_of_methodNamed B.named
  have hlocks := B.notSynchronized
  subst hsz
  have hD := hD0.self (sz := s.heap.size)
  generalize hAe : va_A ([(mo, .inr (2, [.ref bg, .int (nI z)])), (bg, la dJ 200 g)]) s.heap.size = A at hD ⊢
  have hA : ∀ q : Nat, s.heap.size ≤ q → A q := fun q h => by rw [← hAe]; exact Or.inr h
  obtain ⟨H, hHe⟩ : ∃ H : Heap, H = s.heap := ⟨_, rfl⟩
  rw [← hHe]
  have hS : va_S A s.heap H [] := by rw [hHe]; exact va_S.rf
  have hP : va_P D vwCl ([(mo, .inr (2, [.ref bg, .int (nI z)])), (bg, la dJ 200 g)]) H := by rw [hHe]; exact hP
  have hl := lv_entry ([.ref mo]) (n := 1) (Nat.le_of_ble_eq_true rfl)
  rw [lg_entry_eq]
  generalize (lg_sl ([.ref mo]) ++ List.replicate (1 - (lg_sl ([.ref mo])).length) Slot.unset).toArray = ls at hl ⊢
  have hl : lv_has ls 1 [(0, .ref mo)] := hl
  exact W.vret hx hb hr (fun t ht hW => ⟨⟨(), rfl, trivial, z, g, hL, hz, by rw [ht]; exact hP, hD⟩, hS.F ht⟩) hS.2.2 dX3_shrink_0
set_option maxHeartbeats 4000000 in
set_option maxRecDepth 100000 in
/-- drain() -/
theorem m_mdrain (l : Launch) (D : va_G) (dJ : ClassId) (mo bg sz z : Nat) (g : Nat → Int64) (L : List Int64) (hz : z ≤ 200) (hL : hol g z L) : Met l yX3_drain (ws_ yX3_drain cX3_drain 1 none) ({ frames := 0, cells := 0, slots := 0, locals := 0 } : Room) (va_Pc [.ref mo] (cP D dJ sz ([(mo, .inr (2, [.ref bg, .int (nI z)])), (bg, la dJ 200 g)]))) (va_Qv (fun (_ : Unit) => True) (fun (_ : Unit) t => mAt D dJ (va_A ([(mo, .inr (2, [.ref bg, .int (nI z)])), (bg, la dJ 200 g)]) sz) mo bg ([]) t) (va_A ([(mo, .inr (2, [.ref bg, .int (nI z)])), (bg, la dJ 200 g)]) sz)) 0 0 (va_A ([(mo, .inr (2, [.ref bg, .int (nI z)])), (bg, la dJ 200 g)]) sz) := by
  refine Met.ofW (cc := cX3_drain) (maxL := 1) (ret := none) (by decide) rfl ?_
  intro p e s m args below meth c s₁ B hml hv
  obtain ⟨rfl, hsz, hP, hK, hD0⟩ := hv
  have hx := B.exec
  have hb := B.bytes
  have hr := B.returns
  have hts := atoms_spec (ws := (ws_ yX3_drain cX3_drain 1 none)) B.pre
  have hts : ∀ w ∈ lw_all, w.before _ s = true := fun w h => hts w (List.mem_cons_of_mem _ h)
  have hown : s.vm.findClass RX3 = some m.cls := findClass_of_methodNamed B.named
  have hlocks := B.notSynchronized
  subst hsz
  have hD := hD0.self (sz := s.heap.size)
  generalize hAe : va_A ([(mo, .inr (2, [.ref bg, .int (nI z)])), (bg, la dJ 200 g)]) s.heap.size = A at hD ⊢
  have hA : ∀ q : Nat, s.heap.size ≤ q → A q := fun q h => by rw [← hAe]; exact Or.inr h
  obtain ⟨H, hHe⟩ : ∃ H : Heap, H = s.heap := ⟨_, rfl⟩
  rw [← hHe]
  have hS : va_S A s.heap H [] := by rw [hHe]; exact va_S.rf
  have hP : va_P D vwCl ([(mo, .inr (2, [.ref bg, .int (nI z)])), (bg, la dJ 200 g)]) H := by rw [hHe]; exact hP
  have hl := lv_entry ([.ref mo]) (n := 1) (Nat.le_of_ble_eq_true rfl)
  rw [lg_entry_eq]
  generalize (lg_sl ([.ref mo]) ++ List.replicate (1 - (lg_sl ([.ref mo])).length) Slot.unset).toArray = ls at hl ⊢
  have hl : lv_has ls 1 [(0, .ref mo)] := hl
  refine lv_aload_n hx hb dX3_drain_0 rfl (lv_at hl 0 rfl) ?_
  refine lv_iconst (v := 0) hx hb dX3_drain_1 (by decide) ?_
  refine va_put (D := D) (ci := 2) (v := .int 0) (ty := .int) (C := RX3) (T := TX3) (N := 2) hx hb hts in_X3 tyX3 tyX3_ok nmX3 hown hK hP hD hS 0 rfl rfl 1 (by decide) (hts _ q220) (fun _ h9 => h9) rfl (by decide +kernel) rfl rfl (Nat.le_of_ble_eq_true rfl) dX3_drain_2 (fun H locs hP hD hS => ?_)
  have hP : va_P D vwCl ([(mo, .inr (2, [.ref bg, .int 0])), (bg, la dJ 200 g)]) H := hP
  have hD : va_D A ([(mo, .inr (2, [.ref bg, .int 0])), (bg, la dJ 200 g)]) := hD
  exact W.vret hx hb hr (fun t ht hW => ⟨⟨(), rfl, trivial, 0, g, hol_0 g, by decide, by rw [ht]; exact hP, hD⟩, hS.F ht⟩) hS.2.2 dX3_drain_5
end
section
/-! LongHeapDesk: the desk at x, its queue at h; L: what it holds, as a list up to its order -/
/-- the queue's numbers hold the list L, as a heap -/
def dok (e0 a n z : Nat) (f : Nat → Int64) (LP : List Nat) (L : List Int64) : Prop := okq e0 a n LP ∧ n ≤ 300 ∧ z ≤ n ∧ z ≤ 200 ∧ hp 0 f z ∧ hol f z L
/-- the desk at x holds the list L -/
def dAt (D : va_G) (dJ : ClassId) (e0 : Nat) (A : Nat → Prop) (x : Nat) (L : List Int64) (t : State) : Prop := ∃ (h a n z : Nat) (f : Nat → Int64) (LP : List Nat), dok e0 a n z f LP L ∧ cB D A ([(x, .inr (0, [.ref h])), (h, .inr (1, [.ref a, .int (nI z), .null]))] ++ va_pl LP (fun _ => la dJ n f)) t
set_option maxHeartbeats 4000000 in
set_option maxRecDepth 100000 in
/-- of(hi, lo) -/
theorem m_of (l : Launch) (D : va_G) (dJ : ClassId) (sz : Nat) (hi lo : Int32) : Met l yX0_of (ws_ yX0_of cX0_of 2 (some .long)) ({ frames := 0, cells := 0, slots := 0, locals := 0 } : Room) (va_Pc [.int hi, .int lo] (cP D dJ sz ([]))) (va_Ql (fun (r : Int64) (_ : Unit) => r = wd hi lo) (fun _ t => cB D (va_A ([]) sz) [] t) (va_A ([]) sz)) 0 0 (va_A ([]) sz) := by
  refine Met.ofW (cc := cX0_of) (maxL := 2) (ret := (some .long)) (by decide) rfl ?_
  intro p e s m args below meth c s₁ B hml hv
  obtain ⟨rfl, hsz, hP, hK, hD0⟩ := hv
  have hx := B.exec
  have hb := B.bytes
  have hr := B.returns
  have hts := atoms_spec (ws := (ws_ yX0_of cX0_of 2 (some .long))) B.pre
  have hts : ∀ w ∈ lw_all, w.before _ s = true := fun w h => hts w (List.mem_cons_of_mem _ h)
  have hown : s.vm.findClass RX0 = some m.cls := findClass_of_methodNamed B.named
  have hlocks := B.notSynchronized
  subst hsz
  have hD := hD0.self (sz := s.heap.size)
  generalize hAe : va_A ([]) s.heap.size = A at hD ⊢
  have hA : ∀ q : Nat, s.heap.size ≤ q → A q := fun q h => by rw [← hAe]; exact Or.inr h
  obtain ⟨H, hHe⟩ : ∃ H : Heap, H = s.heap := ⟨_, rfl⟩
  rw [← hHe]
  have hS : va_S A s.heap H [] := by rw [hHe]; exact va_S.rf
  have hP : va_P D vwCl ([]) H := by rw [hHe]; exact hP
  have hl := lv_entry ([.int hi, .int lo]) (n := 2) (Nat.le_of_ble_eq_true rfl)
  rw [lg_entry_eq]
  generalize (lg_sl ([.int hi, .int lo]) ++ List.replicate (2 - (lg_sl ([.int hi, .int lo])).length) Slot.unset).toArray = ls at hl ⊢
  have hl : lv_has ls 2 [(0, .int hi), (1, .int lo)] := hl
  refine lv_iload_n hx hb dX0_of_0 rfl (lv_at hl 0 rfl) ?_
  refine lv_i2l (v := hi.toInt64) hx hb dX0_of_1 (rfl) ?_
  refine lv_bipush (v := 32) hx hb dX0_of_2 (by decide) ?_
  refine lv_lshl hx hb dX0_of_4 (rfl) ?_
  refine lv_topl (fun t1 et1 => ?_)
  obtain rfl : t1 = hi.toInt64 <<< ((32 : Int32).toInt64 &&& 63) := et1.trans (rfl)
  refine lv_iload_n hx hb dX0_of_5 rfl (lv_at hl 1 rfl) ?_
  refine lv_i2l (v := lo.toInt64) hx hb dX0_of_6 (rfl) ?_
  refine lv_ldc2 (v := 4294967295) hx hb hown (hts _ q59) dX0_of_7 ?_
  refine lv_land hx hb dX0_of_10 ?_
  refine lv_topl (fun t2 et2 => ?_)
  obtain rfl : t2 = lo.toInt64 &&& 4294967295 := et2.trans (rfl)
  refine lv_lor hx hb dX0_of_11 ?_
  refine lv_topl (fun t3 et3 => ?_)
  obtain rfl : t3 = wd hi lo := et3.trans (rfl)
  exact W.lret (v := wd hi lo) hx hb hr (fun t ht hW => ⟨⟨wd hi lo, (), rfl, rfl, by rw [ht]; exact hP, hD⟩, hS.F ht⟩) hS.2.2 dX0_of_12
set_option maxHeartbeats 4000000 in
set_option maxRecDepth 100000 in
/-- LongHeapDesk() -/
theorem m_dinit (l : Launch) (D : va_G) (dJ : ClassId) (e0 x sz : Nat) : Met l yX0_init (ws_ yX0_init cX0_init 1 none) ({ frames := 3, cells := 1, slots := 3, locals := 54 } : Room) (va_Pc [.ref x] (cE D dJ e0 sz ([(x, .inr (0, [.null]))]))) (va_Qv (fun (_ : Unit) => True) (fun (_ : Unit) t => dAt D dJ e0 (va_A ([(x, .inr (0, [.null]))]) sz) x ([]) t) (va_A ([(x, .inr (0, [.null]))]) sz)) 1 3 (va_A ([(x, .inr (0, [.null]))]) sz) := by
  refine Met.ofW (cc := cX0_init) (maxL := 1) (ret := none) (by decide) rfl ?_
  intro p e s m args below meth c s₁ B hml hv
  obtain ⟨rfl, ⟨hsz, hP, hK, hD0⟩, hE⟩ := hv
  have hx := B.exec
  have hb := B.bytes
  have hr := B.returns
  have hts := atoms_spec (ws := (ws_ yX0_init cX0_init 1 none)) B.pre
  have hts : ∀ w ∈ lw_all, w.before _ s = true := fun w h => hts w (List.mem_cons_of_mem _ h)
  have hown : s.vm.findClass RX0 = some m.cls := findClass_of_methodNamed B.named
  have hlocks := B.notSynchronized
  have hin : meth.name = "<init>" := (name_of_methodNamed B.named B.method).1
  subst hsz
  have hD := hD0.self (sz := s.heap.size)
  generalize hAe : va_A ([(x, .inr (0, [.null]))]) s.heap.size = A at hD hE ⊢
  have hA : ∀ q : Nat, s.heap.size ≤ q → A q := fun q h => by rw [← hAe]; exact Or.inr h
  obtain ⟨H, hHe⟩ : ∃ H : Heap, H = s.heap := ⟨_, rfl⟩
  rw [← hHe]
  have hS : va_S A s.heap H [] := by rw [hHe]; exact va_S.rf
  have hP : va_P D vwCl ([(x, .inr (0, [.null]))]) H := by rw [hHe]; exact hP
  have hl := lv_entry ([.ref x]) (n := 1) (Nat.le_of_ble_eq_true rfl)
  rw [lg_entry_eq]
  generalize (lg_sl ([.ref x]) ++ List.replicate (1 - (lg_sl ([.ref x])).length) Slot.unset).toArray = ls at hl ⊢
  have hl : lv_has ls 1 [(0, .ref x)] := hl
  refine lv_aload_n hx hb dX0_init_0 rfl (lv_at hl 0 rfl) ?_
  refine W.objInit hx hb hown (hts _ q19) (hts _ q20) (hts _ q21) rfl (by rw [hml]; exact hl.1) rfl dX0_init_1 (Nat.le_of_ble_eq_true rfl) (Nat.le_of_ble_eq_true rfl) ?_
  refine W.eq (g2 := F0 m 4 ls []) rfl ?_
  refine lv_aload_n hx hb dX0_init_4 rfl (lv_at hl 0 rfl) ?_
  refine va_new (ci := 1) (fs := [.null, .int 0, .null]) (C := RX1) (T := TX1) (N := 3) hx hb hts in_X1 tyX1 tyX1_ok hown (hts _ q22) (hts _ q23) (hts _ q4) hK hP hD hS hA rfl (fun j hj => by rcases (show j = 0 ∨ j = 1 ∨ j = 2 by omega) with rfl | rfl | rfl <;> rfl) (Nat.le_of_ble_eq_true rfl) (Nat.le_of_ble_eq_true rfl) dX0_init_5 (fun h H hP hD hS => ?_)
  have hP : va_P D vwCl ([(x, .inr (0, [.null])), (h, .inr (1, [.null, .int 0, .null]))]) H := hP
  have hD : va_D A ([(x, .inr (0, [.null])), (h, .inr (1, [.null, .int 0, .null]))]) := hD
  refine W.widen (k := 1) (n := 3) (Nat.le_of_ble_eq_true rfl) (Nat.le_of_ble_eq_true rfl) ?_
  refine lv_dup hx hb dX0_init_8 rfl ?_
  have hPc := hP.sub (ws' := [(h, .inr (1, [.null, .int 0, .null]))]) [1] rfl
  have hDc := hD.sub (ws' := [(h, .inr (1, [.null, .int 0, .null]))]) [1] (by decide) rfl
  have hFc := va_free (wc := [(h, .inr (1, [.null, .int 0, .null]))]) hD hS hA [1] rfl
  refine va_callv (va_runI (As := []) (rest := [.ref h, .ref x]) ⟨hx, hb, hml, hown, hts⟩ (m_qinit l D dJ e0 h _) (cwI 0 hts (lw_meth q26) rfl rfl rfl (hts _ q4) (hts _ q24) (hts _ q25) rfl (by decide +kernel) ⟨Nat.le_of_ble_eq_true rfl, Nat.le_of_ble_eq_true rfl⟩) (cE_S hK hPc hDc hE hS hFc) rfl rfl hl.1 rfl (lv_room (Nat.le_of_ble_eq_true rfl)) dX0_init_9 ⟨Nat.le_of_ble_eq_true rfl, Nat.le_of_ble_eq_true rfl⟩) hS (fun q _ h => hFc q h) hFc (fun u t H1 locs ht hvm hw hB hzz hk1 hS => ?_)
  obtain ⟨hP1, hD1⟩ := hB
  rw [ht] at hP1
  obtain ⟨hP, hD⟩ := va_join (wr := [(x, .inr (0, [.null]))]) (w1 := [(h, .inr (1, [.ref e0, .int 0, .null]))]) hP hD [1] [0] rfl rfl (by decide) (by decide) hk1 hFc hP1 hD1
  generalize H1 = H at hP hS ⊢
  have hP : va_P D vwCl ([(x, .inr (0, [.null])), (h, .inr (1, [.ref e0, .int 0, .null]))]) H := hP
  have hD : va_D A ([(x, .inr (0, [.null])), (h, .inr (1, [.ref e0, .int 0, .null]))]) := hD
  refine va_put (D := D) (ci := 0) (v := .ref h) (ty := .object "LongHeapPriorityQueue") (C := RX0) (T := TX0) (N := 1) hx hb hts in_X0 tyX0 tyX0_ok nmX0 hown hK hP hD hS 0 rfl rfl 0 (by decide) (hts _ q44) (fun _ h9 => h9) rfl (by decide +kernel) rfl rfl (Nat.le_of_ble_eq_true rfl) dX0_init_12 (fun H locs hP hD hS => ?_)
  have hP : va_P D vwCl ([(x, .inr (0, [.ref h])), (h, .inr (1, [.ref e0, .int 0, .null]))]) H := hP
  have hD : va_D A ([(x, .inr (0, [.ref h])), (h, .inr (1, [.ref e0, .int 0, .null]))]) := hD
  exact W.vret hx hb hr (fun t ht hW => ⟨⟨(), rfl, trivial, h, e0, 0, 0, fun _ => 0, [], ⟨Or.inl ⟨rfl, rfl, rfl⟩, by decide, by decide, by decide, hp_small (by decide), hol_0 _⟩, by rw [ht]; exact hP, hD⟩, hS.F ht⟩) hS.2.2 dX0_init_15
set_option maxHeartbeats 4000000 in
set_option maxRecDepth 100000 in
/-- enter(hi, lo) -/
theorem m_denter (l : Launch) (D : va_G) (dJ : ClassId) (e0 x h a n z sz : Nat) (f : Nat → Int64) (LP : List Nat) (L : List Int64) (hd : dok e0 a n z f LP L) (hi lo : Int32) : Met l yX0_enter (ws_ yX0_enter cX0_enter 3 (some .boolean)) ({ frames := 4, cells := 1, slots := 300, locals := 107 } : Room) (va_Pc [.ref x, .int hi, .int lo] (cE D dJ e0 sz ([(x, .inr (0, [.ref h])), (h, .inr (1, [.ref a, .int (nI z), .null]))] ++ va_pl LP (fun _ => la dJ n f)))) (va_Qi (fun (r : Int32) (_ : Unit) => r = enR L) (fun (_ : Unit) t => dAt D dJ e0 (va_A ([(x, .inr (0, [.ref h])), (h, .inr (1, [.ref a, .int (nI z), .null]))] ++ va_pl LP (fun _ => la dJ n f)) sz) x (enL L (wd hi lo)) t) (va_A ([(x, .inr (0, [.ref h])), (h, .inr (1, [.ref a, .int (nI z), .null]))] ++ va_pl LP (fun _ => la dJ n f)) sz)) 1 300 (va_A ([(x, .inr (0, [.ref h])), (h, .inr (1, [.ref a, .int (nI z), .null]))] ++ va_pl LP (fun _ => la dJ n f)) sz) := by
  refine Met.ofW (cc := cX0_enter) (maxL := 3) (ret := (some .boolean)) (by decide) rfl ?_
  intro p e s m args below meth c s₁ B hml hv
  obtain ⟨rfl, ⟨hsz, hP, hK, hD0⟩, hE⟩ := hv
  have hx := B.exec
  have hb := B.bytes
  have hr := B.returns
  have hts := atoms_spec (ws := (ws_ yX0_enter cX0_enter 3 (some .boolean))) B.pre
  have hts : ∀ w ∈ lw_all, w.before _ s = true := fun w h => hts w (List.mem_cons_of_mem _ h)
  have hown : s.vm.findClass RX0 = some m.cls := findClass_of_methodNamed B.named
  have hlocks := B.notSynchronized
  subst hsz
  have hD := hD0.self (sz := s.heap.size)
  generalize hAe : va_A ([(x, .inr (0, [.ref h])), (h, .inr (1, [.ref a, .int (nI z), .null]))] ++ va_pl LP (fun _ => la dJ n f)) s.heap.size = A at hD hE ⊢
  have hA : ∀ q : Nat, s.heap.size ≤ q → A q := fun q h => by rw [← hAe]; exact Or.inr h
  obtain ⟨H, hHe⟩ : ∃ H : Heap, H = s.heap := ⟨_, rfl⟩
  rw [← hHe]
  have hS : va_S A s.heap H [] := by rw [hHe]; exact va_S.rf
  have hP : va_P D vwCl ([(x, .inr (0, [.ref h])), (h, .inr (1, [.ref a, .int (nI z), .null]))] ++ va_pl LP (fun _ => la dJ n f)) H := by rw [hHe]; exact hP
  have hl := lv_entry ([.ref x, .int hi, .int lo]) (n := 3) (Nat.le_of_ble_eq_true rfl)
  rw [lg_entry_eq]
  generalize (lg_sl ([.ref x, .int hi, .int lo]) ++ List.replicate (3 - (lg_sl ([.ref x, .int hi, .int lo])).length) Slot.unset).toArray = ls at hl ⊢
  have hl : lv_has ls 3 [(0, .ref x), (1, .int hi), (2, .int lo)] := hl
  obtain ⟨hok, hn, hz, hz2, hh, hL⟩ := hd
  have hlen := hol_len hL
  refine lv_aload_n hx hb dX0_enter_0 rfl (lv_at hl 0 rfl) ?_
  refine va_get (D := D) (ci := 0) (v := .ref h) (C := RX0) (T := TX0) (N := 1) hx hb hts in_X0 hown hK hP 0 rfl rfl 0 (by decide) (hts _ q44) (fun _ h9 => h9) rfl dX0_enter_1 ?_
  have hPc : va_P D vwCl [(h, .inr (1, [.ref a, .int (nI z), .null]))] H := q_Pl (hP.part (cx := [(h, .inr (1, [.ref a, .int (nI z), .null]))]) [1] rfl)
  have hDc : va_D A [(h, .inr (1, [.ref a, .int (nI z), .null]))] := q_Dl (hD.part (cx := [(h, .inr (1, [.ref a, .int (nI z), .null]))]) [1] (by decide) rfl)
  have hFc : ∀ q, va_A [(h, .inr (1, [.ref a, .int (nI z), .null]))] H.size q → A q := fun qv hv9 => va_freeP (cx := [(h, .inr (1, [.ref a, .int (nI z), .null]))]) hD hS hA [1] rfl qv (q_Al hv9)
  refine va_calli (va_runV (As := []) (rest := []) ⟨hx, hb, hml, hown, hts⟩ (m_qsize l D dJ h a _ z) (cwV 0 hts (lw_V q52 q53 q54 q4 q55) rfl rfl rfl (by decide +kernel) ⟨Nat.le_of_ble_eq_true rfl, Nat.le_of_ble_eq_true rfl⟩) (cP_V hK hPc hDc (ci := 1) (q := (RX1, TX1, 3)) (q0 := 0) rfl rfl) rfl rfl hl.1 rfl (lv_room (Nat.le_of_ble_eq_true rfl)) dX0_enter_4 ⟨Nat.le_of_ble_eq_true rfl, Nat.le_of_ble_eq_true rfl⟩) hS (fun q _ h => hFc q h) hFc (fun r u t H1 locs ht hvm hw hB hzz hk1 hS => ?_)
  have hw : r = nI z := hw
  subst hw
  obtain ⟨hP1, hD1⟩ := hB
  rw [ht] at hP1
  obtain ⟨hP, hD⟩ := va_joinQ (wr := [(x, .inr (0, [.ref h]))]) (w1 := [(h, .inr (1, [.ref a, .int (nI z), .null]))]) hP hD [1] [0] rfl rfl (by decide) (by decide) hk1 hFc hP1 hD1
  generalize H1 = H at hP hS ⊢
  have hP : va_P D vwCl ([(x, .inr (0, [.ref h])), (h, .inr (1, [.ref a, .int (nI z), .null]))] ++ va_pl LP (fun _ => la dJ n f)) H := hP
  have hD : va_D A ([(x, .inr (0, [.ref h])), (h, .inr (1, [.ref a, .int (nI z), .null]))] ++ va_pl LP (fun _ => la dJ n f)) := hD
  refine lv_sipush (v := 200) hx hb dX0_enter_7 (by decide) ?_
  refine q_iclt hx hb (y := 200) (by omega) (by decide) (tgt := 15) dX0_enter_10 (by decide) (fun hc => ?_) (fun hc => ?_)
  · have hR : enR L = 1 := if_pos (by omega)
    have hE2 : enL L (wd hi lo) = wd hi lo :: L := if_pos (by omega)
    refine lv_aload_n hx hb dX0_enter_15 rfl (lv_at hl 0 rfl) ?_
    refine va_get (D := D) (ci := 0) (v := .ref h) (C := RX0) (T := TX0) (N := 1) hx hb hts in_X0 hown hK hP 0 rfl rfl 0 (by decide) (hts _ q44) (fun _ h9 => h9) rfl dX0_enter_16 ?_
    refine lv_iload_n hx hb dX0_enter_19 rfl (lv_at hl 1 rfl) ?_
    refine lv_iload_n hx hb dX0_enter_20 rfl (lv_at hl 2 rfl) ?_
    have hPc : va_P D vwCl [] H := q_Pl (hP.part (cx := []) [] rfl)
    have hDc : va_D A [] := q_Dl (hD.part (cx := []) [] (by decide) rfl)
    have hFc : ∀ q, va_A [] H.size q → A q := fun qv hv9 => va_freeP (cx := []) hD hS hA [] rfl qv (q_Al hv9)
    refine va_calll (va_runS (As := [.int hi, .int lo]) (rest := [.ref h]) ⟨hx, hb, hml, hown, hts⟩ (m_of l D dJ _ hi lo) (va_cwS 2 hts (lw_S q56 q57 q3 q58) rfl rfl rfl (by decide +kernel) ⟨Nat.le_of_ble_eq_true rfl, Nat.le_of_ble_eq_true rfl⟩) (cP_S hK hPc hDc) rfl rfl hl.1 rfl (lv_room (Nat.le_of_ble_eq_true rfl)) dX0_enter_21 ⟨Nat.le_of_ble_eq_true rfl, Nat.le_of_ble_eq_true rfl⟩) hS (fun q _ h => hFc q h) hFc (fun r u t H1 locs ht hvm hw hB hzz hk1 hS => ?_)
    have hw : r = wd hi lo := hw
    subst hw
    obtain ⟨hP1, hD1⟩ := hB
    rw [ht] at hP1
    obtain ⟨hP, hD⟩ := va_joinQ (wr := [(x, .inr (0, [.ref h])), (h, .inr (1, [.ref a, .int (nI z), .null]))]) (w1 := []) hP hD [] [0, 1] rfl rfl (by decide) (by decide) hk1 hFc hP1 hD1
    generalize H1 = H at hP hS ⊢
    have hP : va_P D vwCl ([(x, .inr (0, [.ref h])), (h, .inr (1, [.ref a, .int (nI z), .null]))] ++ va_pl LP (fun _ => la dJ n f)) H := hP
    have hD : va_D A ([(x, .inr (0, [.ref h])), (h, .inr (1, [.ref a, .int (nI z), .null]))] ++ va_pl LP (fun _ => la dJ n f)) := hD
    have hPc : va_P D vwCl ([(h, .inr (1, [.ref a, .int (nI z), .null]))] ++ va_pl LP (fun _ => la dJ n f)) H := hP.part (cx := [(h, .inr (1, [.ref a, .int (nI z), .null]))]) [1] rfl
    have hDc : va_D A ([(h, .inr (1, [.ref a, .int (nI z), .null]))] ++ va_pl LP (fun _ => la dJ n f)) := hD.part (cx := [(h, .inr (1, [.ref a, .int (nI z), .null]))]) [1] (by decide) rfl
    have hFc : ∀ q, va_A ([(h, .inr (1, [.ref a, .int (nI z), .null]))] ++ va_pl LP (fun _ => la dJ n f)) H.size q → A q := va_freeP (cx := [(h, .inr (1, [.ref a, .int (nI z), .null]))]) hD hS hA [1] rfl
    refine va_callv (va_runV (As := [.long (wd hi lo)]) (rest := []) ⟨hx, hb, hml, hown, hts⟩ (m_enqueue l D dJ e0 h a _ n z f LP (wd hi lo) hok hn hz (by omega) hh) (cwV 1 hts (lw_V q60 q61 q62 q4 q63) rfl rfl rfl (by decide +kernel) ⟨Nat.le_of_ble_eq_true rfl, Nat.le_of_ble_eq_true rfl⟩) (cE_V hK hPc hDc hE hS hFc (ci := 1) (q := (RX1, TX1, 3)) (q0 := 0) rfl rfl) rfl rfl hl.1 rfl (lv_room (Nat.le_of_ble_eq_true rfl)) dX0_enter_24 ⟨Nat.le_of_ble_eq_true rfl, Nat.le_of_ble_eq_true rfl⟩) hS (fun q _ h => hFc q h) hFc (fun u t H1 locs ht hvm hw hB hzz hk1 hS => ?_)
    obtain ⟨hP1, hD1⟩ := hB
    obtain ⟨a', n', f'⟩ := u
    dsimp only at hw hP1 hD1
    obtain ⟨hw1, hw2, hw3, hw4⟩ := hw
    rw [ht] at hP1
    obtain ⟨hP, hD⟩ := va_joinP (wr := [(x, .inr (0, [.ref h]))]) (rx := [(h, .inr (1, [.ref a', .int (nI (z + 1)), .null]))]) (cx := [(h, .inr (1, [.ref a, .int (nI z), .null]))]) (pl1 := va_pl [a'] (fun _ => la dJ n' f')) hP hD [1] [0] rfl rfl (by decide) (by decide) hk1 hFc hP1 hD1
    generalize H1 = H at hP hS ⊢
    have hP : va_P D vwCl ([(x, .inr (0, [.ref h])), (h, .inr (1, [.ref a', .int (nI (z + 1)), .null]))] ++ va_pl [a'] (fun _ => la dJ n' f')) H := hP
    have hD : va_D A ([(x, .inr (0, [.ref h])), (h, .inr (1, [.ref a', .int (nI (z + 1)), .null]))] ++ va_pl [a'] (fun _ => la dJ n' f')) := hD
    refine lv_iconst (v := 1) hx hb dX0_enter_27 (by decide) ?_
    exact W.zret (v := 1) hx hb hr rfl (fun t ht hW => ⟨⟨1, (), rfl, hR.symm, h, a', n', z + 1, f', [a'], ⟨Or.inr rfl, hw1, hw2, by omega, hw3, by rw [hE2]; exact hw4 L hL⟩, by rw [ht]; exact hP, hD⟩, hS.F ht⟩) hS.2.2 dX0_enter_28
  · have hR : enR L = 0 := if_neg (by omega)
    have hE2 : enL L (wd hi lo) = L := if_neg (by omega)
    refine lv_iconst (v := 0) hx hb dX0_enter_13 (by decide) ?_
    refine W.widen (k := 1) (n := 300) (Nat.zero_le _) (Nat.zero_le _) ?_
    exact W.zret (v := 0) hx hb hr rfl (fun t ht hW => ⟨⟨0, (), rfl, hR.symm, h, a, n, z, f, LP, ⟨hok, hn, hz, hz2, hh, by rw [hE2]; exact hL⟩, by rw [ht]; exact hP, hD⟩, hS.F ht⟩) hS.2.2 dX0_enter_14
set_option maxHeartbeats 4000000 in
set_option maxRecDepth 100000 in
/-- whole(from, step, n) -/
theorem m_dwhole (l : Launch) (D : va_G) (dJ : ClassId) (e0 x h a n z sz : Nat) (f : Nat → Int64) (LP : List Nat) (L : List Int64) (hd : dok e0 a n z f LP L) (fr sp b : Int32) : Met l yX0_whole (ws_ yX0_whole cX0_whole 8 (some .boolean)) ({ frames := 6, cells := 2, slots := 66, locals := 121 } : Room) (va_Pc [.ref x, .int fr, .int sp, .int b] (cE D dJ e0 sz ([(x, .inr (0, [.ref h])), (h, .inr (1, [.ref a, .int (nI z), .null]))] ++ va_pl LP (fun _ => la dJ n f)))) (va_Qi (fun (r : Int32) (_ : Unit) => r = whR b) (fun (_ : Unit) t => dAt D dJ e0 (va_A ([(x, .inr (0, [.ref h])), (h, .inr (1, [.ref a, .int (nI z), .null]))] ++ va_pl LP (fun _ => la dJ n f)) sz) x (ab (mkv fr sp) (wn b)) t) (va_A ([(x, .inr (0, [.ref h])), (h, .inr (1, [.ref a, .int (nI z), .null]))] ++ va_pl LP (fun _ => la dJ n f)) sz)) 2 66 (va_A ([(x, .inr (0, [.ref h])), (h, .inr (1, [.ref a, .int (nI z), .null]))] ++ va_pl LP (fun _ => la dJ n f)) sz) := by
  refine Met.ofW (cc := cX0_whole) (maxL := 8) (ret := (some .boolean)) (by decide) rfl ?_
  intro p e s m args below meth c s₁ B hml hv
  obtain ⟨rfl, ⟨hsz, hP, hK, hD0⟩, hE⟩ := hv
  have hx := B.exec
  have hb := B.bytes
  have hr := B.returns
  have hts := atoms_spec (ws := (ws_ yX0_whole cX0_whole 8 (some .boolean))) B.pre
  have hts : ∀ w ∈ lw_all, w.before _ s = true := fun w h => hts w (List.mem_cons_of_mem _ h)
  have hown : s.vm.findClass RX0 = some m.cls := findClass_of_methodNamed B.named
  have hlocks := B.notSynchronized
  subst hsz
  have hD := hD0.self (sz := s.heap.size)
  generalize hAe : va_A ([(x, .inr (0, [.ref h])), (h, .inr (1, [.ref a, .int (nI z), .null]))] ++ va_pl LP (fun _ => la dJ n f)) s.heap.size = A at hD hE ⊢
  have hA : ∀ q : Nat, s.heap.size ≤ q → A q := fun q h => by rw [← hAe]; exact Or.inr h
  obtain ⟨H, hHe⟩ : ∃ H : Heap, H = s.heap := ⟨_, rfl⟩
  rw [← hHe]
  have hS : va_S A s.heap H [] := by rw [hHe]; exact va_S.rf
  have hP : va_P D vwCl ([(x, .inr (0, [.ref h])), (h, .inr (1, [.ref a, .int (nI z), .null]))] ++ va_pl LP (fun _ => la dJ n f)) H := by rw [hHe]; exact hP
  have hl := lv_entry ([.ref x, .int fr, .int sp, .int b]) (n := 8) (Nat.le_of_ble_eq_true rfl)
  rw [lg_entry_eq]
  generalize (lg_sl ([.ref x, .int fr, .int sp, .int b]) ++ List.replicate (8 - (lg_sl ([.ref x, .int fr, .int sp, .int b])).length) Slot.unset).toArray = ls at hl ⊢
  have hl : lv_has ls 8 [(0, .ref x), (1, .int fr), (2, .int sp), (3, .int b)] := hl
  have hwn := wn_lt b
  have hP : va_P D vwCl [(x, .inr (0, [.ref h]))] H := q_Pl (hP.part (cx := [(x, .inr (0, [.ref h]))]) [0] rfl)
  have hD : va_D A [(x, .inr (0, [.ref h]))] := q_Dl (hD.part (cx := [(x, .inr (0, [.ref h]))]) [0] (by decide) rfl)
  refine lv_iload_n hx hb dX0_whole_0 rfl (lv_at hl 3 rfl) ?_
  refine lv_bipush (v := 63) hx hb dX0_whole_1 (by decide) ?_
  refine lv_iand hx hb dX0_whole_3 ?_
  refine lv_topi (fun t4 et4 => ?_)
  obtain rfl : t4 = nI (wn b) := et4.trans (pk_and b 6 (by decide))
  refine q_newa hx hb (hts _ q43) hK hP hD hS hA (N := wn b) (by omega) (Nat.le_of_ble_eq_true rfl) (by show 0 + wn b ≤ 66; omega) dX0_whole_4 (fun q H hP hD hS => ?_)
  have hP : va_P D vwCl ([(x, .inr (0, [.ref h])), (q, la dJ ((wn b)) ((fun _ => 0)))]) H := hP
  have hD : va_D A ([(x, .inr (0, [.ref h])), (q, la dJ ((wn b)) ((fun _ => 0)))]) := hD
  refine W.widen (k := 1) (n := 63) (Nat.le_of_ble_eq_true rfl) (by omega) ?_
  refine lv_astore (lv' := [(4, .ref q), (0, .ref x), (1, .int fr), (2, .int sp), (3, .int b)]) hx hb dX0_whole_6 hl (by decide) rfl (fun ls hl => ?_)
  refine lv_iload_n hx hb dX0_whole_8 rfl (lv_at hl 2 rfl) ?_
  refine lv_i2l (v := mkv fr sp 0) hx hb dX0_whole_9 (rfl) ?_
  refine lv_lstore (lv' := [(5, .long (mkv fr sp 0)), (4, .ref q), (0, .ref x), (1, .int fr), (2, .int sp), (3, .int b)]) hx hb dX0_whole_10 hl (by decide) rfl (fun ls hl => ?_)
  refine lv_iconst (v := 0) hx hb dX0_whole_12 (by decide) ?_
  refine lv_istore (lv' := [(7, .int 0), (5, .long (mkv fr sp 0)), (4, .ref q), (0, .ref x), (1, .int fr), (2, .int sp), (3, .int b)]) hx hb dX0_whole_13 hl (by decide) rfl (fun ls hl => ?_)
  have hl : lv_has ls 8 [(0, .ref x), (2, .int sp), (4, .ref q), (5, .long (mkv fr sp 0)), (7, .int (nI 0))] := lv_sub hl [3, 5, 2, 1, 0] rfl
  have loop : ∀ (N k : Nat) (g : Nat → Int64) (H : Heap) (locs : List Loc) (ls : Array Slot), wn b = k + N → (∀ j, j < k → g j = mkv fr sp j) → va_P D vwCl [(x, .inr (0, [.ref h])), (q, la dJ (wn b) g)] H → va_D A [(x, .inr (0, [.ref h])), (q, la dJ (wn b) g)] → va_S A s.heap H locs → lv_has ls 8 [(0, .ref x), (2, .int sp), (4, .ref q), (5, .long (mkv fr sp k)), (7, .int (nI k))] → W p l e (headSpec (ws_ yX0_whole cX0_whole 8 (some .boolean)) ({ frames := 6, cells := 2, slots := 66, locals := 121 } : Room)).room s m ([.ref x, .int fr, .int sp, .int b] : List Value).toArray below meth c H locs 1 63 (MQ below (va_Qi (fun (r : Int32) (_ : Unit) => r = whR b) (fun (_ : Unit) t => dAt D dJ e0 A x (ab (mkv fr sp) (wn b)) t) A) ([.ref x, .int fr, .int sp, .int b] : List Value).toArray s 2 66 A) (F0 m 15 ls []) := by
    intro N
    induction N with
    | zero =>
      intro k g H locs ls hN hg hP hD hS hl
      refine lv_iload hx hb dX0_whole_15 (lv_at hl 4 rfl) ?_
      refine lv_aload hx hb dX0_whole_17 (lv_at hl 2 rfl) ?_
      refine va_alen (v := nI ((wn b))) hx hb hK hP 1 0 rfl rfl rfl dX0_whole_19 ?_
      refine q_icge hx hb (by omega) (by omega) (tgt := 47) dX0_whole_20 (by decide) (fun hc => ?_) (fun hc => ?_)
      · refine lv_aload_n hx hb dX0_whole_47 rfl (lv_at hl 0 rfl) ?_
        refine va_new (ci := 1) (fs := [.null, .int 0, .null]) (C := RX1) (T := TX1) (N := 3) hx hb hts in_X1 tyX1 tyX1_ok hown (hts _ q22) (hts _ q23) (hts _ q4) hK hP hD hS hA rfl (fun j hj => by rcases (show j = 0 ∨ j = 1 ∨ j = 2 by omega) with rfl | rfl | rfl <;> rfl) (Nat.le_of_ble_eq_true rfl) (Nat.le_of_ble_eq_true rfl) dX0_whole_48 (fun h2 H hP hD hS => ?_)
        have hP : va_P D vwCl ([(x, .inr (0, [.ref h])), (q, la dJ ((wn b)) g), (h2, .inr (1, [.null, .int 0, .null]))]) H := hP
        have hD : va_D A ([(x, .inr (0, [.ref h])), (q, la dJ ((wn b)) g), (h2, .inr (1, [.null, .int 0, .null]))]) := hD
        refine W.widen (k := 2) (n := 66) (Nat.le_of_ble_eq_true rfl) (Nat.le_of_ble_eq_true rfl) ?_
        refine lv_dup hx hb dX0_whole_51 rfl ?_
        refine lv_aload hx hb dX0_whole_52 (lv_at hl 2 rfl) ?_
        have hPc := hP.sub (ws' := [(h2, .inr (1, [.null, .int 0, .null])), (q, la dJ ((wn b)) g)]) [2, 1] rfl
        have hDc := hD.sub (ws' := [(h2, .inr (1, [.null, .int 0, .null])), (q, la dJ ((wn b)) g)]) [2, 1] (by decide) rfl
        have hFc := va_free (wc := [(h2, .inr (1, [.null, .int 0, .null])), (q, la dJ ((wn b)) g)]) hD hS hA [2, 1] rfl
        refine va_callv (va_runI (As := [.ref q]) (rest := [.ref h2, .ref x]) ⟨hx, hb, hml, hown, hts⟩ (m_qinit3 l D dJ e0 h2 q _ (wn b) g (by omega)) (cwI 1 hts (lw_meth q90) rfl rfl rfl (hts _ q4) (hts _ q88) (hts _ q89) rfl (by decide +kernel) ⟨Nat.le_of_ble_eq_true rfl, Nat.le_of_ble_eq_true rfl⟩) (cE_S hK hPc hDc hE hS hFc) rfl rfl hl.1 rfl (lv_room (Nat.le_of_ble_eq_true rfl)) dX0_whole_54 ⟨Nat.le_of_ble_eq_true rfl, Nat.le_of_ble_eq_true rfl⟩) hS (fun q _ h => hFc q h) hFc (fun u t H1 locs ht hvm hw hB hzz hk1 hS => ?_)
        obtain ⟨hP1, hD1⟩ := hB
        rw [ht] at hP1
        obtain ⟨hP, hD⟩ := va_join (wr := [(x, .inr (0, [.ref h]))]) (w1 := [(h2, .inr (1, [.ref q, .int (nI (wn b)), .null])), (q, la dJ ((wn b)) u)]) hP hD [2, 1] [0] rfl rfl (by decide) (by decide) hk1 hFc hP1 hD1
        generalize H1 = H at hP hS ⊢
        have hP : va_P D vwCl ([(x, .inr (0, [.ref h])), (h2, .inr (1, [.ref q, .int (nI (wn b)), .null])), (q, la dJ ((wn b)) u)]) H := hP
        have hD : va_D A ([(x, .inr (0, [.ref h])), (h2, .inr (1, [.ref q, .int (nI (wn b)), .null])), (q, la dJ ((wn b)) u)]) := hD
        refine va_put (D := D) (ci := 0) (v := .ref h2) (ty := .object "LongHeapPriorityQueue") (C := RX0) (T := TX0) (N := 1) hx hb hts in_X0 tyX0 tyX0_ok nmX0 hown hK hP hD hS 0 rfl rfl 0 (by decide) (hts _ q44) (fun _ h9 => h9) rfl (by decide +kernel) rfl rfl (Nat.le_of_ble_eq_true rfl) dX0_whole_57 (fun H locs hP hD hS => ?_)
        have hP : va_P D vwCl ([(x, .inr (0, [.ref h2])), (h2, .inr (1, [.ref q, .int (nI (wn b)), .null])), (q, la dJ ((wn b)) u)]) H := hP
        have hD : va_D A ([(x, .inr (0, [.ref h2])), (h2, .inr (1, [.ref q, .int (nI (wn b)), .null])), (q, la dJ ((wn b)) u)]) := hD
        refine lv_aload hx hb dX0_whole_60 (lv_at hl 2 rfl) ?_
        refine va_alen (v := nI ((wn b))) hx hb hK hP 2 0 rfl rfl rfl dX0_whole_62 ?_
        refine q_ifle hx hb (by omega) (tgt := 70) dX0_whole_63 (by decide) (fun hc => ?_) (fun hc => ?_)
        · refine lv_iconst (v := 0) hx hb dX0_whole_70 (by decide) ?_
          exact W.zret (v := 0) hx hb hr rfl (fun t ht hW => ⟨⟨0, (), rfl, (if_neg (by omega)).symm, h2, q, wn b, wn b, u, [q], ⟨Or.inr rfl, by omega, Nat.le_refl _, by omega, hw.1, by unfold hol; refine hw.2.trans ?_; rw [ab_congr (fun j hj => hg j (by omega))]⟩, by rw [ht]; exact hP, hD⟩, hS.F ht⟩) hS.2.2 dX0_whole_71
        · refine lv_iconst (v := 1) hx hb dX0_whole_66 (by decide) ?_
          refine lv_goto (tgt := 71) hx hb dX0_whole_67 (by decide) ?_
          exact W.zret (v := 1) hx hb hr rfl (fun t ht hW => ⟨⟨1, (), rfl, (if_pos (by omega)).symm, h2, q, wn b, wn b, u, [q], ⟨Or.inr rfl, by omega, Nat.le_refl _, by omega, hw.1, by unfold hol; refine hw.2.trans ?_; rw [ab_congr (fun j hj => hg j (by omega))]⟩, by rw [ht]; exact hP, hD⟩, hS.F ht⟩) hS.2.2 dX0_whole_71
      · exact absurd hc (by omega)
    | succ N ih =>
      intro k g H locs ls hN hg hP hD hS hl
      refine lv_iload hx hb dX0_whole_15 (lv_at hl 4 rfl) ?_
      refine lv_aload hx hb dX0_whole_17 (lv_at hl 2 rfl) ?_
      refine va_alen (v := nI ((wn b))) hx hb hK hP 1 0 rfl rfl rfl dX0_whole_19 ?_
      refine q_icge hx hb (by omega) (by omega) (tgt := 47) dX0_whole_20 (by decide) (fun hc => ?_) (fun hc => ?_)
      · exact absurd hc (by omega)
      · refine lv_aload hx hb dX0_whole_23 (lv_at hl 2 rfl) ?_
        refine lv_iload hx hb dX0_whole_25 (lv_at hl 4 rfl) ?_
        refine lv_lload hx hb dX0_whole_27 (lv_at hl 3 rfl) ?_
        refine q_last hx hb hK hP hD hS 1 rfl (i := k) (by omega) (by omega) dX0_whole_29 (fun H locs hP hD hS => ?_)
        have hP : va_P D vwCl ([(x, .inr (0, [.ref h])), (q, la dJ ((wn b)) (vp_updL g k (mkv fr sp k)))]) H := hP
        have hD : va_D A ([(x, .inr (0, [.ref h])), (q, la dJ ((wn b)) (vp_updL g k (mkv fr sp k)))]) := hD
        refine lv_lload hx hb dX0_whole_30 (lv_at hl 3 rfl) ?_
        refine lv_ldc2 (v := 6364136223846793005) hx hb hown (hts _ q87) dX0_whole_32 ?_
        refine lv_lmul hx hb dX0_whole_35 ?_
        refine lv_topl (fun t5 et5 => ?_)
        obtain rfl : t5 = mkv fr sp k * 6364136223846793005 := et5.trans (rfl)
        refine lv_iload_n hx hb dX0_whole_36 rfl (lv_at hl 1 rfl) ?_
        refine lv_i2l (v := sp.toInt64) hx hb dX0_whole_37 (rfl) ?_
        refine lv_ladd hx hb dX0_whole_38 ?_
        refine lv_topl (fun t6 et6 => ?_)
        obtain rfl : t6 = mkv fr sp (k + 1) := et6.trans (rfl)
        refine lv_lstore (lv' := [(5, .long (mkv fr sp (k + 1))), (0, .ref x), (2, .int sp), (4, .ref q), (7, .int (nI k))]) hx hb dX0_whole_39 hl (by decide) rfl (fun ls hl => ?_)
        refine lv_iinc (v := nI (k + 1)) (lv' := [(7, .int (nI (k + 1))), (5, .long (mkv fr sp (k + 1))), (0, .ref x), (2, .int sp), (4, .ref q)]) hx hb dX0_whole_41 hl (k := 4) rfl (nI_1 k) (by decide) rfl (fun ls hl => ?_)
        refine lv_goto (tgt := 15) hx hb dX0_whole_44 (by decide) ?_
        exact ih (k + 1) _ H locs ls (by omega) (fun j hj => by rcases Nat.lt_or_ge j k with h | h; rw [up_n _ _ (Nat.ne_of_lt h)]; exact hg j h; rw [show j = k by omega, up_s]) hP hD hS (lv_sub hl [2, 3, 4, 1, 0] rfl)
  exact loop (wn b) 0 (fun _ => 0) H [] ls (by omega) (fun j hj => absurd hj (Nat.not_lt_zero j)) hP hD hS hl
set_option maxHeartbeats 4000000 in
set_option maxRecDepth 100000 in
/-- least() -/
theorem m_dleast (l : Launch) (D : va_G) (dJ : ClassId) (e0 x h a n z sz : Nat) (f : Nat → Int64) (LP : List Nat) (L : List Int64) (hd : dok e0 a n z f LP L) : Met l yX0_least (ws_ yX0_least cX0_least 1 (some .long)) ({ frames := 2, cells := 0, slots := 0, locals := 51 } : Room) (va_Pc [.ref x] (cE D dJ e0 sz ([(x, .inr (0, [.ref h])), (h, .inr (1, [.ref a, .int (nI z), .null]))] ++ va_pl LP (fun _ => la dJ n f)))) (va_Ql (fun (r : Int64) (_ : Unit) => r = lsR L) (fun (_ : Unit) t => dAt D dJ e0 (va_A ([(x, .inr (0, [.ref h])), (h, .inr (1, [.ref a, .int (nI z), .null]))] ++ va_pl LP (fun _ => la dJ n f)) sz) x (L) t) (va_A ([(x, .inr (0, [.ref h])), (h, .inr (1, [.ref a, .int (nI z), .null]))] ++ va_pl LP (fun _ => la dJ n f)) sz)) 0 0 (va_A ([(x, .inr (0, [.ref h])), (h, .inr (1, [.ref a, .int (nI z), .null]))] ++ va_pl LP (fun _ => la dJ n f)) sz) := by
  refine Met.ofW (cc := cX0_least) (maxL := 1) (ret := (some .long)) (by decide) rfl ?_
  intro p e s m args below meth c s₁ B hml hv
  obtain ⟨rfl, ⟨hsz, hP, hK, hD0⟩, hE⟩ := hv
  have hx := B.exec
  have hb := B.bytes
  have hr := B.returns
  have hts := atoms_spec (ws := (ws_ yX0_least cX0_least 1 (some .long))) B.pre
  have hts : ∀ w ∈ lw_all, w.before _ s = true := fun w h => hts w (List.mem_cons_of_mem _ h)
  have hown : s.vm.findClass RX0 = some m.cls := findClass_of_methodNamed B.named
  have hlocks := B.notSynchronized
  subst hsz
  have hD := hD0.self (sz := s.heap.size)
  generalize hAe : va_A ([(x, .inr (0, [.ref h])), (h, .inr (1, [.ref a, .int (nI z), .null]))] ++ va_pl LP (fun _ => la dJ n f)) s.heap.size = A at hD hE ⊢
  have hA : ∀ q : Nat, s.heap.size ≤ q → A q := fun q h => by rw [← hAe]; exact Or.inr h
  obtain ⟨H, hHe⟩ : ∃ H : Heap, H = s.heap := ⟨_, rfl⟩
  rw [← hHe]
  have hS : va_S A s.heap H [] := by rw [hHe]; exact va_S.rf
  have hP : va_P D vwCl ([(x, .inr (0, [.ref h])), (h, .inr (1, [.ref a, .int (nI z), .null]))] ++ va_pl LP (fun _ => la dJ n f)) H := by rw [hHe]; exact hP
  have hl := lv_entry ([.ref x]) (n := 1) (Nat.le_of_ble_eq_true rfl)
  rw [lg_entry_eq]
  generalize (lg_sl ([.ref x]) ++ List.replicate (1 - (lg_sl ([.ref x])).length) Slot.unset).toArray = ls at hl ⊢
  have hl : lv_has ls 1 [(0, .ref x)] := hl
  obtain ⟨hok, hn, hz, hz2, hh, hL⟩ := hd
  refine lv_aload_n hx hb dX0_least_0 rfl (lv_at hl 0 rfl) ?_
  refine va_get (D := D) (ci := 0) (v := .ref h) (C := RX0) (T := TX0) (N := 1) hx hb hts in_X0 hown hK hP 0 rfl rfl 0 (by decide) (hts _ q44) (fun _ h9 => h9) rfl dX0_least_1 ?_
  have hPc : va_P D vwCl [(h, .inr (1, [.ref a, .int (nI z), .null]))] H := q_Pl (hP.part (cx := [(h, .inr (1, [.ref a, .int (nI z), .null]))]) [1] rfl)
  have hDc : va_D A [(h, .inr (1, [.ref a, .int (nI z), .null]))] := q_Dl (hD.part (cx := [(h, .inr (1, [.ref a, .int (nI z), .null]))]) [1] (by decide) rfl)
  have hFc : ∀ q, va_A [(h, .inr (1, [.ref a, .int (nI z), .null]))] H.size q → A q := fun qv hv9 => va_freeP (cx := [(h, .inr (1, [.ref a, .int (nI z), .null]))]) hD hS hA [1] rfl qv (q_Al hv9)
  refine va_calli (va_runV (As := []) (rest := []) ⟨hx, hb, hml, hown, hts⟩ (m_qsize l D dJ h a _ z) (cwV 0 hts (lw_V q52 q53 q54 q4 q55) rfl rfl rfl (by decide +kernel) ⟨Nat.le_of_ble_eq_true rfl, Nat.le_of_ble_eq_true rfl⟩) (cP_V hK hPc hDc (ci := 1) (q := (RX1, TX1, 3)) (q0 := 0) rfl rfl) rfl rfl hl.1 rfl (lv_room (Nat.le_of_ble_eq_true rfl)) dX0_least_4 ⟨Nat.le_of_ble_eq_true rfl, Nat.le_of_ble_eq_true rfl⟩) hS (fun q _ h => hFc q h) hFc (fun r u t H1 locs ht hvm hw hB hzz hk1 hS => ?_)
  have hw : r = nI z := hw
  subst hw
  obtain ⟨hP1, hD1⟩ := hB
  rw [ht] at hP1
  obtain ⟨hP, hD⟩ := va_joinQ (wr := [(x, .inr (0, [.ref h]))]) (w1 := [(h, .inr (1, [.ref a, .int (nI z), .null]))]) hP hD [1] [0] rfl rfl (by decide) (by decide) hk1 hFc hP1 hD1
  generalize H1 = H at hP hS ⊢
  have hP : va_P D vwCl ([(x, .inr (0, [.ref h])), (h, .inr (1, [.ref a, .int (nI z), .null]))] ++ va_pl LP (fun _ => la dJ n f)) H := hP
  have hD : va_D A ([(x, .inr (0, [.ref h])), (h, .inr (1, [.ref a, .int (nI z), .null]))] ++ va_pl LP (fun _ => la dJ n f)) := hD
  refine q_ifne hx hb (by omega) (tgt := 14) dX0_least_7 (by decide) (fun hc => ?_) (fun hc => ?_)
  · have hne := hol_ne hL hc
    have hLP := okq_own hok (by omega)
    subst hLP
    obtain ⟨z, rfl⟩ : ∃ z1, z = z1 + 1 := ⟨z - 1, by omega⟩
    have hP : va_P D vwCl ([(x, .inr (0, [.ref h])), (h, .inr (1, [.ref a, .int (nI (z + 1)), .null])), (a, la dJ n f)]) H := hP
    have hD : va_D A ([(x, .inr (0, [.ref h])), (h, .inr (1, [.ref a, .int (nI (z + 1)), .null])), (a, la dJ n f)]) := hD
    have hmn : mn L = f 0 := hol_mn hL (by omega) (fun k hk => hp_min hh (k + 1) k (Nat.lt_succ_self k) hk)
    have hls : lsR L = f 0 := (lsR_ne hne).trans hmn
    refine lv_aload_n hx hb dX0_least_14 rfl (lv_at hl 0 rfl) ?_
    refine va_get (D := D) (ci := 0) (v := .ref h) (C := RX0) (T := TX0) (N := 1) hx hb hts in_X0 hown hK hP 0 rfl rfl 0 (by decide) (hts _ q44) (fun _ h9 => h9) rfl dX0_least_15 ?_
    have hPc := hP.sub (ws' := [(h, .inr (1, [.ref a, .int (nI (z + 1)), .null])), (a, la dJ n f)]) [1, 2] rfl
    have hDc := hD.sub (ws' := [(h, .inr (1, [.ref a, .int (nI (z + 1)), .null])), (a, la dJ n f)]) [1, 2] (by decide) rfl
    have hFc := va_free (wc := [(h, .inr (1, [.ref a, .int (nI (z + 1)), .null])), (a, la dJ n f)]) hD hS hA [1, 2] rfl
    refine va_calll (va_runV (As := []) (rest := []) ⟨hx, hb, hml, hown, hts⟩ (m_qfirst l D dJ h a _ n z f hn hz) (cwV 0 hts (lw_V q110 q111 q112 q4 q113) rfl rfl rfl (by decide +kernel) ⟨Nat.le_of_ble_eq_true rfl, Nat.le_of_ble_eq_true rfl⟩) (cP_V hK hPc hDc (ci := 1) (q := (RX1, TX1, 3)) (q0 := 0) rfl rfl) rfl rfl hl.1 rfl (lv_room (Nat.le_of_ble_eq_true rfl)) dX0_least_18 ⟨Nat.le_of_ble_eq_true rfl, Nat.le_of_ble_eq_true rfl⟩) hS (fun q _ h => hFc q h) hFc (fun r u t H1 locs ht hvm hw hB hzz hk1 hS => ?_)
    obtain ⟨hP1, hD1⟩ := hB
    have hw : r = f 0 := hw
    subst hw
    rw [ht] at hP1
    obtain ⟨hP, hD⟩ := va_join (wr := [(x, .inr (0, [.ref h]))]) (w1 := [(h, .inr (1, [.ref a, .int (nI (z + 1)), .null])), (a, la dJ n f)]) hP hD [1, 2] [0] rfl rfl (by decide) (by decide) hk1 hFc hP1 hD1
    generalize H1 = H at hP hS ⊢
    have hP : va_P D vwCl ([(x, .inr (0, [.ref h])), (h, .inr (1, [.ref a, .int (nI (z + 1)), .null])), (a, la dJ n f)]) H := hP
    have hD : va_D A ([(x, .inr (0, [.ref h])), (h, .inr (1, [.ref a, .int (nI (z + 1)), .null])), (a, la dJ n f)]) := hD
    exact W.lret (v := f 0) hx hb hr (fun t ht hW => ⟨⟨f 0, (), rfl, hls.symm, h, a, n, z + 1, f, [a], ⟨hok, hn, hz, hz2, hh, hL⟩, by rw [ht]; exact hP, hD⟩, hS.F ht⟩) hS.2.2 dX0_least_21
  · subst hc
    have hN := hol_nil hL
    subst hN
    refine lv_lconst (v := 0) hx hb dX0_least_10 (by decide) ?_
    refine lv_goto (tgt := 21) hx hb dX0_least_11 (by decide) ?_
    exact W.lret (v := 0) hx hb hr (fun t ht hW => ⟨⟨0, (), rfl, rfl, h, a, n, 0, f, LP, ⟨hok, hn, hz, hz2, hh, hL⟩, by rw [ht]; exact hP, hD⟩, hS.F ht⟩) hS.2.2 dX0_least_21
set_option maxHeartbeats 4000000 in
set_option maxRecDepth 100000 in
/-- take() -/
theorem m_dtake (l : Launch) (D : va_G) (dJ : ClassId) (e0 x h a n z sz : Nat) (f : Nat → Int64) (LP : List Nat) (L : List Int64) (hd : dok e0 a n z f LP L) : Met l yX0_take (ws_ yX0_take cX0_take 1 (some .long)) ({ frames := 2, cells := 0, slots := 0, locals := 51 } : Room) (va_Pc [.ref x] (cE D dJ e0 sz ([(x, .inr (0, [.ref h])), (h, .inr (1, [.ref a, .int (nI z), .null]))] ++ va_pl LP (fun _ => la dJ n f)))) (va_Ql (fun (r : Int64) (_ : Unit) => r = lsR L) (fun (_ : Unit) t => dAt D dJ e0 (va_A ([(x, .inr (0, [.ref h])), (h, .inr (1, [.ref a, .int (nI z), .null]))] ++ va_pl LP (fun _ => la dJ n f)) sz) x (L.erase (mn L)) t) (va_A ([(x, .inr (0, [.ref h])), (h, .inr (1, [.ref a, .int (nI z), .null]))] ++ va_pl LP (fun _ => la dJ n f)) sz)) 0 0 (va_A ([(x, .inr (0, [.ref h])), (h, .inr (1, [.ref a, .int (nI z), .null]))] ++ va_pl LP (fun _ => la dJ n f)) sz) := by
  refine Met.ofW (cc := cX0_take) (maxL := 1) (ret := (some .long)) (by decide) rfl ?_
  intro p e s m args below meth c s₁ B hml hv
  obtain ⟨rfl, ⟨hsz, hP, hK, hD0⟩, hE⟩ := hv
  have hx := B.exec
  have hb := B.bytes
  have hr := B.returns
  have hts := atoms_spec (ws := (ws_ yX0_take cX0_take 1 (some .long))) B.pre
  have hts : ∀ w ∈ lw_all, w.before _ s = true := fun w h => hts w (List.mem_cons_of_mem _ h)
  have hown : s.vm.findClass RX0 = some m.cls := findClass_of_methodNamed B.named
  have hlocks := B.notSynchronized
  subst hsz
  have hD := hD0.self (sz := s.heap.size)
  generalize hAe : va_A ([(x, .inr (0, [.ref h])), (h, .inr (1, [.ref a, .int (nI z), .null]))] ++ va_pl LP (fun _ => la dJ n f)) s.heap.size = A at hD hE ⊢
  have hA : ∀ q : Nat, s.heap.size ≤ q → A q := fun q h => by rw [← hAe]; exact Or.inr h
  obtain ⟨H, hHe⟩ : ∃ H : Heap, H = s.heap := ⟨_, rfl⟩
  rw [← hHe]
  have hS : va_S A s.heap H [] := by rw [hHe]; exact va_S.rf
  have hP : va_P D vwCl ([(x, .inr (0, [.ref h])), (h, .inr (1, [.ref a, .int (nI z), .null]))] ++ va_pl LP (fun _ => la dJ n f)) H := by rw [hHe]; exact hP
  have hl := lv_entry ([.ref x]) (n := 1) (Nat.le_of_ble_eq_true rfl)
  rw [lg_entry_eq]
  generalize (lg_sl ([.ref x]) ++ List.replicate (1 - (lg_sl ([.ref x])).length) Slot.unset).toArray = ls at hl ⊢
  have hl : lv_has ls 1 [(0, .ref x)] := hl
  obtain ⟨hok, hn, hz, hz2, hh, hL⟩ := hd
  refine lv_aload_n hx hb dX0_take_0 rfl (lv_at hl 0 rfl) ?_
  refine va_get (D := D) (ci := 0) (v := .ref h) (C := RX0) (T := TX0) (N := 1) hx hb hts in_X0 hown hK hP 0 rfl rfl 0 (by decide) (hts _ q44) (fun _ h9 => h9) rfl dX0_take_1 ?_
  have hPc : va_P D vwCl [(h, .inr (1, [.ref a, .int (nI z), .null]))] H := q_Pl (hP.part (cx := [(h, .inr (1, [.ref a, .int (nI z), .null]))]) [1] rfl)
  have hDc : va_D A [(h, .inr (1, [.ref a, .int (nI z), .null]))] := q_Dl (hD.part (cx := [(h, .inr (1, [.ref a, .int (nI z), .null]))]) [1] (by decide) rfl)
  have hFc : ∀ q, va_A [(h, .inr (1, [.ref a, .int (nI z), .null]))] H.size q → A q := fun qv hv9 => va_freeP (cx := [(h, .inr (1, [.ref a, .int (nI z), .null]))]) hD hS hA [1] rfl qv (q_Al hv9)
  refine va_calli (va_runV (As := []) (rest := []) ⟨hx, hb, hml, hown, hts⟩ (m_qsize l D dJ h a _ z) (cwV 0 hts (lw_V q52 q53 q54 q4 q55) rfl rfl rfl (by decide +kernel) ⟨Nat.le_of_ble_eq_true rfl, Nat.le_of_ble_eq_true rfl⟩) (cP_V hK hPc hDc (ci := 1) (q := (RX1, TX1, 3)) (q0 := 0) rfl rfl) rfl rfl hl.1 rfl (lv_room (Nat.le_of_ble_eq_true rfl)) dX0_take_4 ⟨Nat.le_of_ble_eq_true rfl, Nat.le_of_ble_eq_true rfl⟩) hS (fun q _ h => hFc q h) hFc (fun r u t H1 locs ht hvm hw hB hzz hk1 hS => ?_)
  have hw : r = nI z := hw
  subst hw
  obtain ⟨hP1, hD1⟩ := hB
  rw [ht] at hP1
  obtain ⟨hP, hD⟩ := va_joinQ (wr := [(x, .inr (0, [.ref h]))]) (w1 := [(h, .inr (1, [.ref a, .int (nI z), .null]))]) hP hD [1] [0] rfl rfl (by decide) (by decide) hk1 hFc hP1 hD1
  generalize H1 = H at hP hS ⊢
  have hP : va_P D vwCl ([(x, .inr (0, [.ref h])), (h, .inr (1, [.ref a, .int (nI z), .null]))] ++ va_pl LP (fun _ => la dJ n f)) H := hP
  have hD : va_D A ([(x, .inr (0, [.ref h])), (h, .inr (1, [.ref a, .int (nI z), .null]))] ++ va_pl LP (fun _ => la dJ n f)) := hD
  refine q_ifne hx hb (by omega) (tgt := 14) dX0_take_7 (by decide) (fun hc => ?_) (fun hc => ?_)
  · have hne := hol_ne hL hc
    have hLP := okq_own hok (by omega)
    subst hLP
    obtain ⟨z, rfl⟩ : ∃ z1, z = z1 + 1 := ⟨z - 1, by omega⟩
    have hP : va_P D vwCl ([(x, .inr (0, [.ref h])), (h, .inr (1, [.ref a, .int (nI (z + 1)), .null])), (a, la dJ n f)]) H := hP
    have hD : va_D A ([(x, .inr (0, [.ref h])), (h, .inr (1, [.ref a, .int (nI (z + 1)), .null])), (a, la dJ n f)]) := hD
    have hmn : mn L = f 0 := hol_mn hL (by omega) (fun k hk => hp_min hh (k + 1) k (Nat.lt_succ_self k) hk)
    have hls : lsR L = f 0 := (lsR_ne hne).trans hmn
    refine lv_aload_n hx hb dX0_take_14 rfl (lv_at hl 0 rfl) ?_
    refine va_get (D := D) (ci := 0) (v := .ref h) (C := RX0) (T := TX0) (N := 1) hx hb hts in_X0 hown hK hP 0 rfl rfl 0 (by decide) (hts _ q44) (fun _ h9 => h9) rfl dX0_take_15 ?_
    have hPc := hP.sub (ws' := [(h, .inr (1, [.ref a, .int (nI (z + 1)), .null])), (a, la dJ n f)]) [1, 2] rfl
    have hDc := hD.sub (ws' := [(h, .inr (1, [.ref a, .int (nI (z + 1)), .null])), (a, la dJ n f)]) [1, 2] (by decide) rfl
    have hFc := va_free (wc := [(h, .inr (1, [.ref a, .int (nI (z + 1)), .null])), (a, la dJ n f)]) hD hS hA [1, 2] rfl
    refine va_calll (va_runV (As := []) (rest := []) ⟨hx, hb, hml, hown, hts⟩ (m_dequeue l D dJ h a _ n z f hn hz hh) (cwV 0 hts (lw_V q179 q180 q181 q4 q182) rfl rfl rfl (by decide +kernel) ⟨Nat.le_of_ble_eq_true rfl, Nat.le_of_ble_eq_true rfl⟩) (cP_V hK hPc hDc (ci := 1) (q := (RX1, TX1, 3)) (q0 := 0) rfl rfl) rfl rfl hl.1 rfl (lv_room (Nat.le_of_ble_eq_true rfl)) dX0_take_18 ⟨Nat.le_of_ble_eq_true rfl, Nat.le_of_ble_eq_true rfl⟩) hS (fun q _ h => hFc q h) hFc (fun r u t H1 locs ht hvm hw hB hzz hk1 hS => ?_)
    obtain ⟨hP1, hD1⟩ := hB
    obtain ⟨hw1, hw2, hw3⟩ := hw
    subst hw1
    rw [ht] at hP1
    obtain ⟨hP, hD⟩ := va_join (wr := [(x, .inr (0, [.ref h]))]) (w1 := [(h, .inr (1, [.ref a, .int (nI z), .null])), (a, la dJ n u)]) hP hD [1, 2] [0] rfl rfl (by decide) (by decide) hk1 hFc hP1 hD1
    generalize H1 = H at hP hS ⊢
    have hP : va_P D vwCl ([(x, .inr (0, [.ref h])), (h, .inr (1, [.ref a, .int (nI z), .null])), (a, la dJ n u)]) H := hP
    have hD : va_D A ([(x, .inr (0, [.ref h])), (h, .inr (1, [.ref a, .int (nI z), .null])), (a, la dJ n u)]) := hD
    exact W.lret (v := f 0) hx hb hr (fun t ht hW => ⟨⟨f 0, (), rfl, hls.symm, h, a, n, z, u, [a], ⟨hok, hn, by omega, by omega, hw2, by rw [hmn]; exact hw3 L hL⟩, by rw [ht]; exact hP, hD⟩, hS.F ht⟩) hS.2.2 dX0_take_21
  · subst hc
    have hN := hol_nil hL
    subst hN
    refine lv_lconst (v := 0) hx hb dX0_take_10 (by decide) ?_
    refine lv_goto (tgt := 21) hx hb dX0_take_11 (by decide) ?_
    exact W.lret (v := 0) hx hb hr (fun t ht hW => ⟨⟨0, (), rfl, rfl, h, a, n, 0, f, LP, ⟨hok, hn, hz, hz2, hh, hL⟩, by rw [ht]; exact hP, hD⟩, hS.F ht⟩) hS.2.2 dX0_take_21
set_option maxHeartbeats 4000000 in
set_option maxRecDepth 100000 in
/-- takeMany(n) -/
theorem m_dtakeMany (l : Launch) (D : va_G) (dJ : ClassId) (e0 x h a n z sz : Nat) (f : Nat → Int64) (LP : List Nat) (L : List Int64) (hd : dok e0 a n z f LP L) (b : Int32) : Met l yX0_takeMany (ws_ yX0_takeMany cX0_takeMany 5 (some .long)) ({ frames := 2, cells := 0, slots := 0, locals := 51 } : Room) (va_Pc [.ref x, .int b] (cE D dJ e0 sz ([(x, .inr (0, [.ref h])), (h, .inr (1, [.ref a, .int (nI z), .null]))] ++ va_pl LP (fun _ => la dJ n f)))) (va_Ql (fun (r : Int64) (_ : Unit) => r = (tm (tn5 b) L 0).1) (fun (_ : Unit) t => dAt D dJ e0 (va_A ([(x, .inr (0, [.ref h])), (h, .inr (1, [.ref a, .int (nI z), .null]))] ++ va_pl LP (fun _ => la dJ n f)) sz) x ((tm (tn5 b) L 0).2) t) (va_A ([(x, .inr (0, [.ref h])), (h, .inr (1, [.ref a, .int (nI z), .null]))] ++ va_pl LP (fun _ => la dJ n f)) sz)) 0 0 (va_A ([(x, .inr (0, [.ref h])), (h, .inr (1, [.ref a, .int (nI z), .null]))] ++ va_pl LP (fun _ => la dJ n f)) sz) := by
  refine Met.ofW (cc := cX0_takeMany) (maxL := 5) (ret := (some .long)) (by decide) rfl ?_
  intro p e s m args below meth c s₁ B hml hv
  obtain ⟨rfl, ⟨hsz, hP, hK, hD0⟩, hE⟩ := hv
  have hx := B.exec
  have hb := B.bytes
  have hr := B.returns
  have hts := atoms_spec (ws := (ws_ yX0_takeMany cX0_takeMany 5 (some .long))) B.pre
  have hts : ∀ w ∈ lw_all, w.before _ s = true := fun w h => hts w (List.mem_cons_of_mem _ h)
  have hown : s.vm.findClass RX0 = some m.cls := findClass_of_methodNamed B.named
  have hlocks := B.notSynchronized
  subst hsz
  have hD := hD0.self (sz := s.heap.size)
  generalize hAe : va_A ([(x, .inr (0, [.ref h])), (h, .inr (1, [.ref a, .int (nI z), .null]))] ++ va_pl LP (fun _ => la dJ n f)) s.heap.size = A at hD hE ⊢
  have hA : ∀ q : Nat, s.heap.size ≤ q → A q := fun q h => by rw [← hAe]; exact Or.inr h
  obtain ⟨H, hHe⟩ : ∃ H : Heap, H = s.heap := ⟨_, rfl⟩
  rw [← hHe]
  have hS : va_S A s.heap H [] := by rw [hHe]; exact va_S.rf
  have hP : va_P D vwCl ([(x, .inr (0, [.ref h])), (h, .inr (1, [.ref a, .int (nI z), .null]))] ++ va_pl LP (fun _ => la dJ n f)) H := by rw [hHe]; exact hP
  have hl := lv_entry ([.ref x, .int b]) (n := 5) (Nat.le_of_ble_eq_true rfl)
  rw [lg_entry_eq]
  generalize (lg_sl ([.ref x, .int b]) ++ List.replicate (5 - (lg_sl ([.ref x, .int b])).length) Slot.unset).toArray = ls at hl ⊢
  have hl : lv_has ls 5 [(0, .ref x), (1, .int b)] := hl
  have htn := tn5_lt b
  refine lv_lconst (v := 0) hx hb dX0_takeMany_0 (by decide) ?_
  refine lv_lstore_n (lv' := [(2, .long 0), (0, .ref x), (1, .int b)]) hx hb dX0_takeMany_1 rfl hl (by decide) rfl (fun ls hl => ?_)
  refine lv_iload_n hx hb dX0_takeMany_2 rfl (lv_at hl 2 rfl) ?_
  refine lv_bipush (v := 31) hx hb dX0_takeMany_3 (by decide) ?_
  refine lv_iand hx hb dX0_takeMany_5 ?_
  refine lv_topi (fun t7 et7 => ?_)
  obtain rfl : t7 = nI (tn5 b) := et7.trans (pk_and b 5 (by decide))
  refine lv_istore (lv' := [(4, .int (nI (tn5 b))), (2, .long 0), (0, .ref x), (1, .int b)]) hx hb dX0_takeMany_6 hl (by decide) rfl (fun ls hl => ?_)
  have hl : lv_has ls 5 [(0, .ref x), (2, .long 0), (4, .int (nI (tn5 b)))] := lv_sub hl [2, 1, 0] rfl
  have exit : ∀ (M : List Int64) (acc : Int64) (a n z : Nat) (f : Nat → Int64) (LP : List Nat) (H : Heap) (locs : List Loc) (ls : Array Slot), (acc, M) = tm (tn5 b) L 0 → dok e0 a n z f LP M → va_P D vwCl ([(x, .inr (0, [.ref h])), (h, .inr (1, [.ref a, .int (nI z), .null]))] ++ va_pl LP (fun _ => la dJ n f)) H → va_D A ([(x, .inr (0, [.ref h])), (h, .inr (1, [.ref a, .int (nI z), .null]))] ++ va_pl LP (fun _ => la dJ n f)) → va_S A s.heap H locs → lv_has ls 5 [(2, .long acc)] → W p l e (headSpec (ws_ yX0_takeMany cX0_takeMany 5 (some .long)) ({ frames := 2, cells := 0, slots := 0, locals := 51 } : Room)).room s m ([.ref x, .int b] : List Value).toArray below meth c H locs 0 0 (MQ below (va_Ql (fun (r : Int64) (_ : Unit) => r = (tm (tn5 b) L 0).1) (fun (_ : Unit) t => dAt D dJ e0 A x ((tm (tn5 b) L 0).2) t) A) ([.ref x, .int b] : List Value).toArray s 0 0 A) (F0 m 43 ls []) := by
    intro M acc a n z f LP H locs ls hM hd hP hD hS hl
    refine lv_lload_n hx hb dX0_takeMany_43 rfl (lv_at hl 0 rfl) ?_
    exact W.lret (v := acc) hx hb hr (fun t ht hW => ⟨⟨acc, (), rfl, by rw [← hM], h, a, n, z, f, LP, by rw [← hM]; exact hd, by rw [ht]; exact hP, hD⟩, hS.F ht⟩) hS.2.2 dX0_takeMany_44
  have loop : ∀ (r : Nat) (M : List Int64) (acc : Int64) (a n z : Nat) (f : Nat → Int64) (LP : List Nat) (H : Heap) (locs : List Loc) (ls : Array Slot), r < 32 → tm r M acc = tm (tn5 b) L 0 → dok e0 a n z f LP M → va_P D vwCl ([(x, .inr (0, [.ref h])), (h, .inr (1, [.ref a, .int (nI z), .null]))] ++ va_pl LP (fun _ => la dJ n f)) H → va_D A ([(x, .inr (0, [.ref h])), (h, .inr (1, [.ref a, .int (nI z), .null]))] ++ va_pl LP (fun _ => la dJ n f)) → va_S A s.heap H locs → lv_has ls 5 [(0, .ref x), (2, .long acc), (4, .int (nI r))] → W p l e (headSpec (ws_ yX0_takeMany cX0_takeMany 5 (some .long)) ({ frames := 2, cells := 0, slots := 0, locals := 51 } : Room)).room s m ([.ref x, .int b] : List Value).toArray below meth c H locs 0 0 (MQ below (va_Ql (fun (r : Int64) (_ : Unit) => r = (tm (tn5 b) L 0).1) (fun (_ : Unit) t => dAt D dJ e0 A x ((tm (tn5 b) L 0).2) t) A) ([.ref x, .int b] : List Value).toArray s 0 0 A) (F0 m 8 ls []) := by
    intro r
    induction r with
    | zero =>
      intro M acc a n z f LP H locs ls hr32 hM hd hP hD hS hl
      refine lv_iload hx hb dX0_takeMany_8 (lv_at hl 2 rfl) ?_
      refine q_ifle hx hb (by omega) (tgt := 43) dX0_takeMany_10 (by decide) (fun hc => ?_) (fun hc => ?_)
      · exact exit M acc a n z f LP H locs ls (by rw [← hM, tm_0]) hd hP hD hS (lv_sub hl [1] rfl)
      · exact absurd hc (by omega)
    | succ r ih =>
      intro M acc a n z f LP H locs ls hr32 hM hd hP hD hS hl
      obtain ⟨hok, hn, hz, hz2, hh, hL⟩ := hd
      refine lv_iload hx hb dX0_takeMany_8 (lv_at hl 2 rfl) ?_
      refine q_ifle hx hb (by omega) (tgt := 43) dX0_takeMany_10 (by decide) (fun hc => ?_) (fun hc => ?_)
      · exact absurd hc (by omega)
      · refine lv_aload_n hx hb dX0_takeMany_13 rfl (lv_at hl 0 rfl) ?_
        refine va_get (D := D) (ci := 0) (v := .ref h) (C := RX0) (T := TX0) (N := 1) hx hb hts in_X0 hown hK hP 0 rfl rfl 0 (by decide) (hts _ q44) (fun _ h9 => h9) rfl dX0_takeMany_14 ?_
        have hPc : va_P D vwCl [(h, .inr (1, [.ref a, .int (nI z), .null]))] H := q_Pl (hP.part (cx := [(h, .inr (1, [.ref a, .int (nI z), .null]))]) [1] rfl)
        have hDc : va_D A [(h, .inr (1, [.ref a, .int (nI z), .null]))] := q_Dl (hD.part (cx := [(h, .inr (1, [.ref a, .int (nI z), .null]))]) [1] (by decide) rfl)
        have hFc : ∀ q, va_A [(h, .inr (1, [.ref a, .int (nI z), .null]))] H.size q → A q := fun qv hv9 => va_freeP (cx := [(h, .inr (1, [.ref a, .int (nI z), .null]))]) hD hS hA [1] rfl qv (q_Al hv9)
        refine va_calli (va_runV (As := []) (rest := []) ⟨hx, hb, hml, hown, hts⟩ (m_qsize l D dJ h a _ z) (cwV 0 hts (lw_V q52 q53 q54 q4 q55) rfl rfl rfl (by decide +kernel) ⟨Nat.le_of_ble_eq_true rfl, Nat.le_of_ble_eq_true rfl⟩) (cP_V hK hPc hDc (ci := 1) (q := (RX1, TX1, 3)) (q0 := 0) rfl rfl) rfl rfl hl.1 rfl (lv_room (Nat.le_of_ble_eq_true rfl)) dX0_takeMany_17 ⟨Nat.le_of_ble_eq_true rfl, Nat.le_of_ble_eq_true rfl⟩) hS (fun q _ h => hFc q h) hFc (fun r u t H1 locs ht hvm hw hB hzz hk1 hS => ?_)
        have hw : r = nI z := hw
        subst hw
        obtain ⟨hP1, hD1⟩ := hB
        rw [ht] at hP1
        obtain ⟨hP, hD⟩ := va_joinQ (wr := [(x, .inr (0, [.ref h]))]) (w1 := [(h, .inr (1, [.ref a, .int (nI z), .null]))]) hP hD [1] [0] rfl rfl (by decide) (by decide) hk1 hFc hP1 hD1
        generalize H1 = H at hP hS ⊢
        have hP : va_P D vwCl ([(x, .inr (0, [.ref h])), (h, .inr (1, [.ref a, .int (nI z), .null]))] ++ va_pl LP (fun _ => la dJ n f)) H := hP
        have hD : va_D A ([(x, .inr (0, [.ref h])), (h, .inr (1, [.ref a, .int (nI z), .null]))] ++ va_pl LP (fun _ => la dJ n f)) := hD
        refine q_ifle hx hb (by omega) (tgt := 43) dX0_takeMany_20 (by decide) (fun hc => ?_) (fun hc => ?_)
        · subst hc
          have hN := hol_nil hL
          subst hN
          exact exit [] acc a n 0 f LP H locs ls (by rw [← hM, tm_nil]) ⟨hok, hn, hz, hz2, hh, hL⟩ hP hD hS (lv_sub hl [1] rfl)
        · have hne := hol_ne hL hc
          have hLP := okq_own hok (by omega)
          subst hLP
          obtain ⟨z, rfl⟩ : ∃ z1, z = z1 + 1 := ⟨z - 1, by omega⟩
          have hP : va_P D vwCl ([(x, .inr (0, [.ref h])), (h, .inr (1, [.ref a, .int (nI (z + 1)), .null])), (a, la dJ n f)]) H := hP
          have hD : va_D A ([(x, .inr (0, [.ref h])), (h, .inr (1, [.ref a, .int (nI (z + 1)), .null])), (a, la dJ n f)]) := hD
          have hmn : mn M = f 0 := hol_mn hL (by omega) (fun k hk => hp_min hh (k + 1) k (Nat.lt_succ_self k) hk)
          refine lv_lload_n hx hb dX0_takeMany_23 rfl (lv_at hl 1 rfl) ?_
          refine lv_ldc2 (v := 31) hx hb hown (hts _ q188) dX0_takeMany_24 ?_
          refine lv_lmul hx hb dX0_takeMany_27 ?_
          refine lv_topl (fun t8 et8 => ?_)
          obtain rfl : t8 = acc * 31 := et8.trans (rfl)
          refine lv_aload_n hx hb dX0_takeMany_28 rfl (lv_at hl 0 rfl) ?_
          refine va_get (D := D) (ci := 0) (v := .ref h) (C := RX0) (T := TX0) (N := 1) hx hb hts in_X0 hown hK hP 0 rfl rfl 0 (by decide) (hts _ q44) (fun _ h9 => h9) rfl dX0_takeMany_29 ?_
          have hPc := hP.sub (ws' := [(h, .inr (1, [.ref a, .int (nI (z + 1)), .null])), (a, la dJ n f)]) [1, 2] rfl
          have hDc := hD.sub (ws' := [(h, .inr (1, [.ref a, .int (nI (z + 1)), .null])), (a, la dJ n f)]) [1, 2] (by decide) rfl
          have hFc := va_free (wc := [(h, .inr (1, [.ref a, .int (nI (z + 1)), .null])), (a, la dJ n f)]) hD hS hA [1, 2] rfl
          refine va_calll (va_runV (As := []) (rest := [.long (acc * 31)]) ⟨hx, hb, hml, hown, hts⟩ (m_dequeue l D dJ h a _ n z f hn hz hh) (cwV 0 hts (lw_V q179 q180 q181 q4 q182) rfl rfl rfl (by decide +kernel) ⟨Nat.le_of_ble_eq_true rfl, Nat.le_of_ble_eq_true rfl⟩) (cP_V hK hPc hDc (ci := 1) (q := (RX1, TX1, 3)) (q0 := 0) rfl rfl) rfl rfl hl.1 rfl (lv_room (Nat.le_of_ble_eq_true rfl)) dX0_takeMany_32 ⟨Nat.le_of_ble_eq_true rfl, Nat.le_of_ble_eq_true rfl⟩) hS (fun q _ h => hFc q h) hFc (fun r1 u t H1 locs ht hvm hw hB hzz hk1 hS => ?_)
          obtain ⟨hP1, hD1⟩ := hB
          obtain ⟨hw1, hw2, hw3⟩ := hw
          subst hw1
          rw [ht] at hP1
          obtain ⟨hP, hD⟩ := va_join (wr := [(x, .inr (0, [.ref h]))]) (w1 := [(h, .inr (1, [.ref a, .int (nI z), .null])), (a, la dJ n u)]) hP hD [1, 2] [0] rfl rfl (by decide) (by decide) hk1 hFc hP1 hD1
          generalize H1 = H at hP hS ⊢
          have hP : va_P D vwCl ([(x, .inr (0, [.ref h])), (h, .inr (1, [.ref a, .int (nI z), .null])), (a, la dJ n u)]) H := hP
          have hD : va_D A ([(x, .inr (0, [.ref h])), (h, .inr (1, [.ref a, .int (nI z), .null])), (a, la dJ n u)]) := hD
          refine lv_ladd hx hb dX0_takeMany_35 ?_
          refine lv_topl (fun t9 et9 => ?_)
          obtain rfl : t9 = acc * 31 + f 0 := et9.trans (rfl)
          refine lv_lstore_n (lv' := [(2, .long (acc * 31 + f 0)), (0, .ref x), (4, .int (nI (r + 1)))]) hx hb dX0_takeMany_36 rfl hl (by decide) rfl (fun ls hl => ?_)
          refine lv_iinc (v := nI r) (lv' := [(4, .int (nI r)), (2, .long (acc * 31 + f 0)), (0, .ref x)]) hx hb dX0_takeMany_37 hl (k := 2) rfl (pk_m1 r) (by decide) rfl (fun ls hl => ?_)
          refine lv_goto (tgt := 8) hx hb dX0_takeMany_40 (by decide) ?_
          exact ih (M.erase (mn M)) (acc * 31 + f 0) a n z u [a] H locs ls (by omega) (by rw [← hM, tm_cons hne, hmn]) ⟨Or.inr rfl, hn, by omega, by omega, hw2, by rw [hmn]; exact hw3 M hL⟩ hP hD hS (lv_sub hl [2, 1, 0] rfl)
  exact loop (tn5 b) L 0 a n z f LP H [] ls (by omega) rfl hd hP hD hS hl
set_option maxHeartbeats 4000000 in
set_option maxRecDepth 100000 in
/-- waiting() -/
theorem m_dwaiting (l : Launch) (D : va_G) (dJ : ClassId) (e0 x h a n z sz : Nat) (f : Nat → Int64) (LP : List Nat) (L : List Int64) (hd : dok e0 a n z f LP L) : Met l yX0_waiting (ws_ yX0_waiting cX0_waiting 1 (some .int)) ({ frames := 1, cells := 0, slots := 0, locals := 20 } : Room) (va_Pc [.ref x] (cE D dJ e0 sz ([(x, .inr (0, [.ref h])), (h, .inr (1, [.ref a, .int (nI z), .null]))] ++ va_pl LP (fun _ => la dJ n f)))) (va_Qi (fun (r : Int32) (_ : Unit) => r = nI L.length) (fun (_ : Unit) t => dAt D dJ e0 (va_A ([(x, .inr (0, [.ref h])), (h, .inr (1, [.ref a, .int (nI z), .null]))] ++ va_pl LP (fun _ => la dJ n f)) sz) x (L) t) (va_A ([(x, .inr (0, [.ref h])), (h, .inr (1, [.ref a, .int (nI z), .null]))] ++ va_pl LP (fun _ => la dJ n f)) sz)) 0 0 (va_A ([(x, .inr (0, [.ref h])), (h, .inr (1, [.ref a, .int (nI z), .null]))] ++ va_pl LP (fun _ => la dJ n f)) sz) := by
  refine Met.ofW (cc := cX0_waiting) (maxL := 1) (ret := (some .int)) (by decide) rfl ?_
  intro p e s m args below meth c s₁ B hml hv
  obtain ⟨rfl, ⟨hsz, hP, hK, hD0⟩, hE⟩ := hv
  have hx := B.exec
  have hb := B.bytes
  have hr := B.returns
  have hts := atoms_spec (ws := (ws_ yX0_waiting cX0_waiting 1 (some .int))) B.pre
  have hts : ∀ w ∈ lw_all, w.before _ s = true := fun w h => hts w (List.mem_cons_of_mem _ h)
  have hown : s.vm.findClass RX0 = some m.cls := findClass_of_methodNamed B.named
  have hlocks := B.notSynchronized
  subst hsz
  have hD := hD0.self (sz := s.heap.size)
  generalize hAe : va_A ([(x, .inr (0, [.ref h])), (h, .inr (1, [.ref a, .int (nI z), .null]))] ++ va_pl LP (fun _ => la dJ n f)) s.heap.size = A at hD hE ⊢
  have hA : ∀ q : Nat, s.heap.size ≤ q → A q := fun q h => by rw [← hAe]; exact Or.inr h
  obtain ⟨H, hHe⟩ : ∃ H : Heap, H = s.heap := ⟨_, rfl⟩
  rw [← hHe]
  have hS : va_S A s.heap H [] := by rw [hHe]; exact va_S.rf
  have hP : va_P D vwCl ([(x, .inr (0, [.ref h])), (h, .inr (1, [.ref a, .int (nI z), .null]))] ++ va_pl LP (fun _ => la dJ n f)) H := by rw [hHe]; exact hP
  have hl := lv_entry ([.ref x]) (n := 1) (Nat.le_of_ble_eq_true rfl)
  rw [lg_entry_eq]
  generalize (lg_sl ([.ref x]) ++ List.replicate (1 - (lg_sl ([.ref x])).length) Slot.unset).toArray = ls at hl ⊢
  have hl : lv_has ls 1 [(0, .ref x)] := hl
  have hd0 := hd
  obtain ⟨hok, hn, hz, hz2, hh, hL⟩ := hd
  refine lv_aload_n hx hb dX0_waiting_0 rfl (lv_at hl 0 rfl) ?_
  refine va_get (D := D) (ci := 0) (v := .ref h) (C := RX0) (T := TX0) (N := 1) hx hb hts in_X0 hown hK hP 0 rfl rfl 0 (by decide) (hts _ q44) (fun _ h9 => h9) rfl dX0_waiting_1 ?_
  have hPc : va_P D vwCl [(h, .inr (1, [.ref a, .int (nI z), .null]))] H := q_Pl (hP.part (cx := [(h, .inr (1, [.ref a, .int (nI z), .null]))]) [1] rfl)
  have hDc : va_D A [(h, .inr (1, [.ref a, .int (nI z), .null]))] := q_Dl (hD.part (cx := [(h, .inr (1, [.ref a, .int (nI z), .null]))]) [1] (by decide) rfl)
  have hFc : ∀ q, va_A [(h, .inr (1, [.ref a, .int (nI z), .null]))] H.size q → A q := fun qv hv9 => va_freeP (cx := [(h, .inr (1, [.ref a, .int (nI z), .null]))]) hD hS hA [1] rfl qv (q_Al hv9)
  refine va_calli (va_runV (As := []) (rest := []) ⟨hx, hb, hml, hown, hts⟩ (m_qsize l D dJ h a _ z) (cwV 0 hts (lw_V q52 q53 q54 q4 q55) rfl rfl rfl (by decide +kernel) ⟨Nat.le_of_ble_eq_true rfl, Nat.le_of_ble_eq_true rfl⟩) (cP_V hK hPc hDc (ci := 1) (q := (RX1, TX1, 3)) (q0 := 0) rfl rfl) rfl rfl hl.1 rfl (lv_room (Nat.le_of_ble_eq_true rfl)) dX0_waiting_4 ⟨Nat.le_of_ble_eq_true rfl, Nat.le_of_ble_eq_true rfl⟩) hS (fun q _ h => hFc q h) hFc (fun r u t H1 locs ht hvm hw hB hzz hk1 hS => ?_)
  have hw : r = nI z := hw
  subst hw
  obtain ⟨hP1, hD1⟩ := hB
  rw [ht] at hP1
  obtain ⟨hP, hD⟩ := va_joinQ (wr := [(x, .inr (0, [.ref h]))]) (w1 := [(h, .inr (1, [.ref a, .int (nI z), .null]))]) hP hD [1] [0] rfl rfl (by decide) (by decide) hk1 hFc hP1 hD1
  generalize H1 = H at hP hS ⊢
  have hP : va_P D vwCl ([(x, .inr (0, [.ref h])), (h, .inr (1, [.ref a, .int (nI z), .null]))] ++ va_pl LP (fun _ => la dJ n f)) H := hP
  have hD : va_D A ([(x, .inr (0, [.ref h])), (h, .inr (1, [.ref a, .int (nI z), .null]))] ++ va_pl LP (fun _ => la dJ n f)) := hD
  exact W.iret (v := nI z) hx hb hr (fun t ht hW => ⟨⟨nI z, (), rfl, by rw [hol_len hL], h, a, n, z, f, LP, hd0, by rw [ht]; exact hP, hD⟩, hS.F ht⟩) hS.2.2 dX0_waiting_7
set_option maxHeartbeats 4000000 in
set_option maxRecDepth 100000 in
/-- shrink() -/
theorem m_dshrink (l : Launch) (D : va_G) (dJ : ClassId) (e0 x h a n z sz : Nat) (f : Nat → Int64) (LP : List Nat) (L : List Int64) (hd : dok e0 a n z f LP L) : Met l yX0_shrink (ws_ yX0_shrink cX0_shrink 1 none) ({ frames := 3, cells := 1, slots := 300, locals := 82 } : Room) (va_Pc [.ref x] (cE D dJ e0 sz ([(x, .inr (0, [.ref h])), (h, .inr (1, [.ref a, .int (nI z), .null]))] ++ va_pl LP (fun _ => la dJ n f)))) (va_Qv (fun (_ : Unit) => True) (fun (_ : Unit) t => dAt D dJ e0 (va_A ([(x, .inr (0, [.ref h])), (h, .inr (1, [.ref a, .int (nI z), .null]))] ++ va_pl LP (fun _ => la dJ n f)) sz) x (L) t) (va_A ([(x, .inr (0, [.ref h])), (h, .inr (1, [.ref a, .int (nI z), .null]))] ++ va_pl LP (fun _ => la dJ n f)) sz)) 1 300 (va_A ([(x, .inr (0, [.ref h])), (h, .inr (1, [.ref a, .int (nI z), .null]))] ++ va_pl LP (fun _ => la dJ n f)) sz) := by
  refine Met.ofW (cc := cX0_shrink) (maxL := 1) (ret := none) (by decide) rfl ?_
  intro p e s m args below meth c s₁ B hml hv
  obtain ⟨rfl, ⟨hsz, hP, hK, hD0⟩, hE⟩ := hv
  have hx := B.exec
  have hb := B.bytes
  have hr := B.returns
  have hts := atoms_spec (ws := (ws_ yX0_shrink cX0_shrink 1 none)) B.pre
  have hts : ∀ w ∈ lw_all, w.before _ s = true := fun w h => hts w (List.mem_cons_of_mem _ h)
  have hown : s.vm.findClass RX0 = some m.cls := findClass_of_methodNamed B.named
  have hlocks := B.notSynchronized
  subst hsz
  have hD := hD0.self (sz := s.heap.size)
  generalize hAe : va_A ([(x, .inr (0, [.ref h])), (h, .inr (1, [.ref a, .int (nI z), .null]))] ++ va_pl LP (fun _ => la dJ n f)) s.heap.size = A at hD hE ⊢
  have hA : ∀ q : Nat, s.heap.size ≤ q → A q := fun q h => by rw [← hAe]; exact Or.inr h
  obtain ⟨H, hHe⟩ : ∃ H : Heap, H = s.heap := ⟨_, rfl⟩
  rw [← hHe]
  have hS : va_S A s.heap H [] := by rw [hHe]; exact va_S.rf
  have hP : va_P D vwCl ([(x, .inr (0, [.ref h])), (h, .inr (1, [.ref a, .int (nI z), .null]))] ++ va_pl LP (fun _ => la dJ n f)) H := by rw [hHe]; exact hP
  have hl := lv_entry ([.ref x]) (n := 1) (Nat.le_of_ble_eq_true rfl)
  rw [lg_entry_eq]
  generalize (lg_sl ([.ref x]) ++ List.replicate (1 - (lg_sl ([.ref x])).length) Slot.unset).toArray = ls at hl ⊢
  have hl : lv_has ls 1 [(0, .ref x)] := hl
  obtain ⟨hok, hn, hz, hz2, hh, hL⟩ := hd
  refine lv_aload_n hx hb dX0_shrink_0 rfl (lv_at hl 0 rfl) ?_
  refine va_get (D := D) (ci := 0) (v := .ref h) (C := RX0) (T := TX0) (N := 1) hx hb hts in_X0 hown hK hP 0 rfl rfl 0 (by decide) (hts _ q44) (fun _ h9 => h9) rfl dX0_shrink_1 ?_
  have hPc : va_P D vwCl ([(h, .inr (1, [.ref a, .int (nI z), .null]))] ++ va_pl LP (fun _ => la dJ n f)) H := hP.part (cx := [(h, .inr (1, [.ref a, .int (nI z), .null]))]) [1] rfl
  have hDc : va_D A ([(h, .inr (1, [.ref a, .int (nI z), .null]))] ++ va_pl LP (fun _ => la dJ n f)) := hD.part (cx := [(h, .inr (1, [.ref a, .int (nI z), .null]))]) [1] (by decide) rfl
  have hFc : ∀ q, va_A ([(h, .inr (1, [.ref a, .int (nI z), .null]))] ++ va_pl LP (fun _ => la dJ n f)) H.size q → A q := va_freeP (cx := [(h, .inr (1, [.ref a, .int (nI z), .null]))]) hD hS hA [1] rfl
  refine va_callv (va_runV (As := []) (rest := []) ⟨hx, hb, hml, hown, hts⟩ (m_qtrim l D dJ e0 h a _ n z f LP hok hn hz) (cwV 0 hts (lw_V q197 q198 q199 q4 q200) rfl rfl rfl (by decide +kernel) ⟨Nat.le_of_ble_eq_true rfl, Nat.le_of_ble_eq_true rfl⟩) (cE_V hK hPc hDc hE hS hFc (ci := 1) (q := (RX1, TX1, 3)) (q0 := 0) rfl rfl) rfl rfl hl.1 rfl (lv_room (Nat.le_of_ble_eq_true rfl)) dX0_shrink_4 ⟨Nat.le_of_ble_eq_true rfl, Nat.le_of_ble_eq_true rfl⟩) hS (fun q _ h => hFc q h) hFc (fun u t H1 locs ht hvm hw hB hzz hk1 hS => ?_)
  obtain ⟨hP1, hD1⟩ := hB
  obtain ⟨a', n', f', LP'⟩ := u
  dsimp only at hw hP1 hD1
  obtain ⟨hw1, hw2, hw3, hw4⟩ := hw
  rw [ht] at hP1
  obtain ⟨hP, hD⟩ := va_joinP (wr := [(x, .inr (0, [.ref h]))]) (rx := [(h, .inr (1, [.ref a', .int (nI z), .null]))]) (cx := [(h, .inr (1, [.ref a, .int (nI z), .null]))]) (pl1 := va_pl LP' (fun _ => la dJ n' f')) hP hD [1] [0] rfl rfl (by decide) (by decide) hk1 hFc hP1 hD1
  generalize H1 = H at hP hS ⊢
  have hP : va_P D vwCl ([(x, .inr (0, [.ref h])), (h, .inr (1, [.ref a', .int (nI z), .null]))] ++ va_pl LP' (fun _ => la dJ n' f')) H := hP
  have hD : va_D A ([(x, .inr (0, [.ref h])), (h, .inr (1, [.ref a', .int (nI z), .null]))] ++ va_pl LP' (fun _ => la dJ n' f')) := hD
  exact W.vret hx hb hr (fun t ht hW => ⟨⟨(), rfl, trivial, h, a', n', z, f', LP', ⟨hw1, hw3, hw2, hz2, hp_congr hh hw4, hol_congr hL hw4⟩, by rw [ht]; exact hP, hD⟩, hS.F ht⟩) hS.2.2 dX0_shrink_7
set_option maxHeartbeats 4000000 in
set_option maxRecDepth 100000 in
/-- drain() -/
theorem m_ddrain (l : Launch) (D : va_G) (dJ : ClassId) (e0 x h a n z sz : Nat) (f : Nat → Int64) (LP : List Nat) (L : List Int64) (hd : dok e0 a n z f LP L) : Met l yX0_drain (ws_ yX0_drain cX0_drain 1 none) ({ frames := 1, cells := 0, slots := 0, locals := 20 } : Room) (va_Pc [.ref x] (cE D dJ e0 sz ([(x, .inr (0, [.ref h])), (h, .inr (1, [.ref a, .int (nI z), .null]))] ++ va_pl LP (fun _ => la dJ n f)))) (va_Qv (fun (_ : Unit) => True) (fun (_ : Unit) t => dAt D dJ e0 (va_A ([(x, .inr (0, [.ref h])), (h, .inr (1, [.ref a, .int (nI z), .null]))] ++ va_pl LP (fun _ => la dJ n f)) sz) x ([]) t) (va_A ([(x, .inr (0, [.ref h])), (h, .inr (1, [.ref a, .int (nI z), .null]))] ++ va_pl LP (fun _ => la dJ n f)) sz)) 0 0 (va_A ([(x, .inr (0, [.ref h])), (h, .inr (1, [.ref a, .int (nI z), .null]))] ++ va_pl LP (fun _ => la dJ n f)) sz) := by
  refine Met.ofW (cc := cX0_drain) (maxL := 1) (ret := none) (by decide) rfl ?_
  intro p e s m args below meth c s₁ B hml hv
  obtain ⟨rfl, ⟨hsz, hP, hK, hD0⟩, hE⟩ := hv
  have hx := B.exec
  have hb := B.bytes
  have hr := B.returns
  have hts := atoms_spec (ws := (ws_ yX0_drain cX0_drain 1 none)) B.pre
  have hts : ∀ w ∈ lw_all, w.before _ s = true := fun w h => hts w (List.mem_cons_of_mem _ h)
  have hown : s.vm.findClass RX0 = some m.cls := findClass_of_methodNamed B.named
  have hlocks := B.notSynchronized
  subst hsz
  have hD := hD0.self (sz := s.heap.size)
  generalize hAe : va_A ([(x, .inr (0, [.ref h])), (h, .inr (1, [.ref a, .int (nI z), .null]))] ++ va_pl LP (fun _ => la dJ n f)) s.heap.size = A at hD hE ⊢
  have hA : ∀ q : Nat, s.heap.size ≤ q → A q := fun q h => by rw [← hAe]; exact Or.inr h
  obtain ⟨H, hHe⟩ : ∃ H : Heap, H = s.heap := ⟨_, rfl⟩
  rw [← hHe]
  have hS : va_S A s.heap H [] := by rw [hHe]; exact va_S.rf
  have hP : va_P D vwCl ([(x, .inr (0, [.ref h])), (h, .inr (1, [.ref a, .int (nI z), .null]))] ++ va_pl LP (fun _ => la dJ n f)) H := by rw [hHe]; exact hP
  have hl := lv_entry ([.ref x]) (n := 1) (Nat.le_of_ble_eq_true rfl)
  rw [lg_entry_eq]
  generalize (lg_sl ([.ref x]) ++ List.replicate (1 - (lg_sl ([.ref x])).length) Slot.unset).toArray = ls at hl ⊢
  have hl : lv_has ls 1 [(0, .ref x)] := hl
  obtain ⟨hok, hn, hz, hz2, hh, hL⟩ := hd
  refine lv_aload_n hx hb dX0_drain_0 rfl (lv_at hl 0 rfl) ?_
  refine va_get (D := D) (ci := 0) (v := .ref h) (C := RX0) (T := TX0) (N := 1) hx hb hts in_X0 hown hK hP 0 rfl rfl 0 (by decide) (hts _ q44) (fun _ h9 => h9) rfl dX0_drain_1 ?_
  have hPc : va_P D vwCl [(h, .inr (1, [.ref a, .int (nI z), .null]))] H := q_Pl (hP.part (cx := [(h, .inr (1, [.ref a, .int (nI z), .null]))]) [1] rfl)
  have hDc : va_D A [(h, .inr (1, [.ref a, .int (nI z), .null]))] := q_Dl (hD.part (cx := [(h, .inr (1, [.ref a, .int (nI z), .null]))]) [1] (by decide) rfl)
  have hFc : ∀ q, va_A [(h, .inr (1, [.ref a, .int (nI z), .null]))] H.size q → A q := fun qv hv9 => va_freeP (cx := [(h, .inr (1, [.ref a, .int (nI z), .null]))]) hD hS hA [1] rfl qv (q_Al hv9)
  refine va_callv (va_runV (As := []) (rest := []) ⟨hx, hb, hml, hown, hts⟩ (m_qclear l D dJ h a _ z) (cwV 0 hts (lw_V q209 q210 q211 q4 q212) rfl rfl rfl (by decide +kernel) ⟨Nat.le_of_ble_eq_true rfl, Nat.le_of_ble_eq_true rfl⟩) (cP_V hK hPc hDc (ci := 1) (q := (RX1, TX1, 3)) (q0 := 0) rfl rfl) rfl rfl hl.1 rfl (lv_room (Nat.le_of_ble_eq_true rfl)) dX0_drain_4 ⟨Nat.le_of_ble_eq_true rfl, Nat.le_of_ble_eq_true rfl⟩) hS (fun q _ h => hFc q h) hFc (fun u t H1 locs ht hvm hw hB hzz hk1 hS => ?_)
  obtain ⟨hP1, hD1⟩ := hB
  rw [ht] at hP1
  obtain ⟨hP, hD⟩ := va_joinQ (wr := [(x, .inr (0, [.ref h]))]) (w1 := [(h, .inr (1, [.ref a, .int (nI 0), .null]))]) hP hD [1] [0] rfl rfl (by decide) (by decide) hk1 hFc hP1 hD1
  generalize H1 = H at hP hS ⊢
  have hP : va_P D vwCl ([(x, .inr (0, [.ref h])), (h, .inr (1, [.ref a, .int (nI 0), .null]))] ++ va_pl LP (fun _ => la dJ n f)) H := hP
  have hD : va_D A ([(x, .inr (0, [.ref h])), (h, .inr (1, [.ref a, .int (nI 0), .null]))] ++ va_pl LP (fun _ => la dJ n f)) := hD
  exact W.vret hx hb hr (fun t ht hW => ⟨⟨(), rfl, trivial, h, a, n, 0, f, LP, ⟨hok, hn, by omega, by omega, hp_small (by decide), hol_0 f⟩, by rw [ht]; exact hP, hD⟩, hS.F ht⟩) hS.2.2 dX0_drain_7
end
section
/-! THE CLAIM OUT OF ONE WALK OF THE LAW'S BODY. Your part is whole_start (and what it stands on); all else here is the same for every law, but numbers. -/
def R_law : String := "LongHeapDeskLaw"
def lw_P (b : Addr) (xs : List Int32) (args : Array Value) (s : State) : Prop := args = #[.ref b] ∧ s.IntsAt b xs ∧ xs.length ≤ 288 ∧ (Jvm.Cond.and given_1 narrow_1).before args s = true
def lw_Q (_ : Array Value) (s : State) (o : Outcome) (t : State) : Prop := o = .returned (some (.int 1)) ∧ Framed s o t [] 1200096 5501386
def lw_Z (below : List Frame) (a : Array Value) (s : State) : State → Prop := fun t => ∃ o, t.status = .running ∧ Ended t below o ∧ lw_Q a s o t
/-- the law's own end, with 1 on the stack, nothing written that was there before, its room as the claim has it -/
theorem lw_ret {p : Program} {l : Launch} {e : Env} {s : State} {m : MethodId} {below : List Frame} {meth : Method} {c : Code} {b : Nat} (hx : p.tables.exec = Jvm.exec) (hb : c.code = code) (hr : meth.sig.returnType = ret) (hlocks : meth.locks = false) {pc : Nat} {H : Heap} {ls : Array Slot} (hdg : decode code pc = .ok (.ireturn, 1)) : W p l e room_1 s m #[Value.ref b] below meth c H [] 1200096 5501386 (lw_Z below #[Value.ref b] s) (F0 m pc ls [.int 1]) := by
  intro T hT X
  obtain ⟨fs, hret, hrun, hended, hW, hframe⟩ := X.leave (v := some (.int 1)) (hlocks := hlocks) (fun h => by rw [hr] at h; cases h)
  have hmeth' : T.vm.method? m = some meth := X.method'
  refine ⟨T.setFrames fs, ?_, .returned (some (.int 1)), hrun, hended, rfl, ⟨_, rfl⟩, hW, hframe⟩
  jvm_step X.here [X.here.top, hx, hb, hdg, hmeth', hr, ret, narrow_b1]
  (try refine ⟨rfl, ?_⟩); (try refine ⟨rfl, ?_⟩)
  first | (intro acts; rw [hret _ acts rfl rfl rfl]) | rw [hret _ _ rfl rfl rfl]
  exact Steps.refl _
/-- what holds at the law's entry: the machine, the code, the tables' words (any of lw_tbl by 'hts w (by decide +kernel)'), the script of L ints xs at the cell b, what the Statement gives of the start (any of its parts by flat_of_before) -/
def lw_At (p : Program) (s : State) (m : MethodId) (meth : Method) (c : Code) (b L : Nat) (xs : Nat → Int32) : Prop :=
  p.tables.exec = Jvm.exec ∧ c.code = code ∧ meth.sig.returnType = ret ∧ c.maxLocals = 4 ∧ s.vm.findClass R_law = some m.cls ∧ (∀ w ∈ lw_tbl, w.before #[Value.ref b] s = true) ∧ va_X b L xs s s.heap ∧ b < s.heap.size ∧ meth.locks = false ∧ (Jvm.Cond.and given_1 narrow_1).before #[Value.ref b] s = true
end
section
/-! THE LAW: its loop, its entry. M: what both hold, as a list up to its order -/
set_option maxHeartbeats 4000000 in
set_option maxRecDepth 100000 in
/-- the law's loop at its head: k calls made; desk and model hold the same list -/
theorem law_loop {p : Program} {l : Launch} {e : Env} {s : State} {m : MethodId} {below : List Frame} {meth : Method} {c : Code} {D : va_G} {dJ : ClassId} {e0 b L : Nat} {xs : Nat → Int32} {A : Nat → Prop} (hL : L ≤ 288) (C0 : lw_At p s m meth c b L xs) (hK : va_K D vwCl [(dJ, .long)] s) (hA : ∀ q, s.heap.size ≤ q → A q) (hAb : ∀ q, A q → s.heap.size ≤ q) (hE : eZ e0 A s s.heap) (x mo bg : Nat) : ∀ (N i k : Nat) (M : List Int64) (h a n z : Nat) (f : Nat → Int64) (LP : List Nat) (z2 : Nat) (g : Nat → Int64) (H : Heap) (locs : List Loc) (ls : Array Slot), L < i + N → i = 6 * k → dok e0 a n z f LP M → z2 ≤ 200 → hol g z2 M → va_P D vwCl ([(x, .inr (0, [.ref h])), (h, .inr (1, [.ref a, .int (nI z), .null])), (mo, .inr (2, [.ref bg, .int (nI z2)])), (bg, la dJ 200 g)] ++ va_pl LP (fun _ => la dJ n f)) H → va_D A ([(x, .inr (0, [.ref h])), (h, .inr (1, [.ref a, .int (nI z), .null])), (mo, .inr (2, [.ref bg, .int (nI z2)])), (bg, la dJ 200 g)] ++ va_pl LP (fun _ => la dJ n f)) → va_S A s.heap H locs → lv_has ls 4 [(0, .ref b), (1, .ref x), (2, .ref mo), (3, .int (nI i))] → 4 + 2 * k ≤ 200 → W p l e room_1 s m #[Value.ref b] below meth c H locs (4 + 2 * k) (206 + 366 * k) (lw_Z below #[Value.ref b] s) (F0 m 18 ls []) := by
  obtain ⟨hx, hb, hr, hml, hown, hts0, hX, hbl, hlocks, hgv⟩ := C0
  have hts : ∀ w ∈ lw_all, w.before #[Value.ref b] s = true := fun w h => hts0 w (lw_all_tbl h)
  have hbA : ¬ A b := fun h => Nat.not_le.mpr hbl (hAb b h)
  have exit : ∀ (k : Nat) (H : Heap) (locs : List Loc) (ls : Array Slot), 4 + 2 * k ≤ 200 → va_S A s.heap H locs → W p l e room_1 s m #[Value.ref b] below meth c H locs (4 + 2 * k) (206 + 366 * k) (lw_Z below #[Value.ref b] s) (F0 m 249 ls []) := by
    intro k H locs ls hk hS
    refine lv_iconst (v := 1) hx hb dL_law_249 (by decide) ?_
    refine va_forget (fun q hq => hAb _ (hS.2.2 q hq)) ?_
    refine W.widen (k := 1200096) (n := 5501386) (by omega) (by omega) ?_
    exact lw_ret hx hb hr hlocks dL_law_250
  intro N
  induction N with
  | zero =>
    intro i k M h a n z f LP z2 g H locs ls hN hik hd hz2 hol2 hP hD hS hl hk
    refine lv_iload_n hx hb dL_law_18 rfl (lv_at hl 3 rfl) ?_
    refine lv_aload_n hx hb dL_law_19 rfl (lv_at hl 0 rfl) ?_
    refine va_slen hx hb hX hbl hbA hS dL_law_20 ?_
    refine lv_bipush (v := 6) hx hb dL_law_21 (by decide) ?_
    refine lv_isub hx hb dL_law_23 ?_
    refine lv_topi (fun t1 et1 => ?_)
    refine lv_icmp_gt hx hb (tgt := 249) dL_law_24 (by decide) (fun hc => ?_) (fun hc => ?_)
    · exact exit k H locs ls hk hS
    · exfalso
      rw [et1, Int32.lt_iff_toInt_lt, show Int32.ofNat L - 6 = nI L - nI 6 from rfl, pk_sub_toInt (by omega) (by decide), nI_toInt (by omega)] at hc
      omega
  | succ N ih =>
    intro i k M h a n z f LP z2 g H locs ls hN hik hd hz2 hol2 hP hD hS hl hk
    refine lv_iload_n hx hb dL_law_18 rfl (lv_at hl 3 rfl) ?_
    refine lv_aload_n hx hb dL_law_19 rfl (lv_at hl 0 rfl) ?_
    refine va_slen hx hb hX hbl hbA hS dL_law_20 ?_
    refine lv_bipush (v := 6) hx hb dL_law_21 (by decide) ?_
    refine lv_isub hx hb dL_law_23 ?_
    refine lv_topi (fun t2 et2 => ?_)
    refine lv_icmp_gt hx hb (tgt := 249) dL_law_24 (by decide) (fun hc => ?_) (fun hc => ?_)
    · exact exit k H locs ls hk hS
    · have hle : i + 6 ≤ L := by
        rw [et2, Int32.lt_iff_toInt_lt, show Int32.ofNat L - 6 = nI L - nI 6 from rfl, pk_sub_toInt (by omega) (by decide), nI_toInt (by omega)] at hc
        omega
      clear hc
      have next : ∀ (M : List Int64) (h a n z : Nat) (f : Nat → Int64) (LP : List Nat) (z2 : Nat) (g : Nat → Int64) (H : Heap) (locs : List Loc) (ls : Array Slot), dok e0 a n z f LP M → z2 ≤ 200 → hol g z2 M → va_P D vwCl ([(x, .inr (0, [.ref h])), (h, .inr (1, [.ref a, .int (nI z), .null])), (mo, .inr (2, [.ref bg, .int (nI z2)])), (bg, la dJ 200 g)] ++ va_pl LP (fun _ => la dJ n f)) H → va_D A ([(x, .inr (0, [.ref h])), (h, .inr (1, [.ref a, .int (nI z), .null])), (mo, .inr (2, [.ref bg, .int (nI z2)])), (bg, la dJ 200 g)] ++ va_pl LP (fun _ => la dJ n f)) → va_S A s.heap H locs → lv_has ls 4 [(0, .ref b), (1, .ref x), (2, .ref mo), (3, .int (nI i))] → W p l e room_1 s m #[Value.ref b] below meth c H locs (4 + 2 * (k + 1)) (206 + 366 * (k + 1)) (lw_Z below #[Value.ref b] s) (F0 m 243 ls []) := by
        intro M h a n z f LP z2 g H locs ls hd hz2 hol2 hP hD hS hl
        refine lv_iinc (v := nI (i + 6)) (lv' := [(3, .int (nI (i + 6))), (0, .ref b), (1, .ref x), (2, .ref mo)]) hx hb dL_law_243 hl (k := 3) rfl (nI_add i 6) (by decide) rfl (fun ls hl => ?_)
        refine lv_goto (tgt := 18) hx hb dL_law_246 (by decide) ?_
        exact ih (i + 6) (k + 1) M h a n z f LP z2 g H locs ls (by omega) (by omega) hd hz2 hol2 hP hD hS (lv_sub hl [1, 2, 3, 0] rfl) (by omega)
      refine lv_aload_n hx hb dL_law_27 rfl (lv_at hl 0 rfl) ?_
      refine lv_iload_n hx hb dL_law_28 rfl (lv_at hl 3 rfl) ?_
      refine va_sld hx hb hX hbl hbA hS (vp_in_nI (n := i) (by omega) (by omega)) dL_law_29 ?_
      refine lv_topi (fun t3 et3 => ?_)
      obtain rfl : t3 = xs i := et3.trans (by rw [nI_clamp (by omega)])
      refine lv_bipush (v := 7) hx hb dL_law_30 (by decide) ?_
      refine lv_iand hx hb dL_law_32 ?_
      refine lv_topi (fun t4 et4 => ?_)
      obtain rfl : t4 = nI ((xs i).toBitVec.toNat % 2 ^ 3) := et4.trans (pk_and (xs i) 3 (by decide))
      have hr8 : (xs i).toBitVec.toNat % 2 ^ 3 < 8 := Nat.mod_lt _ (by decide)
      generalize (xs i).toBitVec.toNat % 2 ^ 3 = r8 at hr8 ⊢
      have h8 : r8 = 0 ∨ r8 = 1 ∨ r8 = 2 ∨ r8 = 3 ∨ r8 = 4 ∨ r8 = 5 ∨ r8 = 6 ∨ r8 = 7 := by omega
      rcases h8 with h8 | h8 | h8 | h8 | h8 | h8 | h8 | h8
      · subst h8
        refine lv_tableIn hx hb (x := nI 0) (off := 47) (tgt := 80) dL_law_33 (by decide) (by decide) (by decide) (by decide) ?_
        refine lv_aload_n hx hb dL_law_80 rfl (lv_at hl 1 rfl) ?_
        refine lv_aload_n hx hb dL_law_81 rfl (lv_at hl 0 rfl) ?_
        refine lv_iload_n hx hb dL_law_82 rfl (lv_at hl 3 rfl) ?_
        refine lv_iconst (v := 1) hx hb dL_law_83 (by decide) ?_
        refine lv_iadd hx hb dL_law_84 ?_
        refine lv_topi (fun t5 et5 => ?_)
        obtain rfl : t5 = nI (i + 1) := et5.trans (nI_add i 1)
        refine va_sld hx hb hX hbl hbA hS (vp_in_nI (n := i + 1) (by omega) (by omega)) dL_law_85 ?_
        refine lv_topi (fun t6 et6 => ?_)
        obtain rfl : t6 = xs (i + 1) := et6.trans (by rw [nI_clamp (by omega)])
        refine lv_aload_n hx hb dL_law_86 rfl (lv_at hl 0 rfl) ?_
        refine lv_iload_n hx hb dL_law_87 rfl (lv_at hl 3 rfl) ?_
        refine lv_iconst (v := 2) hx hb dL_law_88 (by decide) ?_
        refine lv_iadd hx hb dL_law_89 ?_
        refine lv_topi (fun t7 et7 => ?_)
        obtain rfl : t7 = nI (i + 2) := et7.trans (nI_add i 2)
        refine va_sld hx hb hX hbl hbA hS (vp_in_nI (n := i + 2) (by omega) (by omega)) dL_law_90 ?_
        refine lv_topi (fun t8 et8 => ?_)
        obtain rfl : t8 = xs (i + 2) := et8.trans (by rw [nI_clamp (by omega)])
        have hPc : va_P D vwCl ([(x, .inr (0, [.ref h])), (h, .inr (1, [.ref a, .int (nI z), .null]))] ++ va_pl LP (fun _ => la dJ n f)) H := hP.part (cx := [(x, .inr (0, [.ref h])), (h, .inr (1, [.ref a, .int (nI z), .null]))]) [0, 1] rfl
        have hDc : va_D A ([(x, .inr (0, [.ref h])), (h, .inr (1, [.ref a, .int (nI z), .null]))] ++ va_pl LP (fun _ => la dJ n f)) := hD.part (cx := [(x, .inr (0, [.ref h])), (h, .inr (1, [.ref a, .int (nI z), .null]))]) [0, 1] (by decide) rfl
        have hFc : ∀ q, va_A ([(x, .inr (0, [.ref h])), (h, .inr (1, [.ref a, .int (nI z), .null]))] ++ va_pl LP (fun _ => la dJ n f)) H.size q → A q := va_freeP (cx := [(x, .inr (0, [.ref h])), (h, .inr (1, [.ref a, .int (nI z), .null]))]) hD hS hA [0, 1] rfl
        refine va_calli (va_runV (As := [.int (xs (i + 1)), .int (xs (i + 2))]) (rest := []) ⟨hx, hb, hml, hown, hts⟩ (m_denter l D dJ e0 x h a n z _ f LP M hd (xs (i + 1)) (xs (i + 2))) (cwV 2 hts (lw_V q48 q49 q50 q3 q51) rfl rfl rfl (by decide +kernel) ⟨Nat.le_of_ble_eq_true rfl, Nat.le_of_ble_eq_true rfl⟩) (cE_V hK hPc hDc hE hS hFc (ci := 0) (q := (RX0, TX0, 1)) (q0 := 0) rfl rfl) rfl rfl hl.1 rfl (lv_room (Nat.le_of_ble_eq_true rfl)) dL_law_91 ⟨by show 4 + 2 * k + 1 ≤ 1200096; omega, by show 206 + 366 * k + 300 ≤ 5501386; omega⟩) hS (fun q _ h => hFc q h) hFc (fun r u t H1 locs ht hvm hw hB hzz hk1 hS => ?_)
        have hw : r = enR M := hw
        subst hw
        obtain ⟨h', a', n', z', f', LP', hd', hP1, hD1⟩ := hB
        rw [ht] at hP1
        obtain ⟨hP, hD⟩ := va_joinP (wr := [(mo, .inr (2, [.ref bg, .int (nI z2)])), (bg, la dJ 200 g)]) (rx := [(x, .inr (0, [.ref h'])), (h', .inr (1, [.ref a', .int (nI z'), .null]))]) (cx := [(x, .inr (0, [.ref h])), (h, .inr (1, [.ref a, .int (nI z), .null]))]) (pl1 := va_pl LP' (fun _ => la dJ n' f')) hP hD [0, 1] [2, 3] rfl rfl (by decide) (by decide) hk1 hFc hP1 hD1
        generalize H1 = H at hP hS ⊢
        have hP : va_P D vwCl ([(mo, .inr (2, [.ref bg, .int (nI z2)])), (bg, la dJ 200 g), (x, .inr (0, [.ref h'])), (h', .inr (1, [.ref a', .int (nI z'), .null]))] ++ va_pl LP' (fun _ => la dJ n' f')) H := hP
        have hD : va_D A ([(mo, .inr (2, [.ref bg, .int (nI z2)])), (bg, la dJ 200 g), (x, .inr (0, [.ref h'])), (h', .inr (1, [.ref a', .int (nI z'), .null]))] ++ va_pl LP' (fun _ => la dJ n' f')) := hD
        refine W.widen (k := 4 + 2 * (k + 1)) (n := 206 + 366 * (k + 1)) (by omega) (by omega) ?_
        refine lv_aload_n hx hb dL_law_94 rfl (lv_at hl 2 rfl) ?_
        refine lv_aload_n hx hb dL_law_95 rfl (lv_at hl 0 rfl) ?_
        refine lv_iload_n hx hb dL_law_96 rfl (lv_at hl 3 rfl) ?_
        refine lv_iconst (v := 1) hx hb dL_law_97 (by decide) ?_
        refine lv_iadd hx hb dL_law_98 ?_
        refine lv_topi (fun t9 et9 => ?_)
        obtain rfl : t9 = nI (i + 1) := et9.trans (nI_add i 1)
        refine va_sld hx hb hX hbl hbA hS (vp_in_nI (n := i + 1) (by omega) (by omega)) dL_law_99 ?_
        refine lv_topi (fun t10 et10 => ?_)
        obtain rfl : t10 = xs (i + 1) := et10.trans (by rw [nI_clamp (by omega)])
        refine lv_aload_n hx hb dL_law_100 rfl (lv_at hl 0 rfl) ?_
        refine lv_iload_n hx hb dL_law_101 rfl (lv_at hl 3 rfl) ?_
        refine lv_iconst (v := 2) hx hb dL_law_102 (by decide) ?_
        refine lv_iadd hx hb dL_law_103 ?_
        refine lv_topi (fun t11 et11 => ?_)
        obtain rfl : t11 = nI (i + 2) := et11.trans (nI_add i 2)
        refine va_sld hx hb hX hbl hbA hS (vp_in_nI (n := i + 2) (by omega) (by omega)) dL_law_104 ?_
        refine lv_topi (fun t12 et12 => ?_)
        obtain rfl : t12 = xs (i + 2) := et12.trans (by rw [nI_clamp (by omega)])
        have hPc : va_P D vwCl [(mo, .inr (2, [.ref bg, .int (nI z2)])), (bg, la dJ 200 g)] H := q_Pl (hP.part (cx := [(mo, .inr (2, [.ref bg, .int (nI z2)])), (bg, la dJ 200 g)]) [0, 1] rfl)
        have hDc : va_D A [(mo, .inr (2, [.ref bg, .int (nI z2)])), (bg, la dJ 200 g)] := q_Dl (hD.part (cx := [(mo, .inr (2, [.ref bg, .int (nI z2)])), (bg, la dJ 200 g)]) [0, 1] (by decide) rfl)
        have hFc : ∀ q, va_A [(mo, .inr (2, [.ref bg, .int (nI z2)])), (bg, la dJ 200 g)] H.size q → A q := fun qv hv9 => va_freeP (cx := [(mo, .inr (2, [.ref bg, .int (nI z2)])), (bg, la dJ 200 g)]) hD hS hA [0, 1] rfl qv (q_Al hv9)
        refine va_calli (va_runV (As := [.int (xs (i + 1)), .int (xs (i + 2))]) (rest := [.int (enR M)]) ⟨hx, hb, hml, hown, hts⟩ (m_menter l D dJ mo bg _ z2 g M hz2 hol2 (xs (i + 1)) (xs (i + 2))) (cwV 2 hts (lw_V q226 q227 q228 q6 q229) rfl rfl rfl (by decide +kernel) ⟨Nat.le_of_ble_eq_true rfl, Nat.le_of_ble_eq_true rfl⟩) (cP_V hK hPc hDc (ci := 2) (q := (RX3, TX3, 2)) (q0 := 0) rfl rfl) rfl rfl hl.1 rfl (lv_room (Nat.le_of_ble_eq_true rfl)) dL_law_105 ⟨by show 4 + 2 * (k + 1) + 0 ≤ 1200096; omega, by show 206 + 366 * (k + 1) + 0 ≤ 5501386; omega⟩) hS (fun q _ h => hFc q h) hFc (fun r u t H1 locs ht hvm hw hB hzz hk1 hS => ?_)
        have hw : r = enR M := hw
        subst hw
        obtain ⟨z2', g', hol2', hz2', hP1, hD1⟩ := hB
        rw [ht] at hP1
        obtain ⟨hP, hD⟩ := va_joinQ (wr := [(x, .inr (0, [.ref h'])), (h', .inr (1, [.ref a', .int (nI z'), .null]))]) (w1 := [(mo, .inr (2, [.ref bg, .int (nI z2')])), (bg, la dJ 200 g')]) hP hD [0, 1] [2, 3] rfl rfl (by decide) (by decide) hk1 hFc hP1 hD1
        generalize H1 = H at hP hS ⊢
        have hP : va_P D vwCl ([(x, .inr (0, [.ref h'])), (h', .inr (1, [.ref a', .int (nI z'), .null])), (mo, .inr (2, [.ref bg, .int (nI z2')])), (bg, la dJ 200 g')] ++ va_pl LP' (fun _ => la dJ n' f')) H := hP
        have hD : va_D A ([(x, .inr (0, [.ref h'])), (h', .inr (1, [.ref a', .int (nI z'), .null])), (mo, .inr (2, [.ref bg, .int (nI z2')])), (bg, la dJ 200 g')] ++ va_pl LP' (fun _ => la dJ n' f')) := hD
        refine lv_icmp_eq hx hb (tgt := 243) dL_law_108 (by decide) (fun hc => ?_) (fun hc => ?_)
        · exact next (enL M (wd (xs (i + 1)) (xs (i + 2)))) h' a' n' z' f' LP' z2' g' H locs ls hd' hz2' hol2' hP hD hS (lv_sub hl [0, 1, 2, 3] rfl)
        · exact absurd rfl hc
      · subst h8
        refine lv_tableIn hx hb (x := nI 1) (off := 80) (tgt := 113) dL_law_33 (by decide) (by decide) (by decide) (by decide) ?_
        refine lv_aload_n hx hb dL_law_113 rfl (lv_at hl 1 rfl) ?_
        refine lv_aload_n hx hb dL_law_114 rfl (lv_at hl 0 rfl) ?_
        refine lv_iload_n hx hb dL_law_115 rfl (lv_at hl 3 rfl) ?_
        refine lv_iconst (v := 1) hx hb dL_law_116 (by decide) ?_
        refine lv_iadd hx hb dL_law_117 ?_
        refine lv_topi (fun t13 et13 => ?_)
        obtain rfl : t13 = nI (i + 1) := et13.trans (nI_add i 1)
        refine va_sld hx hb hX hbl hbA hS (vp_in_nI (n := i + 1) (by omega) (by omega)) dL_law_118 ?_
        refine lv_topi (fun t14 et14 => ?_)
        obtain rfl : t14 = xs (i + 1) := et14.trans (by rw [nI_clamp (by omega)])
        refine lv_aload_n hx hb dL_law_119 rfl (lv_at hl 0 rfl) ?_
        refine lv_iload_n hx hb dL_law_120 rfl (lv_at hl 3 rfl) ?_
        refine lv_iconst (v := 2) hx hb dL_law_121 (by decide) ?_
        refine lv_iadd hx hb dL_law_122 ?_
        refine lv_topi (fun t15 et15 => ?_)
        obtain rfl : t15 = nI (i + 2) := et15.trans (nI_add i 2)
        refine va_sld hx hb hX hbl hbA hS (vp_in_nI (n := i + 2) (by omega) (by omega)) dL_law_123 ?_
        refine lv_topi (fun t16 et16 => ?_)
        obtain rfl : t16 = xs (i + 2) := et16.trans (by rw [nI_clamp (by omega)])
        refine lv_aload_n hx hb dL_law_124 rfl (lv_at hl 0 rfl) ?_
        refine lv_iload_n hx hb dL_law_125 rfl (lv_at hl 3 rfl) ?_
        refine lv_iconst (v := 3) hx hb dL_law_126 (by decide) ?_
        refine lv_iadd hx hb dL_law_127 ?_
        refine lv_topi (fun t17 et17 => ?_)
        obtain rfl : t17 = nI (i + 3) := et17.trans (nI_add i 3)
        refine va_sld hx hb hX hbl hbA hS (vp_in_nI (n := i + 3) (by omega) (by omega)) dL_law_128 ?_
        refine lv_topi (fun t18 et18 => ?_)
        obtain rfl : t18 = xs (i + 3) := et18.trans (by rw [nI_clamp (by omega)])
        have hPc : va_P D vwCl ([(x, .inr (0, [.ref h])), (h, .inr (1, [.ref a, .int (nI z), .null]))] ++ va_pl LP (fun _ => la dJ n f)) H := hP.part (cx := [(x, .inr (0, [.ref h])), (h, .inr (1, [.ref a, .int (nI z), .null]))]) [0, 1] rfl
        have hDc : va_D A ([(x, .inr (0, [.ref h])), (h, .inr (1, [.ref a, .int (nI z), .null]))] ++ va_pl LP (fun _ => la dJ n f)) := hD.part (cx := [(x, .inr (0, [.ref h])), (h, .inr (1, [.ref a, .int (nI z), .null]))]) [0, 1] (by decide) rfl
        have hFc : ∀ q, va_A ([(x, .inr (0, [.ref h])), (h, .inr (1, [.ref a, .int (nI z), .null]))] ++ va_pl LP (fun _ => la dJ n f)) H.size q → A q := va_freeP (cx := [(x, .inr (0, [.ref h])), (h, .inr (1, [.ref a, .int (nI z), .null]))]) hD hS hA [0, 1] rfl
        refine va_calli (va_runV (As := [.int (xs (i + 1)), .int (xs (i + 2)), .int (xs (i + 3))]) (rest := []) ⟨hx, hb, hml, hown, hts⟩ (m_dwhole l D dJ e0 x h a n z _ f LP M hd (xs (i + 1)) (xs (i + 2)) (xs (i + 3))) (cwV 3 hts (lw_V q83 q84 q85 q3 q86) rfl rfl rfl (by decide +kernel) ⟨Nat.le_of_ble_eq_true rfl, Nat.le_of_ble_eq_true rfl⟩) (cE_V hK hPc hDc hE hS hFc (ci := 0) (q := (RX0, TX0, 1)) (q0 := 0) rfl rfl) rfl rfl hl.1 rfl (lv_room (Nat.le_of_ble_eq_true rfl)) dL_law_129 ⟨by show 4 + 2 * k + 2 ≤ 1200096; omega, by show 206 + 366 * k + 66 ≤ 5501386; omega⟩) hS (fun q _ h => hFc q h) hFc (fun r u t H1 locs ht hvm hw hB hzz hk1 hS => ?_)
        have hw : r = whR (xs (i + 3)) := hw
        subst hw
        obtain ⟨h', a', n', z', f', LP', hd', hP1, hD1⟩ := hB
        rw [ht] at hP1
        obtain ⟨hP, hD⟩ := va_joinP (wr := [(mo, .inr (2, [.ref bg, .int (nI z2)])), (bg, la dJ 200 g)]) (rx := [(x, .inr (0, [.ref h'])), (h', .inr (1, [.ref a', .int (nI z'), .null]))]) (cx := [(x, .inr (0, [.ref h])), (h, .inr (1, [.ref a, .int (nI z), .null]))]) (pl1 := va_pl LP' (fun _ => la dJ n' f')) hP hD [0, 1] [2, 3] rfl rfl (by decide) (by decide) hk1 hFc hP1 hD1
        generalize H1 = H at hP hS ⊢
        have hP : va_P D vwCl ([(mo, .inr (2, [.ref bg, .int (nI z2)])), (bg, la dJ 200 g), (x, .inr (0, [.ref h'])), (h', .inr (1, [.ref a', .int (nI z'), .null]))] ++ va_pl LP' (fun _ => la dJ n' f')) H := hP
        have hD : va_D A ([(mo, .inr (2, [.ref bg, .int (nI z2)])), (bg, la dJ 200 g), (x, .inr (0, [.ref h'])), (h', .inr (1, [.ref a', .int (nI z'), .null]))] ++ va_pl LP' (fun _ => la dJ n' f')) := hD
        refine W.widen (k := 4 + 2 * (k + 1)) (n := 206 + 366 * (k + 1)) (by omega) (by omega) ?_
        refine lv_aload_n hx hb dL_law_132 rfl (lv_at hl 2 rfl) ?_
        refine lv_aload_n hx hb dL_law_133 rfl (lv_at hl 0 rfl) ?_
        refine lv_iload_n hx hb dL_law_134 rfl (lv_at hl 3 rfl) ?_
        refine lv_iconst (v := 1) hx hb dL_law_135 (by decide) ?_
        refine lv_iadd hx hb dL_law_136 ?_
        refine lv_topi (fun t19 et19 => ?_)
        obtain rfl : t19 = nI (i + 1) := et19.trans (nI_add i 1)
        refine va_sld hx hb hX hbl hbA hS (vp_in_nI (n := i + 1) (by omega) (by omega)) dL_law_137 ?_
        refine lv_topi (fun t20 et20 => ?_)
        obtain rfl : t20 = xs (i + 1) := et20.trans (by rw [nI_clamp (by omega)])
        refine lv_aload_n hx hb dL_law_138 rfl (lv_at hl 0 rfl) ?_
        refine lv_iload_n hx hb dL_law_139 rfl (lv_at hl 3 rfl) ?_
        refine lv_iconst (v := 2) hx hb dL_law_140 (by decide) ?_
        refine lv_iadd hx hb dL_law_141 ?_
        refine lv_topi (fun t21 et21 => ?_)
        obtain rfl : t21 = nI (i + 2) := et21.trans (nI_add i 2)
        refine va_sld hx hb hX hbl hbA hS (vp_in_nI (n := i + 2) (by omega) (by omega)) dL_law_142 ?_
        refine lv_topi (fun t22 et22 => ?_)
        obtain rfl : t22 = xs (i + 2) := et22.trans (by rw [nI_clamp (by omega)])
        refine lv_aload_n hx hb dL_law_143 rfl (lv_at hl 0 rfl) ?_
        refine lv_iload_n hx hb dL_law_144 rfl (lv_at hl 3 rfl) ?_
        refine lv_iconst (v := 3) hx hb dL_law_145 (by decide) ?_
        refine lv_iadd hx hb dL_law_146 ?_
        refine lv_topi (fun t23 et23 => ?_)
        obtain rfl : t23 = nI (i + 3) := et23.trans (nI_add i 3)
        refine va_sld hx hb hX hbl hbA hS (vp_in_nI (n := i + 3) (by omega) (by omega)) dL_law_147 ?_
        refine lv_topi (fun t24 et24 => ?_)
        obtain rfl : t24 = xs (i + 3) := et24.trans (by rw [nI_clamp (by omega)])
        have hPc : va_P D vwCl [(mo, .inr (2, [.ref bg, .int (nI z2)])), (bg, la dJ 200 g)] H := q_Pl (hP.part (cx := [(mo, .inr (2, [.ref bg, .int (nI z2)])), (bg, la dJ 200 g)]) [0, 1] rfl)
        have hDc : va_D A [(mo, .inr (2, [.ref bg, .int (nI z2)])), (bg, la dJ 200 g)] := q_Dl (hD.part (cx := [(mo, .inr (2, [.ref bg, .int (nI z2)])), (bg, la dJ 200 g)]) [0, 1] (by decide) rfl)
        have hFc : ∀ q, va_A [(mo, .inr (2, [.ref bg, .int (nI z2)])), (bg, la dJ 200 g)] H.size q → A q := fun qv hv9 => va_freeP (cx := [(mo, .inr (2, [.ref bg, .int (nI z2)])), (bg, la dJ 200 g)]) hD hS hA [0, 1] rfl qv (q_Al hv9)
        refine va_calli (va_runV (As := [.int (xs (i + 1)), .int (xs (i + 2)), .int (xs (i + 3))]) (rest := [.int (whR (xs (i + 3)))]) ⟨hx, hb, hml, hown, hts⟩ (m_mwhole l D dJ mo bg _ z2 g (xs (i + 1)) (xs (i + 2)) (xs (i + 3))) (cwV 3 hts (lw_V q234 q235 q236 q6 q237) rfl rfl rfl (by decide +kernel) ⟨Nat.le_of_ble_eq_true rfl, Nat.le_of_ble_eq_true rfl⟩) (cP_V hK hPc hDc (ci := 2) (q := (RX3, TX3, 2)) (q0 := 0) rfl rfl) rfl rfl hl.1 rfl (lv_room (Nat.le_of_ble_eq_true rfl)) dL_law_148 ⟨by show 4 + 2 * (k + 1) + 0 ≤ 1200096; omega, by show 206 + 366 * (k + 1) + 0 ≤ 5501386; omega⟩) hS (fun q _ h => hFc q h) hFc (fun r u t H1 locs ht hvm hw hB hzz hk1 hS => ?_)
        have hw : r = whR (xs (i + 3)) := hw
        subst hw
        obtain ⟨z2', g', hol2', hz2', hP1, hD1⟩ := hB
        rw [ht] at hP1
        obtain ⟨hP, hD⟩ := va_joinQ (wr := [(x, .inr (0, [.ref h'])), (h', .inr (1, [.ref a', .int (nI z'), .null]))]) (w1 := [(mo, .inr (2, [.ref bg, .int (nI z2')])), (bg, la dJ 200 g')]) hP hD [0, 1] [2, 3] rfl rfl (by decide) (by decide) hk1 hFc hP1 hD1
        generalize H1 = H at hP hS ⊢
        have hP : va_P D vwCl ([(x, .inr (0, [.ref h'])), (h', .inr (1, [.ref a', .int (nI z'), .null])), (mo, .inr (2, [.ref bg, .int (nI z2')])), (bg, la dJ 200 g')] ++ va_pl LP' (fun _ => la dJ n' f')) H := hP
        have hD : va_D A ([(x, .inr (0, [.ref h'])), (h', .inr (1, [.ref a', .int (nI z'), .null])), (mo, .inr (2, [.ref bg, .int (nI z2')])), (bg, la dJ 200 g')] ++ va_pl LP' (fun _ => la dJ n' f')) := hD
        refine lv_icmp_eq hx hb (tgt := 243) dL_law_151 (by decide) (fun hc => ?_) (fun hc => ?_)
        · exact next (ab (mkv (xs (i + 1)) (xs (i + 2))) (wn (xs (i + 3)))) h' a' n' z' f' LP' z2' g' H locs ls hd' hz2' hol2' hP hD hS (lv_sub hl [0, 1, 2, 3] rfl)
        · exact absurd rfl hc
      · subst h8
        refine lv_tableIn hx hb (x := nI 2) (off := 123) (tgt := 156) dL_law_33 (by decide) (by decide) (by decide) (by decide) ?_
        refine lv_aload_n hx hb dL_law_156 rfl (lv_at hl 1 rfl) ?_
        have hPc : va_P D vwCl ([(x, .inr (0, [.ref h])), (h, .inr (1, [.ref a, .int (nI z), .null]))] ++ va_pl LP (fun _ => la dJ n f)) H := hP.part (cx := [(x, .inr (0, [.ref h])), (h, .inr (1, [.ref a, .int (nI z), .null]))]) [0, 1] rfl
        have hDc : va_D A ([(x, .inr (0, [.ref h])), (h, .inr (1, [.ref a, .int (nI z), .null]))] ++ va_pl LP (fun _ => la dJ n f)) := hD.part (cx := [(x, .inr (0, [.ref h])), (h, .inr (1, [.ref a, .int (nI z), .null]))]) [0, 1] (by decide) rfl
        have hFc : ∀ q, va_A ([(x, .inr (0, [.ref h])), (h, .inr (1, [.ref a, .int (nI z), .null]))] ++ va_pl LP (fun _ => la dJ n f)) H.size q → A q := va_freeP (cx := [(x, .inr (0, [.ref h])), (h, .inr (1, [.ref a, .int (nI z), .null]))]) hD hS hA [0, 1] rfl
        refine va_calll (va_runV (As := []) (rest := []) ⟨hx, hb, hml, hown, hts⟩ (m_dleast l D dJ e0 x h a n z _ f LP M hd) (cwV 0 hts (lw_V q106 q107 q108 q3 q109) rfl rfl rfl (by decide +kernel) ⟨Nat.le_of_ble_eq_true rfl, Nat.le_of_ble_eq_true rfl⟩) (cE_V hK hPc hDc hE hS hFc (ci := 0) (q := (RX0, TX0, 1)) (q0 := 0) rfl rfl) rfl rfl hl.1 rfl (lv_room (Nat.le_of_ble_eq_true rfl)) dL_law_157 ⟨by show 4 + 2 * k + 0 ≤ 1200096; omega, by show 206 + 366 * k + 0 ≤ 5501386; omega⟩) hS (fun q _ h => hFc q h) hFc (fun r u t H1 locs ht hvm hw hB hzz hk1 hS => ?_)
        have hw : r = lsR M := hw
        subst hw
        obtain ⟨h', a', n', z', f', LP', hd', hP1, hD1⟩ := hB
        rw [ht] at hP1
        obtain ⟨hP, hD⟩ := va_joinP (wr := [(mo, .inr (2, [.ref bg, .int (nI z2)])), (bg, la dJ 200 g)]) (rx := [(x, .inr (0, [.ref h'])), (h', .inr (1, [.ref a', .int (nI z'), .null]))]) (cx := [(x, .inr (0, [.ref h])), (h, .inr (1, [.ref a, .int (nI z), .null]))]) (pl1 := va_pl LP' (fun _ => la dJ n' f')) hP hD [0, 1] [2, 3] rfl rfl (by decide) (by decide) hk1 hFc hP1 hD1
        generalize H1 = H at hP hS ⊢
        have hP : va_P D vwCl ([(mo, .inr (2, [.ref bg, .int (nI z2)])), (bg, la dJ 200 g), (x, .inr (0, [.ref h'])), (h', .inr (1, [.ref a', .int (nI z'), .null]))] ++ va_pl LP' (fun _ => la dJ n' f')) H := hP
        have hD : va_D A ([(mo, .inr (2, [.ref bg, .int (nI z2)])), (bg, la dJ 200 g), (x, .inr (0, [.ref h'])), (h', .inr (1, [.ref a', .int (nI z'), .null]))] ++ va_pl LP' (fun _ => la dJ n' f')) := hD
        refine W.widen (k := 4 + 2 * (k + 1)) (n := 206 + 366 * (k + 1)) (by omega) (by omega) ?_
        refine lv_aload_n hx hb dL_law_160 rfl (lv_at hl 2 rfl) ?_
        have hPc : va_P D vwCl [(mo, .inr (2, [.ref bg, .int (nI z2)])), (bg, la dJ 200 g)] H := q_Pl (hP.part (cx := [(mo, .inr (2, [.ref bg, .int (nI z2)])), (bg, la dJ 200 g)]) [0, 1] rfl)
        have hDc : va_D A [(mo, .inr (2, [.ref bg, .int (nI z2)])), (bg, la dJ 200 g)] := q_Dl (hD.part (cx := [(mo, .inr (2, [.ref bg, .int (nI z2)])), (bg, la dJ 200 g)]) [0, 1] (by decide) rfl)
        have hFc : ∀ q, va_A [(mo, .inr (2, [.ref bg, .int (nI z2)])), (bg, la dJ 200 g)] H.size q → A q := fun qv hv9 => va_freeP (cx := [(mo, .inr (2, [.ref bg, .int (nI z2)])), (bg, la dJ 200 g)]) hD hS hA [0, 1] rfl qv (q_Al hv9)
        refine va_calll (va_runV (As := []) (rest := [.long (lsR M)]) ⟨hx, hb, hml, hown, hts⟩ (m_mleast l D dJ mo bg _ z2 g M hz2 hol2) (cwV 0 hts (lw_V q239 q240 q241 q6 q242) rfl rfl rfl (by decide +kernel) ⟨Nat.le_of_ble_eq_true rfl, Nat.le_of_ble_eq_true rfl⟩) (cP_V hK hPc hDc (ci := 2) (q := (RX3, TX3, 2)) (q0 := 0) rfl rfl) rfl rfl hl.1 rfl (lv_room (Nat.le_of_ble_eq_true rfl)) dL_law_161 ⟨by show 4 + 2 * (k + 1) + 0 ≤ 1200096; omega, by show 206 + 366 * (k + 1) + 0 ≤ 5501386; omega⟩) hS (fun q _ h => hFc q h) hFc (fun r u t H1 locs ht hvm hw hB hzz hk1 hS => ?_)
        have hw : r = lsR M := hw
        subst hw
        obtain ⟨z2', g', hol2', hz2', hP1, hD1⟩ := hB
        rw [ht] at hP1
        obtain ⟨hP, hD⟩ := va_joinQ (wr := [(x, .inr (0, [.ref h'])), (h', .inr (1, [.ref a', .int (nI z'), .null]))]) (w1 := [(mo, .inr (2, [.ref bg, .int (nI z2')])), (bg, la dJ 200 g')]) hP hD [0, 1] [2, 3] rfl rfl (by decide) (by decide) hk1 hFc hP1 hD1
        generalize H1 = H at hP hS ⊢
        have hP : va_P D vwCl ([(x, .inr (0, [.ref h'])), (h', .inr (1, [.ref a', .int (nI z'), .null])), (mo, .inr (2, [.ref bg, .int (nI z2')])), (bg, la dJ 200 g')] ++ va_pl LP' (fun _ => la dJ n' f')) H := hP
        have hD : va_D A ([(x, .inr (0, [.ref h'])), (h', .inr (1, [.ref a', .int (nI z'), .null])), (mo, .inr (2, [.ref bg, .int (nI z2')])), (bg, la dJ 200 g')] ++ va_pl LP' (fun _ => la dJ n' f')) := hD
        refine q_leq hx hb (tgt := 243) dL_law_164 dL_law_165 (by decide) (fun hc => ?_) (fun hc => ?_)
        · exact next (M) h' a' n' z' f' LP' z2' g' H locs ls hd' hz2' hol2' hP hD hS (lv_sub hl [0, 1, 2, 3] rfl)
        · exact absurd rfl hc
      · subst h8
        refine lv_tableIn hx hb (x := nI 3) (off := 137) (tgt := 170) dL_law_33 (by decide) (by decide) (by decide) (by decide) ?_
        refine lv_aload_n hx hb dL_law_170 rfl (lv_at hl 1 rfl) ?_
        have hPc : va_P D vwCl ([(x, .inr (0, [.ref h])), (h, .inr (1, [.ref a, .int (nI z), .null]))] ++ va_pl LP (fun _ => la dJ n f)) H := hP.part (cx := [(x, .inr (0, [.ref h])), (h, .inr (1, [.ref a, .int (nI z), .null]))]) [0, 1] rfl
        have hDc : va_D A ([(x, .inr (0, [.ref h])), (h, .inr (1, [.ref a, .int (nI z), .null]))] ++ va_pl LP (fun _ => la dJ n f)) := hD.part (cx := [(x, .inr (0, [.ref h])), (h, .inr (1, [.ref a, .int (nI z), .null]))]) [0, 1] (by decide) rfl
        have hFc : ∀ q, va_A ([(x, .inr (0, [.ref h])), (h, .inr (1, [.ref a, .int (nI z), .null]))] ++ va_pl LP (fun _ => la dJ n f)) H.size q → A q := va_freeP (cx := [(x, .inr (0, [.ref h])), (h, .inr (1, [.ref a, .int (nI z), .null]))]) hD hS hA [0, 1] rfl
        refine va_calll (va_runV (As := []) (rest := []) ⟨hx, hb, hml, hown, hts⟩ (m_dtake l D dJ e0 x h a n z _ f LP M hd) (cwV 0 hts (lw_V q175 q176 q177 q3 q178) rfl rfl rfl (by decide +kernel) ⟨Nat.le_of_ble_eq_true rfl, Nat.le_of_ble_eq_true rfl⟩) (cE_V hK hPc hDc hE hS hFc (ci := 0) (q := (RX0, TX0, 1)) (q0 := 0) rfl rfl) rfl rfl hl.1 rfl (lv_room (Nat.le_of_ble_eq_true rfl)) dL_law_171 ⟨by show 4 + 2 * k + 0 ≤ 1200096; omega, by show 206 + 366 * k + 0 ≤ 5501386; omega⟩) hS (fun q _ h => hFc q h) hFc (fun r u t H1 locs ht hvm hw hB hzz hk1 hS => ?_)
        have hw : r = lsR M := hw
        subst hw
        obtain ⟨h', a', n', z', f', LP', hd', hP1, hD1⟩ := hB
        rw [ht] at hP1
        obtain ⟨hP, hD⟩ := va_joinP (wr := [(mo, .inr (2, [.ref bg, .int (nI z2)])), (bg, la dJ 200 g)]) (rx := [(x, .inr (0, [.ref h'])), (h', .inr (1, [.ref a', .int (nI z'), .null]))]) (cx := [(x, .inr (0, [.ref h])), (h, .inr (1, [.ref a, .int (nI z), .null]))]) (pl1 := va_pl LP' (fun _ => la dJ n' f')) hP hD [0, 1] [2, 3] rfl rfl (by decide) (by decide) hk1 hFc hP1 hD1
        generalize H1 = H at hP hS ⊢
        have hP : va_P D vwCl ([(mo, .inr (2, [.ref bg, .int (nI z2)])), (bg, la dJ 200 g), (x, .inr (0, [.ref h'])), (h', .inr (1, [.ref a', .int (nI z'), .null]))] ++ va_pl LP' (fun _ => la dJ n' f')) H := hP
        have hD : va_D A ([(mo, .inr (2, [.ref bg, .int (nI z2)])), (bg, la dJ 200 g), (x, .inr (0, [.ref h'])), (h', .inr (1, [.ref a', .int (nI z'), .null]))] ++ va_pl LP' (fun _ => la dJ n' f')) := hD
        refine W.widen (k := 4 + 2 * (k + 1)) (n := 206 + 366 * (k + 1)) (by omega) (by omega) ?_
        refine lv_aload_n hx hb dL_law_174 rfl (lv_at hl 2 rfl) ?_
        have hPc : va_P D vwCl [(mo, .inr (2, [.ref bg, .int (nI z2)])), (bg, la dJ 200 g)] H := q_Pl (hP.part (cx := [(mo, .inr (2, [.ref bg, .int (nI z2)])), (bg, la dJ 200 g)]) [0, 1] rfl)
        have hDc : va_D A [(mo, .inr (2, [.ref bg, .int (nI z2)])), (bg, la dJ 200 g)] := q_Dl (hD.part (cx := [(mo, .inr (2, [.ref bg, .int (nI z2)])), (bg, la dJ 200 g)]) [0, 1] (by decide) rfl)
        have hFc : ∀ q, va_A [(mo, .inr (2, [.ref bg, .int (nI z2)])), (bg, la dJ 200 g)] H.size q → A q := fun qv hv9 => va_freeP (cx := [(mo, .inr (2, [.ref bg, .int (nI z2)])), (bg, la dJ 200 g)]) hD hS hA [0, 1] rfl qv (q_Al hv9)
        refine va_calll (va_runV (As := []) (rest := [.long (lsR M)]) ⟨hx, hb, hml, hown, hts⟩ (m_mtake l D dJ mo bg _ z2 g M hz2 hol2) (cwV 0 hts (lw_V q247 q248 q249 q6 q250) rfl rfl rfl (by decide +kernel) ⟨Nat.le_of_ble_eq_true rfl, Nat.le_of_ble_eq_true rfl⟩) (cP_V hK hPc hDc (ci := 2) (q := (RX3, TX3, 2)) (q0 := 0) rfl rfl) rfl rfl hl.1 rfl (lv_room (Nat.le_of_ble_eq_true rfl)) dL_law_175 ⟨by show 4 + 2 * (k + 1) + 0 ≤ 1200096; omega, by show 206 + 366 * (k + 1) + 0 ≤ 5501386; omega⟩) hS (fun q _ h => hFc q h) hFc (fun r u t H1 locs ht hvm hw hB hzz hk1 hS => ?_)
        have hw : r = lsR M := hw
        subst hw
        obtain ⟨z2', g', hol2', hz2', hP1, hD1⟩ := hB
        rw [ht] at hP1
        obtain ⟨hP, hD⟩ := va_joinQ (wr := [(x, .inr (0, [.ref h'])), (h', .inr (1, [.ref a', .int (nI z'), .null]))]) (w1 := [(mo, .inr (2, [.ref bg, .int (nI z2')])), (bg, la dJ 200 g')]) hP hD [0, 1] [2, 3] rfl rfl (by decide) (by decide) hk1 hFc hP1 hD1
        generalize H1 = H at hP hS ⊢
        have hP : va_P D vwCl ([(x, .inr (0, [.ref h'])), (h', .inr (1, [.ref a', .int (nI z'), .null])), (mo, .inr (2, [.ref bg, .int (nI z2')])), (bg, la dJ 200 g')] ++ va_pl LP' (fun _ => la dJ n' f')) H := hP
        have hD : va_D A ([(x, .inr (0, [.ref h'])), (h', .inr (1, [.ref a', .int (nI z'), .null])), (mo, .inr (2, [.ref bg, .int (nI z2')])), (bg, la dJ 200 g')] ++ va_pl LP' (fun _ => la dJ n' f')) := hD
        refine q_leq hx hb (tgt := 243) dL_law_178 dL_law_179 (by decide) (fun hc => ?_) (fun hc => ?_)
        · exact next (M.erase (mn M)) h' a' n' z' f' LP' z2' g' H locs ls hd' hz2' hol2' hP hD hS (lv_sub hl [0, 1, 2, 3] rfl)
        · exact absurd rfl hc
      · subst h8
        refine lv_tableIn hx hb (x := nI 4) (off := 151) (tgt := 184) dL_law_33 (by decide) (by decide) (by decide) (by decide) ?_
        refine lv_aload_n hx hb dL_law_184 rfl (lv_at hl 1 rfl) ?_
        refine lv_aload_n hx hb dL_law_185 rfl (lv_at hl 0 rfl) ?_
        refine lv_iload_n hx hb dL_law_186 rfl (lv_at hl 3 rfl) ?_
        refine lv_iconst (v := 1) hx hb dL_law_187 (by decide) ?_
        refine lv_iadd hx hb dL_law_188 ?_
        refine lv_topi (fun t25 et25 => ?_)
        obtain rfl : t25 = nI (i + 1) := et25.trans (nI_add i 1)
        refine va_sld hx hb hX hbl hbA hS (vp_in_nI (n := i + 1) (by omega) (by omega)) dL_law_189 ?_
        refine lv_topi (fun t26 et26 => ?_)
        obtain rfl : t26 = xs (i + 1) := et26.trans (by rw [nI_clamp (by omega)])
        have hPc : va_P D vwCl ([(x, .inr (0, [.ref h])), (h, .inr (1, [.ref a, .int (nI z), .null]))] ++ va_pl LP (fun _ => la dJ n f)) H := hP.part (cx := [(x, .inr (0, [.ref h])), (h, .inr (1, [.ref a, .int (nI z), .null]))]) [0, 1] rfl
        have hDc : va_D A ([(x, .inr (0, [.ref h])), (h, .inr (1, [.ref a, .int (nI z), .null]))] ++ va_pl LP (fun _ => la dJ n f)) := hD.part (cx := [(x, .inr (0, [.ref h])), (h, .inr (1, [.ref a, .int (nI z), .null]))]) [0, 1] (by decide) rfl
        have hFc : ∀ q, va_A ([(x, .inr (0, [.ref h])), (h, .inr (1, [.ref a, .int (nI z), .null]))] ++ va_pl LP (fun _ => la dJ n f)) H.size q → A q := va_freeP (cx := [(x, .inr (0, [.ref h])), (h, .inr (1, [.ref a, .int (nI z), .null]))]) hD hS hA [0, 1] rfl
        refine va_calll (va_runV (As := [.int (xs (i + 1))]) (rest := []) ⟨hx, hb, hml, hown, hts⟩ (m_dtakeMany l D dJ e0 x h a n z _ f LP M hd (xs (i + 1))) (cwV 1 hts (lw_V q184 q185 q186 q3 q187) rfl rfl rfl (by decide +kernel) ⟨Nat.le_of_ble_eq_true rfl, Nat.le_of_ble_eq_true rfl⟩) (cE_V hK hPc hDc hE hS hFc (ci := 0) (q := (RX0, TX0, 1)) (q0 := 0) rfl rfl) rfl rfl hl.1 rfl (lv_room (Nat.le_of_ble_eq_true rfl)) dL_law_190 ⟨by show 4 + 2 * k + 0 ≤ 1200096; omega, by show 206 + 366 * k + 0 ≤ 5501386; omega⟩) hS (fun q _ h => hFc q h) hFc (fun r u t H1 locs ht hvm hw hB hzz hk1 hS => ?_)
        have hw : r = (tm (tn5 (xs (i + 1))) M 0).1 := hw
        subst hw
        obtain ⟨h', a', n', z', f', LP', hd', hP1, hD1⟩ := hB
        rw [ht] at hP1
        obtain ⟨hP, hD⟩ := va_joinP (wr := [(mo, .inr (2, [.ref bg, .int (nI z2)])), (bg, la dJ 200 g)]) (rx := [(x, .inr (0, [.ref h'])), (h', .inr (1, [.ref a', .int (nI z'), .null]))]) (cx := [(x, .inr (0, [.ref h])), (h, .inr (1, [.ref a, .int (nI z), .null]))]) (pl1 := va_pl LP' (fun _ => la dJ n' f')) hP hD [0, 1] [2, 3] rfl rfl (by decide) (by decide) hk1 hFc hP1 hD1
        generalize H1 = H at hP hS ⊢
        have hP : va_P D vwCl ([(mo, .inr (2, [.ref bg, .int (nI z2)])), (bg, la dJ 200 g), (x, .inr (0, [.ref h'])), (h', .inr (1, [.ref a', .int (nI z'), .null]))] ++ va_pl LP' (fun _ => la dJ n' f')) H := hP
        have hD : va_D A ([(mo, .inr (2, [.ref bg, .int (nI z2)])), (bg, la dJ 200 g), (x, .inr (0, [.ref h'])), (h', .inr (1, [.ref a', .int (nI z'), .null]))] ++ va_pl LP' (fun _ => la dJ n' f')) := hD
        refine W.widen (k := 4 + 2 * (k + 1)) (n := 206 + 366 * (k + 1)) (by omega) (by omega) ?_
        refine lv_aload_n hx hb dL_law_193 rfl (lv_at hl 2 rfl) ?_
        refine lv_aload_n hx hb dL_law_194 rfl (lv_at hl 0 rfl) ?_
        refine lv_iload_n hx hb dL_law_195 rfl (lv_at hl 3 rfl) ?_
        refine lv_iconst (v := 1) hx hb dL_law_196 (by decide) ?_
        refine lv_iadd hx hb dL_law_197 ?_
        refine lv_topi (fun t27 et27 => ?_)
        obtain rfl : t27 = nI (i + 1) := et27.trans (nI_add i 1)
        refine va_sld hx hb hX hbl hbA hS (vp_in_nI (n := i + 1) (by omega) (by omega)) dL_law_198 ?_
        refine lv_topi (fun t28 et28 => ?_)
        obtain rfl : t28 = xs (i + 1) := et28.trans (by rw [nI_clamp (by omega)])
        have hPc : va_P D vwCl [(mo, .inr (2, [.ref bg, .int (nI z2)])), (bg, la dJ 200 g)] H := q_Pl (hP.part (cx := [(mo, .inr (2, [.ref bg, .int (nI z2)])), (bg, la dJ 200 g)]) [0, 1] rfl)
        have hDc : va_D A [(mo, .inr (2, [.ref bg, .int (nI z2)])), (bg, la dJ 200 g)] := q_Dl (hD.part (cx := [(mo, .inr (2, [.ref bg, .int (nI z2)])), (bg, la dJ 200 g)]) [0, 1] (by decide) rfl)
        have hFc : ∀ q, va_A [(mo, .inr (2, [.ref bg, .int (nI z2)])), (bg, la dJ 200 g)] H.size q → A q := fun qv hv9 => va_freeP (cx := [(mo, .inr (2, [.ref bg, .int (nI z2)])), (bg, la dJ 200 g)]) hD hS hA [0, 1] rfl qv (q_Al hv9)
        refine va_calll (va_runV (As := [.int (xs (i + 1))]) (rest := [.long ((tm (tn5 (xs (i + 1))) M 0).1)]) ⟨hx, hb, hml, hown, hts⟩ (m_mtakeMany l D dJ mo bg _ z2 g M hz2 hol2 (xs (i + 1))) (cwV 1 hts (lw_V q251 q252 q253 q6 q254) rfl rfl rfl (by decide +kernel) ⟨Nat.le_of_ble_eq_true rfl, Nat.le_of_ble_eq_true rfl⟩) (cP_V hK hPc hDc (ci := 2) (q := (RX3, TX3, 2)) (q0 := 0) rfl rfl) rfl rfl hl.1 rfl (lv_room (Nat.le_of_ble_eq_true rfl)) dL_law_199 ⟨by show 4 + 2 * (k + 1) + 0 ≤ 1200096; omega, by show 206 + 366 * (k + 1) + 0 ≤ 5501386; omega⟩) hS (fun q _ h => hFc q h) hFc (fun r u t H1 locs ht hvm hw hB hzz hk1 hS => ?_)
        have hw : r = (tm (tn5 (xs (i + 1))) M 0).1 := hw
        subst hw
        obtain ⟨z2', g', hol2', hz2', hP1, hD1⟩ := hB
        rw [ht] at hP1
        obtain ⟨hP, hD⟩ := va_joinQ (wr := [(x, .inr (0, [.ref h'])), (h', .inr (1, [.ref a', .int (nI z'), .null]))]) (w1 := [(mo, .inr (2, [.ref bg, .int (nI z2')])), (bg, la dJ 200 g')]) hP hD [0, 1] [2, 3] rfl rfl (by decide) (by decide) hk1 hFc hP1 hD1
        generalize H1 = H at hP hS ⊢
        have hP : va_P D vwCl ([(x, .inr (0, [.ref h'])), (h', .inr (1, [.ref a', .int (nI z'), .null])), (mo, .inr (2, [.ref bg, .int (nI z2')])), (bg, la dJ 200 g')] ++ va_pl LP' (fun _ => la dJ n' f')) H := hP
        have hD : va_D A ([(x, .inr (0, [.ref h'])), (h', .inr (1, [.ref a', .int (nI z'), .null])), (mo, .inr (2, [.ref bg, .int (nI z2')])), (bg, la dJ 200 g')] ++ va_pl LP' (fun _ => la dJ n' f')) := hD
        refine q_leq hx hb (tgt := 243) dL_law_202 dL_law_203 (by decide) (fun hc => ?_) (fun hc => ?_)
        · exact next ((tm (tn5 (xs (i + 1))) M 0).2) h' a' n' z' f' LP' z2' g' H locs ls hd' hz2' hol2' hP hD hS (lv_sub hl [0, 1, 2, 3] rfl)
        · exact absurd rfl hc
      · subst h8
        refine lv_tableIn hx hb (x := nI 5) (off := 175) (tgt := 208) dL_law_33 (by decide) (by decide) (by decide) (by decide) ?_
        refine lv_aload_n hx hb dL_law_208 rfl (lv_at hl 1 rfl) ?_
        have hPc : va_P D vwCl ([(x, .inr (0, [.ref h])), (h, .inr (1, [.ref a, .int (nI z), .null]))] ++ va_pl LP (fun _ => la dJ n f)) H := hP.part (cx := [(x, .inr (0, [.ref h])), (h, .inr (1, [.ref a, .int (nI z), .null]))]) [0, 1] rfl
        have hDc : va_D A ([(x, .inr (0, [.ref h])), (h, .inr (1, [.ref a, .int (nI z), .null]))] ++ va_pl LP (fun _ => la dJ n f)) := hD.part (cx := [(x, .inr (0, [.ref h])), (h, .inr (1, [.ref a, .int (nI z), .null]))]) [0, 1] (by decide) rfl
        have hFc : ∀ q, va_A ([(x, .inr (0, [.ref h])), (h, .inr (1, [.ref a, .int (nI z), .null]))] ++ va_pl LP (fun _ => la dJ n f)) H.size q → A q := va_freeP (cx := [(x, .inr (0, [.ref h])), (h, .inr (1, [.ref a, .int (nI z), .null]))]) hD hS hA [0, 1] rfl
        refine va_calli (va_runV (As := []) (rest := []) ⟨hx, hb, hml, hown, hts⟩ (m_dwaiting l D dJ e0 x h a n z _ f LP M hd) (cwV 0 hts (lw_V q189 q190 q191 q3 q192) rfl rfl rfl (by decide +kernel) ⟨Nat.le_of_ble_eq_true rfl, Nat.le_of_ble_eq_true rfl⟩) (cE_V hK hPc hDc hE hS hFc (ci := 0) (q := (RX0, TX0, 1)) (q0 := 0) rfl rfl) rfl rfl hl.1 rfl (lv_room (Nat.le_of_ble_eq_true rfl)) dL_law_209 ⟨by show 4 + 2 * k + 0 ≤ 1200096; omega, by show 206 + 366 * k + 0 ≤ 5501386; omega⟩) hS (fun q _ h => hFc q h) hFc (fun r u t H1 locs ht hvm hw hB hzz hk1 hS => ?_)
        have hw : r = nI M.length := hw
        subst hw
        obtain ⟨h', a', n', z', f', LP', hd', hP1, hD1⟩ := hB
        rw [ht] at hP1
        obtain ⟨hP, hD⟩ := va_joinP (wr := [(mo, .inr (2, [.ref bg, .int (nI z2)])), (bg, la dJ 200 g)]) (rx := [(x, .inr (0, [.ref h'])), (h', .inr (1, [.ref a', .int (nI z'), .null]))]) (cx := [(x, .inr (0, [.ref h])), (h, .inr (1, [.ref a, .int (nI z), .null]))]) (pl1 := va_pl LP' (fun _ => la dJ n' f')) hP hD [0, 1] [2, 3] rfl rfl (by decide) (by decide) hk1 hFc hP1 hD1
        generalize H1 = H at hP hS ⊢
        have hP : va_P D vwCl ([(mo, .inr (2, [.ref bg, .int (nI z2)])), (bg, la dJ 200 g), (x, .inr (0, [.ref h'])), (h', .inr (1, [.ref a', .int (nI z'), .null]))] ++ va_pl LP' (fun _ => la dJ n' f')) H := hP
        have hD : va_D A ([(mo, .inr (2, [.ref bg, .int (nI z2)])), (bg, la dJ 200 g), (x, .inr (0, [.ref h'])), (h', .inr (1, [.ref a', .int (nI z'), .null]))] ++ va_pl LP' (fun _ => la dJ n' f')) := hD
        refine W.widen (k := 4 + 2 * (k + 1)) (n := 206 + 366 * (k + 1)) (by omega) (by omega) ?_
        refine lv_aload_n hx hb dL_law_212 rfl (lv_at hl 2 rfl) ?_
        have hPc : va_P D vwCl [(mo, .inr (2, [.ref bg, .int (nI z2)])), (bg, la dJ 200 g)] H := q_Pl (hP.part (cx := [(mo, .inr (2, [.ref bg, .int (nI z2)])), (bg, la dJ 200 g)]) [0, 1] rfl)
        have hDc : va_D A [(mo, .inr (2, [.ref bg, .int (nI z2)])), (bg, la dJ 200 g)] := q_Dl (hD.part (cx := [(mo, .inr (2, [.ref bg, .int (nI z2)])), (bg, la dJ 200 g)]) [0, 1] (by decide) rfl)
        have hFc : ∀ q, va_A [(mo, .inr (2, [.ref bg, .int (nI z2)])), (bg, la dJ 200 g)] H.size q → A q := fun qv hv9 => va_freeP (cx := [(mo, .inr (2, [.ref bg, .int (nI z2)])), (bg, la dJ 200 g)]) hD hS hA [0, 1] rfl qv (q_Al hv9)
        refine va_calli (va_runV (As := []) (rest := [.int (nI M.length)]) ⟨hx, hb, hml, hown, hts⟩ (m_mwaiting l D dJ mo bg _ z2 g M hz2 hol2) (cwV 0 hts (lw_V q257 q258 q259 q6 q260) rfl rfl rfl (by decide +kernel) ⟨Nat.le_of_ble_eq_true rfl, Nat.le_of_ble_eq_true rfl⟩) (cP_V hK hPc hDc (ci := 2) (q := (RX3, TX3, 2)) (q0 := 0) rfl rfl) rfl rfl hl.1 rfl (lv_room (Nat.le_of_ble_eq_true rfl)) dL_law_213 ⟨by show 4 + 2 * (k + 1) + 0 ≤ 1200096; omega, by show 206 + 366 * (k + 1) + 0 ≤ 5501386; omega⟩) hS (fun q _ h => hFc q h) hFc (fun r u t H1 locs ht hvm hw hB hzz hk1 hS => ?_)
        have hw : r = nI M.length := hw
        subst hw
        obtain ⟨z2', g', hol2', hz2', hP1, hD1⟩ := hB
        rw [ht] at hP1
        obtain ⟨hP, hD⟩ := va_joinQ (wr := [(x, .inr (0, [.ref h'])), (h', .inr (1, [.ref a', .int (nI z'), .null]))]) (w1 := [(mo, .inr (2, [.ref bg, .int (nI z2')])), (bg, la dJ 200 g')]) hP hD [0, 1] [2, 3] rfl rfl (by decide) (by decide) hk1 hFc hP1 hD1
        generalize H1 = H at hP hS ⊢
        have hP : va_P D vwCl ([(x, .inr (0, [.ref h'])), (h', .inr (1, [.ref a', .int (nI z'), .null])), (mo, .inr (2, [.ref bg, .int (nI z2')])), (bg, la dJ 200 g')] ++ va_pl LP' (fun _ => la dJ n' f')) H := hP
        have hD : va_D A ([(x, .inr (0, [.ref h'])), (h', .inr (1, [.ref a', .int (nI z'), .null])), (mo, .inr (2, [.ref bg, .int (nI z2')])), (bg, la dJ 200 g')] ++ va_pl LP' (fun _ => la dJ n' f')) := hD
        refine lv_icmp_eq hx hb (tgt := 243) dL_law_216 (by decide) (fun hc => ?_) (fun hc => ?_)
        · exact next (M) h' a' n' z' f' LP' z2' g' H locs ls hd' hz2' hol2' hP hD hS (lv_sub hl [0, 1, 2, 3] rfl)
        · exact absurd rfl hc
      · subst h8
        refine lv_tableIn hx hb (x := nI 6) (off := 188) (tgt := 221) dL_law_33 (by decide) (by decide) (by decide) (by decide) ?_
        refine lv_aload_n hx hb dL_law_221 rfl (lv_at hl 1 rfl) ?_
        have hPc : va_P D vwCl ([(x, .inr (0, [.ref h])), (h, .inr (1, [.ref a, .int (nI z), .null]))] ++ va_pl LP (fun _ => la dJ n f)) H := hP.part (cx := [(x, .inr (0, [.ref h])), (h, .inr (1, [.ref a, .int (nI z), .null]))]) [0, 1] rfl
        have hDc : va_D A ([(x, .inr (0, [.ref h])), (h, .inr (1, [.ref a, .int (nI z), .null]))] ++ va_pl LP (fun _ => la dJ n f)) := hD.part (cx := [(x, .inr (0, [.ref h])), (h, .inr (1, [.ref a, .int (nI z), .null]))]) [0, 1] (by decide) rfl
        have hFc : ∀ q, va_A ([(x, .inr (0, [.ref h])), (h, .inr (1, [.ref a, .int (nI z), .null]))] ++ va_pl LP (fun _ => la dJ n f)) H.size q → A q := va_freeP (cx := [(x, .inr (0, [.ref h])), (h, .inr (1, [.ref a, .int (nI z), .null]))]) hD hS hA [0, 1] rfl
        refine va_callv (va_runV (As := []) (rest := []) ⟨hx, hb, hml, hown, hts⟩ (m_dshrink l D dJ e0 x h a n z _ f LP M hd) (cwV 0 hts (lw_V q193 q194 q195 q3 q196) rfl rfl rfl (by decide +kernel) ⟨Nat.le_of_ble_eq_true rfl, Nat.le_of_ble_eq_true rfl⟩) (cE_V hK hPc hDc hE hS hFc (ci := 0) (q := (RX0, TX0, 1)) (q0 := 0) rfl rfl) rfl rfl hl.1 rfl (lv_room (Nat.le_of_ble_eq_true rfl)) dL_law_222 ⟨by show 4 + 2 * k + 1 ≤ 1200096; omega, by show 206 + 366 * k + 300 ≤ 5501386; omega⟩) hS (fun q _ h => hFc q h) hFc (fun u t H1 locs ht hvm hw hB hzz hk1 hS => ?_)
        obtain ⟨h', a', n', z', f', LP', hd', hP1, hD1⟩ := hB
        rw [ht] at hP1
        obtain ⟨hP, hD⟩ := va_joinP (wr := [(mo, .inr (2, [.ref bg, .int (nI z2)])), (bg, la dJ 200 g)]) (rx := [(x, .inr (0, [.ref h'])), (h', .inr (1, [.ref a', .int (nI z'), .null]))]) (cx := [(x, .inr (0, [.ref h])), (h, .inr (1, [.ref a, .int (nI z), .null]))]) (pl1 := va_pl LP' (fun _ => la dJ n' f')) hP hD [0, 1] [2, 3] rfl rfl (by decide) (by decide) hk1 hFc hP1 hD1
        generalize H1 = H at hP hS ⊢
        have hP : va_P D vwCl ([(mo, .inr (2, [.ref bg, .int (nI z2)])), (bg, la dJ 200 g), (x, .inr (0, [.ref h'])), (h', .inr (1, [.ref a', .int (nI z'), .null]))] ++ va_pl LP' (fun _ => la dJ n' f')) H := hP
        have hD : va_D A ([(mo, .inr (2, [.ref bg, .int (nI z2)])), (bg, la dJ 200 g), (x, .inr (0, [.ref h'])), (h', .inr (1, [.ref a', .int (nI z'), .null]))] ++ va_pl LP' (fun _ => la dJ n' f')) := hD
        refine W.widen (k := 4 + 2 * (k + 1)) (n := 206 + 366 * (k + 1)) (by omega) (by omega) ?_
        refine lv_aload_n hx hb dL_law_225 rfl (lv_at hl 2 rfl) ?_
        have hPc : va_P D vwCl [(mo, .inr (2, [.ref bg, .int (nI z2)])), (bg, la dJ 200 g)] H := q_Pl (hP.part (cx := [(mo, .inr (2, [.ref bg, .int (nI z2)])), (bg, la dJ 200 g)]) [0, 1] rfl)
        have hDc : va_D A [(mo, .inr (2, [.ref bg, .int (nI z2)])), (bg, la dJ 200 g)] := q_Dl (hD.part (cx := [(mo, .inr (2, [.ref bg, .int (nI z2)])), (bg, la dJ 200 g)]) [0, 1] (by decide) rfl)
        have hFc : ∀ q, va_A [(mo, .inr (2, [.ref bg, .int (nI z2)])), (bg, la dJ 200 g)] H.size q → A q := fun qv hv9 => va_freeP (cx := [(mo, .inr (2, [.ref bg, .int (nI z2)])), (bg, la dJ 200 g)]) hD hS hA [0, 1] rfl qv (q_Al hv9)
        refine va_callv (va_runV (As := []) (rest := []) ⟨hx, hb, hml, hown, hts⟩ (m_mshrink l D dJ mo bg _ z2 g M hz2 hol2) (cwV 0 hts (lw_V q261 q262 q263 q6 q264) rfl rfl rfl (by decide +kernel) ⟨Nat.le_of_ble_eq_true rfl, Nat.le_of_ble_eq_true rfl⟩) (cP_V hK hPc hDc (ci := 2) (q := (RX3, TX3, 2)) (q0 := 0) rfl rfl) rfl rfl hl.1 rfl (lv_room (Nat.le_of_ble_eq_true rfl)) dL_law_226 ⟨by show 4 + 2 * (k + 1) + 0 ≤ 1200096; omega, by show 206 + 366 * (k + 1) + 0 ≤ 5501386; omega⟩) hS (fun q _ h => hFc q h) hFc (fun u t H1 locs ht hvm hw hB hzz hk1 hS => ?_)
        obtain ⟨z2', g', hol2', hz2', hP1, hD1⟩ := hB
        rw [ht] at hP1
        obtain ⟨hP, hD⟩ := va_joinQ (wr := [(x, .inr (0, [.ref h'])), (h', .inr (1, [.ref a', .int (nI z'), .null]))]) (w1 := [(mo, .inr (2, [.ref bg, .int (nI z2')])), (bg, la dJ 200 g')]) hP hD [0, 1] [2, 3] rfl rfl (by decide) (by decide) hk1 hFc hP1 hD1
        generalize H1 = H at hP hS ⊢
        have hP : va_P D vwCl ([(x, .inr (0, [.ref h'])), (h', .inr (1, [.ref a', .int (nI z'), .null])), (mo, .inr (2, [.ref bg, .int (nI z2')])), (bg, la dJ 200 g')] ++ va_pl LP' (fun _ => la dJ n' f')) H := hP
        have hD : va_D A ([(x, .inr (0, [.ref h'])), (h', .inr (1, [.ref a', .int (nI z'), .null])), (mo, .inr (2, [.ref bg, .int (nI z2')])), (bg, la dJ 200 g')] ++ va_pl LP' (fun _ => la dJ n' f')) := hD
        refine lv_goto (tgt := 243) hx hb dL_law_229 (by decide) ?_
        exact next (M) h' a' n' z' f' LP' z2' g' H locs ls hd' hz2' hol2' hP hD hS (lv_sub hl [0, 1, 2, 3] rfl)
      · subst h8
        refine lv_tableIn hx hb (x := nI 7) (off := 199) (tgt := 232) dL_law_33 (by decide) (by decide) (by decide) (by decide) ?_
        refine lv_aload_n hx hb dL_law_232 rfl (lv_at hl 1 rfl) ?_
        have hPc : va_P D vwCl ([(x, .inr (0, [.ref h])), (h, .inr (1, [.ref a, .int (nI z), .null]))] ++ va_pl LP (fun _ => la dJ n f)) H := hP.part (cx := [(x, .inr (0, [.ref h])), (h, .inr (1, [.ref a, .int (nI z), .null]))]) [0, 1] rfl
        have hDc : va_D A ([(x, .inr (0, [.ref h])), (h, .inr (1, [.ref a, .int (nI z), .null]))] ++ va_pl LP (fun _ => la dJ n f)) := hD.part (cx := [(x, .inr (0, [.ref h])), (h, .inr (1, [.ref a, .int (nI z), .null]))]) [0, 1] (by decide) rfl
        have hFc : ∀ q, va_A ([(x, .inr (0, [.ref h])), (h, .inr (1, [.ref a, .int (nI z), .null]))] ++ va_pl LP (fun _ => la dJ n f)) H.size q → A q := va_freeP (cx := [(x, .inr (0, [.ref h])), (h, .inr (1, [.ref a, .int (nI z), .null]))]) hD hS hA [0, 1] rfl
        refine va_callv (va_runV (As := []) (rest := []) ⟨hx, hb, hml, hown, hts⟩ (m_ddrain l D dJ e0 x h a n z _ f LP M hd) (cwV 0 hts (lw_V q205 q206 q207 q3 q208) rfl rfl rfl (by decide +kernel) ⟨Nat.le_of_ble_eq_true rfl, Nat.le_of_ble_eq_true rfl⟩) (cE_V hK hPc hDc hE hS hFc (ci := 0) (q := (RX0, TX0, 1)) (q0 := 0) rfl rfl) rfl rfl hl.1 rfl (lv_room (Nat.le_of_ble_eq_true rfl)) dL_law_233 ⟨by show 4 + 2 * k + 0 ≤ 1200096; omega, by show 206 + 366 * k + 0 ≤ 5501386; omega⟩) hS (fun q _ h => hFc q h) hFc (fun u t H1 locs ht hvm hw hB hzz hk1 hS => ?_)
        obtain ⟨h', a', n', z', f', LP', hd', hP1, hD1⟩ := hB
        rw [ht] at hP1
        obtain ⟨hP, hD⟩ := va_joinP (wr := [(mo, .inr (2, [.ref bg, .int (nI z2)])), (bg, la dJ 200 g)]) (rx := [(x, .inr (0, [.ref h'])), (h', .inr (1, [.ref a', .int (nI z'), .null]))]) (cx := [(x, .inr (0, [.ref h])), (h, .inr (1, [.ref a, .int (nI z), .null]))]) (pl1 := va_pl LP' (fun _ => la dJ n' f')) hP hD [0, 1] [2, 3] rfl rfl (by decide) (by decide) hk1 hFc hP1 hD1
        generalize H1 = H at hP hS ⊢
        have hP : va_P D vwCl ([(mo, .inr (2, [.ref bg, .int (nI z2)])), (bg, la dJ 200 g), (x, .inr (0, [.ref h'])), (h', .inr (1, [.ref a', .int (nI z'), .null]))] ++ va_pl LP' (fun _ => la dJ n' f')) H := hP
        have hD : va_D A ([(mo, .inr (2, [.ref bg, .int (nI z2)])), (bg, la dJ 200 g), (x, .inr (0, [.ref h'])), (h', .inr (1, [.ref a', .int (nI z'), .null]))] ++ va_pl LP' (fun _ => la dJ n' f')) := hD
        refine W.widen (k := 4 + 2 * (k + 1)) (n := 206 + 366 * (k + 1)) (by omega) (by omega) ?_
        refine lv_aload_n hx hb dL_law_236 rfl (lv_at hl 2 rfl) ?_
        have hPc : va_P D vwCl [(mo, .inr (2, [.ref bg, .int (nI z2)])), (bg, la dJ 200 g)] H := q_Pl (hP.part (cx := [(mo, .inr (2, [.ref bg, .int (nI z2)])), (bg, la dJ 200 g)]) [0, 1] rfl)
        have hDc : va_D A [(mo, .inr (2, [.ref bg, .int (nI z2)])), (bg, la dJ 200 g)] := q_Dl (hD.part (cx := [(mo, .inr (2, [.ref bg, .int (nI z2)])), (bg, la dJ 200 g)]) [0, 1] (by decide) rfl)
        have hFc : ∀ q, va_A [(mo, .inr (2, [.ref bg, .int (nI z2)])), (bg, la dJ 200 g)] H.size q → A q := fun qv hv9 => va_freeP (cx := [(mo, .inr (2, [.ref bg, .int (nI z2)])), (bg, la dJ 200 g)]) hD hS hA [0, 1] rfl qv (q_Al hv9)
        refine va_callv (va_runV (As := []) (rest := []) ⟨hx, hb, hml, hown, hts⟩ (m_mdrain l D dJ mo bg _ z2 g M hz2 hol2) (cwV 0 hts (lw_V q265 q266 q267 q6 q268) rfl rfl rfl (by decide +kernel) ⟨Nat.le_of_ble_eq_true rfl, Nat.le_of_ble_eq_true rfl⟩) (cP_V hK hPc hDc (ci := 2) (q := (RX3, TX3, 2)) (q0 := 0) rfl rfl) rfl rfl hl.1 rfl (lv_room (Nat.le_of_ble_eq_true rfl)) dL_law_237 ⟨by show 4 + 2 * (k + 1) + 0 ≤ 1200096; omega, by show 206 + 366 * (k + 1) + 0 ≤ 5501386; omega⟩) hS (fun q _ h => hFc q h) hFc (fun u t H1 locs ht hvm hw hB hzz hk1 hS => ?_)
        obtain ⟨z2', g', hol2', hz2', hP1, hD1⟩ := hB
        rw [ht] at hP1
        obtain ⟨hP, hD⟩ := va_joinQ (wr := [(x, .inr (0, [.ref h'])), (h', .inr (1, [.ref a', .int (nI z'), .null]))]) (w1 := [(mo, .inr (2, [.ref bg, .int (nI z2')])), (bg, la dJ 200 g')]) hP hD [0, 1] [2, 3] rfl rfl (by decide) (by decide) hk1 hFc hP1 hD1
        generalize H1 = H at hP hS ⊢
        have hP : va_P D vwCl ([(x, .inr (0, [.ref h'])), (h', .inr (1, [.ref a', .int (nI z'), .null])), (mo, .inr (2, [.ref bg, .int (nI z2')])), (bg, la dJ 200 g')] ++ va_pl LP' (fun _ => la dJ n' f')) H := hP
        have hD : va_D A ([(x, .inr (0, [.ref h'])), (h', .inr (1, [.ref a', .int (nI z'), .null])), (mo, .inr (2, [.ref bg, .int (nI z2')])), (bg, la dJ 200 g')] ++ va_pl LP' (fun _ => la dJ n' f')) := hD
        refine lv_goto (tgt := 243) hx hb dL_law_240 (by decide) ?_
        exact next ([]) h' a' n' z' f' LP' z2' g' H locs ls hd' hz2' hol2' hP hD hS (lv_sub hl [0, 1, 2, 3] rfl)
set_option maxHeartbeats 4000000 in
set_option maxRecDepth 100000 in
/-- THE LAW, from its entry -/
theorem law_start {p : Program} {e : Env} {s : State} {m : MethodId} {below : List Frame} {meth : Method} {c : Code} (l : Launch) {b L : Nat} {xs : Nat → Int32} (hL : L ≤ 288) (C0 : lw_At p s m meth c b L xs) : W p l e room_1 s m #[Value.ref b] below meth c s.heap [] 0 0 (lw_Z below #[Value.ref b] s) (entryFrame m ([Value.ref b] : List Value).toArray 4) := by
  obtain ⟨hx, hb, hr, hml, hown, hts0, hX, hbl, hlocks, hgv⟩ := id C0
  have hts : ∀ w ∈ lw_all, w.before #[Value.ref b] s = true := fun w h => hts0 w (lw_all_tbl h)
  obtain ⟨A, hAe⟩ : ∃ A : Nat → Prop, A = fun q => s.heap.size ≤ q := ⟨_, rfl⟩
  have hA : ∀ q, s.heap.size ≤ q → A q := fun q h => by rw [hAe]; exact h
  have hAb : ∀ q, A q → s.heap.size ≤ q := fun q h => by rw [hAe] at h; exact h
  have hAn : ∀ a : Nat, a < s.heap.size → ¬ A a := fun a h q => Nat.not_le.mpr h (hAb a q)
  obtain ⟨c0, iS0, hKn0⟩ := u_known (C := RX0) (T := TX0) (N := 1) (n := 1) hts0 (fun w h => lw_all_tbl (in_X0 w h)) (hts0 _ (lw_all_tbl q15))
  obtain ⟨c1, iS1, hKn1⟩ := u_known (C := RX1) (T := TX1) (N := 3) (n := 3) hts0 (fun w h => lw_all_tbl (in_X1 w h)) (hts0 _ (lw_all_tbl q23))
  obtain ⟨c2, iS2, hKn2⟩ := u_known (C := RX3) (T := TX3) (N := 2) (n := 2) hts0 (fun w h => lw_all_tbl (in_X3 w h)) (hts0 _ (lw_all_tbl q214))
  obtain ⟨dJ, kA, comp, hj1, hj2, hj3⟩ := Cond.arrayClass_spec (hts _ q43)
  obtain ⟨D, hK⟩ : ∃ D : va_G, va_K D vwCl [(dJ, .long)] s := by
    refine ⟨(fun k => if k = 0 then c0 else if k = 1 then c1 else c2, fun k => if k = 0 then iS0 else if k = 1 then iS1 else iS2), ?_, ?_⟩
    · intro k q hq
      match k, hq with
      | 0, hq => cases hq; exact hKn0
      | 1, hq => cases hq; exact hKn1
      | 2, hq => cases hq; exact hKn2
      | k + 3, hq => simp [vwCl] at hq
    · intro k q hq
      match k, hq with
      | 0, hq => cases hq; exact ⟨fun n z => ⟨fun _ h => (by cases h), kA, hj2, comp, hj3⟩, hj1⟩
      | k + 1, hq => simp at hq
  have hs := flat_of_before _ hgv
  have harr : (Cond.arrayOf (.static "LongArrays" "EMPTY_ARRAY" "[J") .long).before #[Value.ref b] s = true := hs _ (by decide +kernel)
  have hlen : (Cond.eq (.length (.static "LongArrays" "EMPTY_ARRAY" "[J")) (.int 0)).before #[Value.ref b] s = true := hs _ (by decide +kernel)
  obtain ⟨e0, he0, hT0⟩ := va_Tof (N := 0) (f := fun _ => .null) (A := A) (by decide) harr (va_eqt hlen) (fun j hj => absurd hj (Nat.not_lt_zero j)) hAn
  have hE : eZ e0 A s s.heap := ⟨va_Zof (hts0 _ q32) (hts _ q5) he0 hAn, hT0⟩
  have hP : va_P D vwCl [] s.heap := fun k q h => by simp at h
  have hD : va_D A [] := ⟨fun i j p q h => by simp at h, fun k q h => by simp at h⟩
  have hS : va_S A s.heap s.heap [] := va_S.rf
  have hl := lv_entry ([.ref b]) (n := 4) (Nat.le_of_ble_eq_true rfl)
  rw [lg_entry_eq]
  generalize (lg_sl ([.ref b]) ++ List.replicate (4 - (lg_sl ([.ref b])).length) Slot.unset).toArray = ls at hl ⊢
  have hl : lv_has ls 4 [(0, .ref b)] := hl
  refine va_new (ci := 0) (fs := [.null]) (C := RX0) (T := TX0) (N := 1) hx hb hts in_X0 tyX0 tyX0_ok hown (hts _ q14) (hts _ q15) (hts _ q3) hK hP hD hS hA rfl (fun j hj => by rcases (show j = 0 by omega) with rfl <;> rfl) (Nat.le_of_ble_eq_true rfl) (Nat.le_of_ble_eq_true rfl) dL_law_0 (fun x H hP hD hS => ?_)
  have hP : va_P D vwCl ([(x, .inr (0, [.null]))]) H := hP
  have hD : va_D A ([(x, .inr (0, [.null]))]) := hD
  refine lv_dup hx hb dL_law_3 rfl ?_
  have hPc := hP.sub (ws' := [(x, .inr (0, [.null]))]) [0] rfl
  have hDc := hD.sub (ws' := [(x, .inr (0, [.null]))]) [0] (by decide) rfl
  have hFc := va_free (wc := [(x, .inr (0, [.null]))]) hD hS hA [0] rfl
  refine va_callv (va_runI (As := []) (rest := [.ref x]) ⟨hx, hb, hml, hown, hts⟩ (m_dinit l D dJ e0 x _) (cwI 0 hts (lw_meth q18) rfl rfl rfl (hts _ q3) (hts _ q16) (hts _ q17) rfl (by decide +kernel) ⟨Nat.le_of_ble_eq_true rfl, Nat.le_of_ble_eq_true rfl⟩) (cE_S hK hPc hDc hE hS hFc) rfl rfl hl.1 rfl (lv_room (Nat.le_of_ble_eq_true rfl)) dL_law_4 ⟨Nat.le_of_ble_eq_true rfl, Nat.le_of_ble_eq_true rfl⟩) hS (fun q _ h => hFc q h) hFc (fun u t H1 locs ht hvm hw hB hzz hk1 hS => ?_)
  obtain ⟨h, a, n, z, f, LP, hd, hP1, hD1⟩ := hB
  rw [ht] at hP1
  obtain ⟨hP, hD⟩ := va_join (wr := []) (w1 := ([(x, .inr (0, [.ref h])), (h, .inr (1, [.ref a, .int (nI z), .null]))] ++ va_pl LP (fun _ => la dJ n f))) hP hD [0] [] rfl rfl (by decide) (by decide) hk1 hFc hP1 hD1
  generalize H1 = H at hP hS ⊢
  have hP : va_P D vwCl ([(x, .inr (0, [.ref h])), (h, .inr (1, [.ref a, .int (nI z), .null]))] ++ va_pl LP (fun _ => la dJ n f)) H := hP
  have hD : va_D A ([(x, .inr (0, [.ref h])), (h, .inr (1, [.ref a, .int (nI z), .null]))] ++ va_pl LP (fun _ => la dJ n f)) := hD
  refine lv_astore_n (lv' := [(1, .ref x), (0, .ref b)]) hx hb dL_law_7 rfl hl (by decide) rfl (fun ls hl => ?_)
  refine va_new (ci := 2) (fs := [.null, .int 0]) (C := RX3) (T := TX3) (N := 2) hx hb hts in_X3 tyX3 tyX3_ok hown (hts _ q213) (hts _ q214) (hts _ q6) hK hP hD hS hA rfl (fun j hj => by rcases (show j = 0 ∨ j = 1 by omega) with rfl | rfl <;> rfl) (Nat.le_of_ble_eq_true rfl) (Nat.le_of_ble_eq_true rfl) dL_law_8 (fun mo H hP hD hS => ?_)
  have hP : va_P D vwCl ([(x, .inr (0, [.ref h])), (h, .inr (1, [.ref a, .int (nI z), .null])), (mo, .inr (2, [.null, .int 0]))] ++ va_pl LP (fun _ => la dJ n f)) H := va_P.swap (a := [(x, .inr (0, [.ref h])), (h, .inr (1, [.ref a, .int (nI z), .null]))]) (b := va_pl LP (fun _ => la dJ n f)) (c := [(mo, .inr (2, [.null, .int 0]))]) hP
  have hD : va_D A ([(x, .inr (0, [.ref h])), (h, .inr (1, [.ref a, .int (nI z), .null])), (mo, .inr (2, [.null, .int 0]))] ++ va_pl LP (fun _ => la dJ n f)) := va_D.swap (a := [(x, .inr (0, [.ref h])), (h, .inr (1, [.ref a, .int (nI z), .null]))]) (b := va_pl LP (fun _ => la dJ n f)) (c := [(mo, .inr (2, [.null, .int 0]))]) hD
  refine lv_dup hx hb dL_law_11 rfl ?_
  have hPc : va_P D vwCl [(mo, .inr (2, [.null, .int 0]))] H := q_Pl (hP.part (cx := [(mo, .inr (2, [.null, .int 0]))]) [2] rfl)
  have hDc : va_D A [(mo, .inr (2, [.null, .int 0]))] := q_Dl (hD.part (cx := [(mo, .inr (2, [.null, .int 0]))]) [2] (by decide) rfl)
  have hFc : ∀ q, va_A [(mo, .inr (2, [.null, .int 0]))] H.size q → A q := fun qv hv9 => va_freeP (cx := [(mo, .inr (2, [.null, .int 0]))]) hD hS hA [2] rfl qv (q_Al hv9)
  refine va_callv (va_runI (As := []) (rest := [.ref mo]) ⟨hx, hb, hml, hown, hts⟩ (m_minit l D dJ mo _) (cwI 0 hts (lw_meth q217) rfl rfl rfl (hts _ q6) (hts _ q215) (hts _ q216) rfl (by decide +kernel) ⟨Nat.le_of_ble_eq_true rfl, Nat.le_of_ble_eq_true rfl⟩) (cP_S hK hPc hDc) rfl rfl hl.1 rfl (lv_room (Nat.le_of_ble_eq_true rfl)) dL_law_12 ⟨Nat.le_of_ble_eq_true rfl, Nat.le_of_ble_eq_true rfl⟩) hS (fun q _ h => hFc q h) hFc (fun u t H1 locs ht hvm hw hB hzz hk1 hS => ?_)
  obtain ⟨bg, z2, g, hol2, hz2, hP1, hD1⟩ := hB
  rw [ht] at hP1
  obtain ⟨hP, hD⟩ := va_joinQ (wr := [(x, .inr (0, [.ref h])), (h, .inr (1, [.ref a, .int (nI z), .null]))]) (w1 := [(mo, .inr (2, [.ref bg, .int (nI z2)])), (bg, la dJ 200 g)]) hP hD [2] [0, 1] rfl rfl (by decide) (by decide) hk1 hFc hP1 hD1
  generalize H1 = H at hP hS ⊢
  have hP : va_P D vwCl ([(x, .inr (0, [.ref h])), (h, .inr (1, [.ref a, .int (nI z), .null])), (mo, .inr (2, [.ref bg, .int (nI z2)])), (bg, la dJ 200 g)] ++ va_pl LP (fun _ => la dJ n f)) H := hP
  have hD : va_D A ([(x, .inr (0, [.ref h])), (h, .inr (1, [.ref a, .int (nI z), .null])), (mo, .inr (2, [.ref bg, .int (nI z2)])), (bg, la dJ 200 g)] ++ va_pl LP (fun _ => la dJ n f)) := hD
  refine lv_astore_n (lv' := [(2, .ref mo), (1, .ref x), (0, .ref b)]) hx hb dL_law_15 rfl hl (by decide) rfl (fun ls hl => ?_)
  refine lv_iconst (v := 0) hx hb dL_law_16 (by decide) ?_
  refine lv_istore_n (lv' := [(3, .int 0), (2, .ref mo), (1, .ref x), (0, .ref b)]) hx hb dL_law_17 rfl hl (by decide) rfl (fun ls hl => ?_)
  exact law_loop hL C0 hK hA hAb hE x mo bg (L + 1) 0 0 [] h a n z f LP z2 g H _ ls (by omega) rfl hd hz2 hol2 hP hD hS (lv_sub hl [3, 2, 1, 0] rfl) (by decide)
end
section
/-! the claim, out of the walk (the skeleton's end) -/
theorem whole_start {p : Program} {e : Env} {s : State} {m : MethodId} {below : List Frame} {meth : Method} {c : Code} (l : Launch) (hflags : l.flags = flags0) {b L : Nat} {xs : Nat → Int32} (hL : L ≤ 288) (C0 : lw_At p s m meth c b L xs) : W p l e room_1 s m #[Value.ref b] below meth c s.heap [] 0 0 (lw_Z below #[Value.ref b] s) (entryFrame m ([Value.ref b] : List Value).toArray 4) := law_start l hL C0
set_option maxHeartbeats 4000000 in
theorem lw_walk (l : Launch) (hflags : l.flags = flags0) (b : Addr) (xs : List Int32) : MetFree l x (headSpec (Jvm.Cond.code x code maxLocals ret :: tables_1) room_1) (lw_P b xs) (fun _ _ _ _ _ => True) lw_Q := by
  refine MetFree.of_bodyS (code := code) (maxLocals := maxLocals) (ret := ret) (by decide) ?_ ?_
  · intro args s m h hn
    obtain ⟨meth, c, h1, h2, h3, h4, h5, h6, -, -⟩ := Cond.code_spec hn (atoms_spec (ws := Jvm.Cond.code x code maxLocals ret :: tables_1) h _ List.mem_cons_self)
    exact ⟨meth, c, h1, h2, h3, h4, h5, h6⟩
  · intro p e s m args below meth c s₁ B hml0 hP _
    obtain ⟨rfl, hx, hbd, hgv⟩ := hP
    obtain ⟨scr, harrAt, hlist, hof, hsmall⟩ := hx
    obtain ⟨hcb, hkn, -, -⟩ := State.arrayAt?_spec harrAt
    have hown : s.vm.findClass R_law = some m.cls := findClass_of_methodNamed B.named
    have hts0 : ∀ c ∈ (Jvm.Cond.code x code maxLocals ret :: tables_1), c.before #[Value.ref b] s = true := atoms_spec (ws := Jvm.Cond.code x code maxLocals ret :: tables_1) B.pre
    have hts : ∀ w ∈ lw_tbl, w.before #[Value.ref b] s = true := k2_hts_sels lw_privs (fun w hw => hts0 w (List.mem_cons_of_mem _ hw)) lw_privs_ok
    have hml : c.maxLocals = 4 := B.maxLocals_eq (hts0 _ List.mem_cons_self)
    have X₀ : Stand p l e room_1 s m #[Value.ref b] below meth c s₁ [] 0 0 := Stand.of_body B
    have hh0 : s₁.heap = s.heap := by rw [B.state]; rfl
    have hsz : scr.slots.size = xs.length := by rw [← Array.length_toList, hlist, List.length_map]
    have hval : ∀ j : Nat, j < xs.length → scr.slots[j]? = some (.int (xs.getD j 0)) := fun j hj => by
      rw [← Array.getElem?_toList, hlist]
      simp [hj]
    have hbl : b < s.heap.size := (Array.getElem?_eq_some_iff.mp hcb).1
    have hX : va_X b xs.length (fun j => xs.getD j 0) s s.heap := ⟨scr, hcb, hof, hkn, hsz, hval⟩
    have K : W p l e room_1 s m #[Value.ref b] below meth c s₁.heap [] 0 0 (lw_Z below #[Value.ref b] s) (entryFrame m ([Value.ref b] : List Value).toArray 4) := by
      rw [hh0]
      exact whole_start l hflags hbd ⟨B.exec, B.bytes, B.returns, hml, hown, hts, hX, hbl, B.notSynchronized, hgv⟩
    obtain ⟨t, a1, o, b1, b2, b3⟩ := K s₁ rfl X₀
    exact ⟨t, o, a1, b1, b2, b3⟩
theorem lw_pre_spec {args : Array Value} {s : State} (h : (Jvm.Cond.and given_1 narrow_1).before args s = true) (hr : rest_1_c.before args s = true) : ∃ (b : Addr) (xs : List Int32), lw_P b xs args s := by
  have hs := flat_of_before _ h
  have hq := flat_of_before _ hr
  have hc : (Cond.count 1).before args s = true := hs _ (by decide +kernel)
  have harr : (Cond.arrayOf (.arg 0) .int).before args s = true := hs _ (by decide +kernel)
  have hle : (Cond.le (.length (.arg 0)) (.int 288)).before args s = true := hs _ (by decide +kernel)
  have hlen : (Cond.isInt (.length (.arg 0))).before args s = true := hq _ (by decide +kernel)
  have hall : (Cond.all (.arg 0) (.isInt (.elem (.arg 0) (.index 0)))).before args s = true := hq _ (by decide +kernel)
  obtain ⟨b, xs, hb, hx⟩ := State.ints_of_pre rfl harr hlen hall
  have hsm : xs.length < 2 ^ 31 := hx.choose_spec.2.2.2
  have hev : (Term.length (.arg 0)).eval args s none [] s = some (.int xs.length.toInt32) := hx.length_eval hb
  have hv := Cond.le_ints hev (show (Term.int 288).eval args s none [] s = some (.int 288) from rfl)
  have hd : xs.length.toInt32 ≤ 288 := by
    simpa [Cond.before, Cond.holds, hv] using hle
  have hN : xs.length ≤ 288 := (Int32.ofNat_le_ofNat hsm (by decide)).mp (show Int32.ofNat xs.length ≤ Int32.ofNat 288 from hd)
  exact ⟨b, xs, Cond.one_arg hc (show args[0]? = some (.ref b) from hb), hx, hN, h⟩
theorem lw_comes (l : Launch) (hflags : l.flags = flags0) : Comes l x (Jvm.Cond.code x code maxLocals ret :: tables_1) room_1 (fun tb e args s => Calls_1 tb e args s ∧ rest_1 tb e args s ∧ Pre_1 tb e args s)
    (fun _ _ args s o t => lw_Q args s o t) := by
  intro p e ha hc hk s m args below hf hfit hheap happ hpre
  obtain ⟨b, xs, hP⟩ := lw_pre_spec hpre.2.2 hpre.2.1
  obtain ⟨k, o, h1, h2, h3, hQ⟩ := lw_walk l hflags b xs p e ha hc hk s m args below hf ((Spec.applies_iff_loose hf).mp happ).1 hP trivial
  exact ⟨k, o, h1, h2, h3, hQ⟩
theorem lw_frame {s t : State} {o : Outcome} {args : Array Value} (h : Framed s o t [] 1200096 5501386) :
    Framed s o t (fieldLocs frame_1_writes args s ++ arrayLocs frame_1_arrays args s ++ staticLocs frame_1_statics s) 1200096 5501386 := h
theorem lw_limb (L : Cond) (hL : ∀ (args : Array Value) (s t : State), L.after args s (.returned (some (.int 1))) t = true) :
    ArmFor flags0 classFile x code maxLocals ret World_1 tables_1 room_1 Calls_1 rest_1 Pre_1
      (fun tb e a s o t => postC L tb e a s o t ∧ Framed s o t (fieldLocs frame_1_writes a s ++ arrayLocs frame_1_arrays a s ++ staticLocs frame_1_statics s) 1200096 5501386) := by
  intro l hflags _ _ p e ha hc hk s m args below hf hfit hheap happ hpre
  obtain ⟨k, o, h1, h2, h3, rfl, hF⟩ := lw_comes l hflags p e ha hc hk s m args below hf hfit hheap happ hpre
  exact ⟨k, _, h1, h2, h3, hL args s _, lw_frame hF⟩
theorem i_vc : Claimed_1_1 ∧ Claimed_1_2 := ⟨lw_limb limb_1_1 (fun args s t => by simp [limb_1_1, Cond.after, Cond.holds, Cond.value]), lw_limb limb_1_2 (fun args s t => Cond.after_iff.mpr (by
  first | (rw [show limb_1_2 = Cond.eq .result (.int 1) from rfl, Cond.eq_ints (x := 1) (y := 1) rfl rfl]; simp; done) | (simp [limb_1_2, Cond.value, Term.eval]; done)))⟩
end
