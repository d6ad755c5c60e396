section
-- ===== PART A: goes FIRST, ahead of the names: the tables' words, and 'selects' of the private methods out of them =====
/-- a private method of a class that the tables say can be made, by its rows of tables_1 -/
def lw_okq (q : MethodName × Nat) : Prop := (q.1.cls ≠ "java/lang/invoke/MethodHandle" ∧ q.1.cls ≠ "java/lang/invoke/VarHandle") ∧ Cond.instantiable q.1.cls q.2 ∈ tables_1 ∧ Cond.privateMethod q.1 ∈ tables_1 ∧ Cond.instanceMethod q.1 ∈ tables_1
set_option maxRecDepth 100000
theorem lw_t1 {w : Cond} (h : w ∈ tables_1_1) : w ∈ tables_1 := List.mem_append_left _ h
theorem lw_t2 {w : Cond} (h : w ∈ tables_1_2) : w ∈ tables_1 := List.mem_append_right _ h
theorem lw_p0 : lw_okq (⟨"java/lang/Throwable", "fillInStackTrace", "(I)Ljava/lang/Throwable;"⟩, 6) := ⟨⟨by decide +kernel, by decide +kernel⟩, lw_t1 (List.mem_of_getElem? (i := 111) rfl), lw_t1 (List.mem_of_getElem? (i := 109) rfl), lw_t1 (List.mem_of_getElem? (i := 110) rfl)⟩
theorem lw_p1 : lw_okq (⟨"SemiHeapDeskModel", "leastPlace", "()I"⟩, 2) := ⟨⟨by decide +kernel, by decide +kernel⟩, lw_t2 (List.mem_of_getElem? (i := 17) rfl), lw_t2 (List.mem_of_getElem? (i := 45) rfl), lw_t2 (List.mem_of_getElem? (i := 46) rfl)⟩
def lw_privs_1 : List (MethodName × Nat) := [(⟨"java/lang/Throwable", "fillInStackTrace", "(I)Ljava/lang/Throwable;"⟩, 6), (⟨"SemiHeapDeskModel", "leastPlace", "()I"⟩, 2)]
theorem lw_r1 : ∀ q ∈ lw_privs_1, lw_okq q := List.forall_mem_cons.mpr ⟨lw_p0, List.forall_mem_cons.mpr ⟨lw_p1, fun _ h => absurd h List.not_mem_nil⟩⟩
def lw_privs : List (MethodName × Nat) := lw_privs_1
def lw_tbl : List Cond := k2_sels lw_privs ++ tables_1
theorem lw_privs_ok : ∀ q ∈ lw_privs, lw_okq q := lw_r1
-- ===== ONE list of words for every method: the tables' words that hold all through a run =====
def lw_all : List Cond := lw_tbl.filter goodWord
/-- a word of the tables by its place: claim/WORDS.tsv -/
theorem lw_w {w : Cond} (i : Nat) (h : lw_tbl[i]? = some w) (g : goodWord w = true) : w ∈ lw_all := List.mem_filter.mpr ⟨List.mem_of_getElem? h, g⟩
theorem lw_all_tbl {w : Cond} (h : w ∈ lw_all) : w ∈ lw_tbl := (List.mem_filter.mp h).1
theorem lw_self : GoodIn lw_all lw_all := fun w h => ⟨h, good_of_word (List.mem_filter.mp h).2⟩
/-- a class's field words, by their places -/
theorem lw_in (ws : List Cond) (ps : List Nat) (hp : ws = ps.filterMap (fun i => lw_tbl[i]?)) (hg : ws.all goodWord = true) : ∀ w ∈ ws, w ∈ lw_all := by
  intro w h
  have h1 := List.all_eq_true.mp hg w h
  rw [hp] at h
  obtain ⟨i, -, hi⟩ := List.mem_filterMap.mp h
  exact lw_w i hi h1
/-- the words of a contract for the method y with code b, L locals, answer r -/
abbrev ws_ (y : MethodName) (b : ByteArray) (L : Nat) (r : Option FieldType) : List Cond := Cond.code y b L r :: lw_all
theorem lw_meth {y : MethodName} {b : ByteArray} {L : Nat} {r : Option FieldType} (h : Cond.code y b L r ∈ lw_all) : GoodIn lw_all (ws_ y b L r) := by
  intro w hw
  rcases List.mem_cons.mp hw with e | e
  · rw [e]
    exact lw_self _ h
  · exact lw_self _ e
theorem lw_app {a c : List Cond} (ha : ∀ w ∈ a, w ∈ lw_all) (hc : GoodIn lw_all c) : GoodIn lw_all (a ++ c) := by
  intro w hw
  rcases List.mem_append.mp hw with e | e
  · exact lw_self w (ha w e)
  · exact hc w e
/-- what a call through an object asks: cwV n hts (lw_V ..) -/
theorem lw_V {own : String} {idx : Nat} {C : String} {y : MethodName} {b : ByteArray} {L : Nat} {r : Option FieldType} (h1 : Cond.methodLink own idx y ∈ lw_all) (h2 : Cond.instanceMethod y ∈ lw_all) (h3 : Cond.selects C y y ∈ lw_all) (h4 : Cond.initialized C ∈ lw_all) (h5 : Cond.code y b L r ∈ lw_all) : GoodIn lw_all (wsV own idx C y (ws_ y b L r)) := by
  refine lw_app ?_ (lw_meth h5)
  intro w hw
  simp only [List.mem_cons, List.not_mem_nil, or_false] at hw
  rcases hw with e | e | e | e
  · rw [e]; exact h1
  · rw [e]; exact h2
  · rw [e]; exact h3
  · rw [e]; exact h4
/-- what a static call asks: va_cwS n hts (lw_S ..) -/
theorem lw_S {own : String} {idx : Nat} {y : MethodName} {b : ByteArray} {L : Nat} {r : Option FieldType} (h1 : Cond.methodLink own idx y ∈ lw_all) (h2 : Cond.static y ∈ lw_all) (h3 : Cond.initialized y.cls ∈ lw_all) (h4 : Cond.code y b L r ∈ lw_all) : GoodIn lw_all (va_wsS own idx y (ws_ y b L r)) := by
  refine lw_app ?_ (lw_meth h4)
  intro w hw
  simp only [List.mem_cons, List.not_mem_nil, or_false] at hw
  rcases hw with e | e | e
  · rw [e]; exact h1
  · rw [e]; exact h2
  · rw [e]; exact h3
/-- the words of a contract for a method WITH HANDLERS (hh: its table) -/
abbrev wsW_ (y : MethodName) (b : ByteArray) (L : Nat) (r : Option FieldType) (hh : List (Nat × Nat × Nat × Nat)) : List Cond := Cond.codeWith y b L r hh :: lw_all
theorem lw_methW {y : MethodName} {b : ByteArray} {L : Nat} {r : Option FieldType} {hh : List (Nat × Nat × Nat × Nat)} (h : Cond.codeWith y b L r hh ∈ lw_all) : GoodIn lw_all (wsW_ y b L r hh) := by
  intro w hw
  rcases List.mem_cons.mp hw with e | e
  · rw [e]
    exact lw_self _ h
  · exact lw_self _ e
/-- any list of words by their places (lw_in), good -/
theorem lw_good {ws : List Cond} (h : ∀ w ∈ ws, w ∈ lw_all) : GoodIn lw_all ws := fun w hw => lw_self w (h w hw)
/-- what a call of a method with handlers asks: vx_cwVW n hts (lw_VW ..), vx_cwSW n hts (lw_SW ..) -/
theorem lw_VW {own : String} {idx : Nat} {C : String} {y : MethodName} {b : ByteArray} {L : Nat} {r : Option FieldType} {hh : List (Nat × Nat × Nat × Nat)} (h1 : Cond.methodLink own idx y ∈ lw_all) (h2 : Cond.instanceMethod y ∈ lw_all) (h3 : Cond.selects C y y ∈ lw_all) (h4 : Cond.initialized C ∈ lw_all) (h5 : Cond.codeWith y b L r hh ∈ lw_all) : GoodIn lw_all (wsV own idx C y (wsW_ y b L r hh)) := by
  refine lw_app ?_ (lw_methW h5)
  intro w hw
  simp only [List.mem_cons, List.not_mem_nil, or_false] at hw
  rcases hw with e | e | e | e
  · rw [e]; exact h1
  · rw [e]; exact h2
  · rw [e]; exact h3
  · rw [e]; exact h4
theorem lw_SW {own : String} {idx : Nat} {y : MethodName} {b : ByteArray} {L : Nat} {r : Option FieldType} {hh : List (Nat × Nat × Nat × Nat)} (h1 : Cond.methodLink own idx y ∈ lw_all) (h2 : Cond.static y ∈ lw_all) (h3 : Cond.initialized y.cls ∈ lw_all) (h4 : Cond.codeWith y b L r hh ∈ lw_all) : GoodIn lw_all (va_wsS own idx y (wsW_ y b L r hh)) := by
  refine lw_app ?_ (lw_methW h4)
  intro w hw
  simp only [List.mem_cons, List.not_mem_nil, or_false] at hw
  rcases hw with e | e | e
  · rw [e]; exact h1
  · rw [e]; exact h2
  · rw [e]; exact h3
/-- a word by its place in its run of the tables -/
theorem lw_at {r : List Cond} (hr : ∀ w ∈ r, w ∈ lw_tbl) {w : Cond} (i : Nat) (h : r[i]? = some w) : w ∈ lw_tbl := hr w (List.mem_of_getElem? h)
theorem lw_g {w : Cond} (h : w ∈ lw_tbl) (g : goodWord w = true) : w ∈ lw_all := List.mem_filter.mpr ⟨h, g⟩
theorem lw_ms : ∀ w ∈ k2_sels lw_privs, w ∈ lw_tbl := fun w h => show w ∈ k2_sels lw_privs ++ tables_1 from List.mem_append_left _ h
theorem lw_m1 : ∀ w ∈ tables_1_1, w ∈ lw_tbl := fun w h => show w ∈ k2_sels lw_privs ++ tables_1 from List.mem_append_right (k2_sels lw_privs) (show w ∈ tables_1 from List.mem_append_left _ h)
theorem lw_m2 : ∀ w ∈ tables_1_2, w ∈ lw_tbl := fun w h => show w ∈ k2_sels lw_privs ++ tables_1 from List.mem_append_right (k2_sels lw_privs) (show w ∈ tables_1 from List.mem_append_right _ h)
theorem qs0 : (Cond.selects "java/lang/Throwable" ⟨"java/lang/Throwable", "fillInStackTrace", "(I)Ljava/lang/Throwable;"⟩ ⟨"java/lang/Throwable", "fillInStackTrace", "(I)Ljava/lang/Throwable;"⟩) ∈ lw_all := lw_g (lw_at lw_ms 0 rfl) rfl
theorem qs1 : (Cond.selects "SemiHeapDeskModel" ⟨"SemiHeapDeskModel", "leastPlace", "()I"⟩ ⟨"SemiHeapDeskModel", "leastPlace", "()I"⟩) ∈ lw_all := lw_g (lw_at lw_ms 1 rfl) rfl
/-! DECODE ROWS BY BYTES: one lemma an opcode; a method's code is cut into short pieces once, and a row reads its own piece alone. -/
set_option maxRecDepth 100000
/-- the code has just these bytes from pc on -/
def DkAt (code : ByteArray) (pc : Nat) (bs : List UInt8) : Prop := ∀ (j : Nat) (b : UInt8), bs[j]? = some b → code.data.toList[pc + j]? = some b
/-- the piece W has the bytes bs from its place j on -/
def dkIn (W : List UInt8) (j : Nat) (bs : List UInt8) : Bool := decide ((W.drop j).take bs.length = bs)
theorem dk_seg {l W T : List UInt8} {o o2 : Nat} (h : l.drop o = W ++ T) (n : Nat) (hn : W.length = n) (ho : o + n = o2) : l.drop o2 = T := by
  subst ho
  rw [← List.drop_drop, h, List.drop_left' hn]
theorem dk_at {code : ByteArray} {W T bs : List UInt8} {o pc : Nat} (h : code.data.toList.drop o = W ++ T) (j : Nat) (hp : o + j = pc) (hw : dkIn W j bs = true) : DkAt code pc bs := by
  subst hp
  intro i b e
  have h1 := of_decide_eq_true hw
  have h2 : i < bs.length := (List.getElem?_eq_some_iff.mp e).1
  have h3 : W[j + i]? = some b := by
    rw [← h1, List.getElem?_take, if_pos h2, List.getElem?_drop] at e
    exact e
  have h4 : j + i < W.length := (List.getElem?_eq_some_iff.mp h3).1
  have h5 : (code.data.toList.drop o)[j + i]? = some b := by
    rw [h, List.getElem?_append_left h4]
    exact h3
  rw [List.getElem?_drop, ← Nat.add_assoc] at h5
  exact h5
theorem dk_u1 {A : ByteArray} {p : Nat} {b : UInt8} (h : A.data.toList[p]? = some b) : (Reader.u1 : Reader DecodeError Nat) A p = .ok (b.toNat, p + 1) := by
  obtain ⟨h1, h2⟩ := List.getElem?_eq_some_iff.mp h
  have h3 : p < A.size := by simpa using h1
  have h4 : A[p]'h3 = b := h2
  have e : (Reader.u1 : Reader DecodeError Nat) A p = (if h : p < A.size then .ok (A[p].toNat, p + 1) else .error (HasTruncated.truncated p)) := by
    show (do if h : p < A.size then do set (p + 1); Pure.pure A[p].toNat else MonadExcept.throw (HasTruncated.truncated p) : Reader DecodeError Nat) A p = _
    by_cases hi : p < A.size
    · rw [dif_pos hi, dif_pos hi]; rfl
    · rw [dif_neg hi, dif_neg hi]; rfl
  rw [e, dif_pos h3, h4]
theorem dk_bind {α β : Type} {r : Reader DecodeError α} {f : α → Reader DecodeError β} {A : ByteArray} {p s : Nat} {a : α} (h : r A p = .ok (a, s)) : (r >>= f) A p = f a A s := by
  show (do let (a, s) ← r A p; f a A s : Except DecodeError (β × Nat)) = _
  rw [h]
  rfl
theorem dk_map {α β : Type} {r : Reader DecodeError α} {g : α → β} {A : ByteArray} {p s : Nat} {a : α} (h : r A p = .ok (a, s)) : (g <$> r) A p = .ok (g a, s) := by
  show (do let (a, s) ← r A p; .ok (g a, s) : Except DecodeError (β × Nat)) = _
  rw [h]
  rfl
theorem dk_u2 {A : ByteArray} {p : Nat} {a b : UInt8} (h : A.data.toList[p]? = some a) (h2 : A.data.toList[p + 1]? = some b) : (Reader.u2 : Reader DecodeError Nat) A p = .ok (a.toNat * 256 + b.toNat, p + 2) := by
  show (Reader.u1 >>= fun hi => Reader.u1 >>= fun lo => Pure.pure (hi * 256 + lo) : Reader DecodeError Nat) A p = _
  rw [dk_bind (dk_u1 h), dk_bind (dk_u1 h2)]
  rfl
theorem dk_of {code : ByteArray} {pc n : Nat} {i : Instr} (h : Decoder.instr pc code pc = .ok (i, pc + n)) : decode code pc = .ok (i, n) := by
  have e : decode code pc = (match Decoder.instr pc code pc with | .error x => .error x | .ok (j, s) => .ok (j, s - pc)) := by
    show (do let (j, s) ← Decoder.instr pc code pc; Pure.pure (j, s - pc) : Except DecodeError (Instr × Nat)) = _
    cases Decoder.instr pc code pc <;> rfl
  rw [e, h]
  show Except.ok (i, pc + n - pc) = _
  rw [Nat.add_sub_cancel_left]
theorem dk_1 {code : ByteArray} {pc : Nat} (h : DkAt code pc [1]) : decode code pc = .ok (.aconst_null, 1) := dk_of ((dk_bind (dk_u1 (h 0 _ rfl))).trans rfl)
theorem dk_2 {code : ByteArray} {pc : Nat} (h : DkAt code pc [2]) : decode code pc = .ok (.iconst (-1), 1) := dk_of ((dk_bind (dk_u1 (h 0 _ rfl))).trans rfl)
theorem dk_3 {code : ByteArray} {pc : Nat} (h : DkAt code pc [3]) : decode code pc = .ok (.iconst 0, 1) := dk_of ((dk_bind (dk_u1 (h 0 _ rfl))).trans rfl)
theorem dk_4 {code : ByteArray} {pc : Nat} (h : DkAt code pc [4]) : decode code pc = .ok (.iconst 1, 1) := dk_of ((dk_bind (dk_u1 (h 0 _ rfl))).trans rfl)
theorem dk_5 {code : ByteArray} {pc : Nat} (h : DkAt code pc [5]) : decode code pc = .ok (.iconst 2, 1) := dk_of ((dk_bind (dk_u1 (h 0 _ rfl))).trans rfl)
theorem dk_6 {code : ByteArray} {pc : Nat} (h : DkAt code pc [6]) : decode code pc = .ok (.iconst 3, 1) := dk_of ((dk_bind (dk_u1 (h 0 _ rfl))).trans rfl)
theorem dk_16 {code : ByteArray} {pc : Nat} (a : UInt8) (h : DkAt code pc [16, a]) : decode code pc = .ok (.bipush (Reader.signed 8 a.toNat), 2) := dk_of ((dk_bind (dk_u1 (h 0 _ rfl))).trans ((dk_bind (dk_map (dk_u1 (h 1 _ rfl)))).trans rfl))
theorem dk_18 {code : ByteArray} {pc : Nat} (a : UInt8) (h : DkAt code pc [18, a]) : decode code pc = .ok (.ldc a.toNat, 2) := dk_of ((dk_bind (dk_u1 (h 0 _ rfl))).trans ((dk_bind (dk_u1 (h 1 _ rfl))).trans rfl))
theorem dk_20 {code : ByteArray} {pc : Nat} (a b : UInt8) (h : DkAt code pc [20, a, b]) : decode code pc = .ok (.ldc2_w (a.toNat * 256 + b.toNat), 3) := dk_of ((dk_bind (dk_u1 (h 0 _ rfl))).trans ((dk_bind (dk_u2 (h 1 _ rfl) (h 2 _ rfl))).trans rfl))
theorem dk_21 {code : ByteArray} {pc : Nat} (a : UInt8) (h : DkAt code pc [21, a]) : decode code pc = .ok (.iload a.toNat, 2) := dk_of ((dk_bind (dk_u1 (h 0 _ rfl))).trans ((dk_bind (dk_u1 (h 1 _ rfl))).trans rfl))
theorem dk_25 {code : ByteArray} {pc : Nat} (a : UInt8) (h : DkAt code pc [25, a]) : decode code pc = .ok (.aload a.toNat, 2) := dk_of ((dk_bind (dk_u1 (h 0 _ rfl))).trans ((dk_bind (dk_u1 (h 1 _ rfl))).trans rfl))
theorem dk_26 {code : ByteArray} {pc : Nat} (h : DkAt code pc [26]) : decode code pc = .ok (.iload_n 0, 1) := dk_of ((dk_bind (dk_u1 (h 0 _ rfl))).trans rfl)
theorem dk_27 {code : ByteArray} {pc : Nat} (h : DkAt code pc [27]) : decode code pc = .ok (.iload_n 1, 1) := dk_of ((dk_bind (dk_u1 (h 0 _ rfl))).trans rfl)
theorem dk_28 {code : ByteArray} {pc : Nat} (h : DkAt code pc [28]) : decode code pc = .ok (.iload_n 2, 1) := dk_of ((dk_bind (dk_u1 (h 0 _ rfl))).trans rfl)
theorem dk_29 {code : ByteArray} {pc : Nat} (h : DkAt code pc [29]) : decode code pc = .ok (.iload_n 3, 1) := dk_of ((dk_bind (dk_u1 (h 0 _ rfl))).trans rfl)
theorem dk_30 {code : ByteArray} {pc : Nat} (h : DkAt code pc [30]) : decode code pc = .ok (.lload_n 0, 1) := dk_of ((dk_bind (dk_u1 (h 0 _ rfl))).trans rfl)
theorem dk_32 {code : ByteArray} {pc : Nat} (h : DkAt code pc [32]) : decode code pc = .ok (.lload_n 2, 1) := dk_of ((dk_bind (dk_u1 (h 0 _ rfl))).trans rfl)
theorem dk_42 {code : ByteArray} {pc : Nat} (h : DkAt code pc [42]) : decode code pc = .ok (.aload_n 0, 1) := dk_of ((dk_bind (dk_u1 (h 0 _ rfl))).trans rfl)
theorem dk_43 {code : ByteArray} {pc : Nat} (h : DkAt code pc [43]) : decode code pc = .ok (.aload_n 1, 1) := dk_of ((dk_bind (dk_u1 (h 0 _ rfl))).trans rfl)
theorem dk_44 {code : ByteArray} {pc : Nat} (h : DkAt code pc [44]) : decode code pc = .ok (.aload_n 2, 1) := dk_of ((dk_bind (dk_u1 (h 0 _ rfl))).trans rfl)
theorem dk_45 {code : ByteArray} {pc : Nat} (h : DkAt code pc [45]) : decode code pc = .ok (.aload_n 3, 1) := dk_of ((dk_bind (dk_u1 (h 0 _ rfl))).trans rfl)
theorem dk_46 {code : ByteArray} {pc : Nat} (h : DkAt code pc [46]) : decode code pc = .ok (.iaload, 1) := dk_of ((dk_bind (dk_u1 (h 0 _ rfl))).trans rfl)
theorem dk_51 {code : ByteArray} {pc : Nat} (h : DkAt code pc [51]) : decode code pc = .ok (.baload, 1) := dk_of ((dk_bind (dk_u1 (h 0 _ rfl))).trans rfl)
theorem dk_54 {code : ByteArray} {pc : Nat} (a : UInt8) (h : DkAt code pc [54, a]) : decode code pc = .ok (.istore a.toNat, 2) := dk_of ((dk_bind (dk_u1 (h 0 _ rfl))).trans ((dk_bind (dk_u1 (h 1 _ rfl))).trans rfl))
theorem dk_58 {code : ByteArray} {pc : Nat} (a : UInt8) (h : DkAt code pc [58, a]) : decode code pc = .ok (.astore a.toNat, 2) := dk_of ((dk_bind (dk_u1 (h 0 _ rfl))).trans ((dk_bind (dk_u1 (h 1 _ rfl))).trans rfl))
theorem dk_60 {code : ByteArray} {pc : Nat} (h : DkAt code pc [60]) : decode code pc = .ok (.istore_n 1, 1) := dk_of ((dk_bind (dk_u1 (h 0 _ rfl))).trans rfl)
theorem dk_61 {code : ByteArray} {pc : Nat} (h : DkAt code pc [61]) : decode code pc = .ok (.istore_n 2, 1) := dk_of ((dk_bind (dk_u1 (h 0 _ rfl))).trans rfl)
theorem dk_62 {code : ByteArray} {pc : Nat} (h : DkAt code pc [62]) : decode code pc = .ok (.istore_n 3, 1) := dk_of ((dk_bind (dk_u1 (h 0 _ rfl))).trans rfl)
theorem dk_76 {code : ByteArray} {pc : Nat} (h : DkAt code pc [76]) : decode code pc = .ok (.astore_n 1, 1) := dk_of ((dk_bind (dk_u1 (h 0 _ rfl))).trans rfl)
theorem dk_77 {code : ByteArray} {pc : Nat} (h : DkAt code pc [77]) : decode code pc = .ok (.astore_n 2, 1) := dk_of ((dk_bind (dk_u1 (h 0 _ rfl))).trans rfl)
theorem dk_79 {code : ByteArray} {pc : Nat} (h : DkAt code pc [79]) : decode code pc = .ok (.iastore, 1) := dk_of ((dk_bind (dk_u1 (h 0 _ rfl))).trans rfl)
theorem dk_84 {code : ByteArray} {pc : Nat} (h : DkAt code pc [84]) : decode code pc = .ok (.bastore, 1) := dk_of ((dk_bind (dk_u1 (h 0 _ rfl))).trans rfl)
theorem dk_87 {code : ByteArray} {pc : Nat} (h : DkAt code pc [87]) : decode code pc = .ok (.pop, 1) := dk_of ((dk_bind (dk_u1 (h 0 _ rfl))).trans rfl)
theorem dk_89 {code : ByteArray} {pc : Nat} (h : DkAt code pc [89]) : decode code pc = .ok (.dup, 1) := dk_of ((dk_bind (dk_u1 (h 0 _ rfl))).trans rfl)
theorem dk_90 {code : ByteArray} {pc : Nat} (h : DkAt code pc [90]) : decode code pc = .ok (.dup_x1, 1) := dk_of ((dk_bind (dk_u1 (h 0 _ rfl))).trans rfl)
theorem dk_96 {code : ByteArray} {pc : Nat} (h : DkAt code pc [96]) : decode code pc = .ok (.iadd, 1) := dk_of ((dk_bind (dk_u1 (h 0 _ rfl))).trans rfl)
theorem dk_97 {code : ByteArray} {pc : Nat} (h : DkAt code pc [97]) : decode code pc = .ok (.ladd, 1) := dk_of ((dk_bind (dk_u1 (h 0 _ rfl))).trans rfl)
theorem dk_100 {code : ByteArray} {pc : Nat} (h : DkAt code pc [100]) : decode code pc = .ok (.isub, 1) := dk_of ((dk_bind (dk_u1 (h 0 _ rfl))).trans rfl)
theorem dk_104 {code : ByteArray} {pc : Nat} (h : DkAt code pc [104]) : decode code pc = .ok (.imul, 1) := dk_of ((dk_bind (dk_u1 (h 0 _ rfl))).trans rfl)
theorem dk_120 {code : ByteArray} {pc : Nat} (h : DkAt code pc [120]) : decode code pc = .ok (.ishl, 1) := dk_of ((dk_bind (dk_u1 (h 0 _ rfl))).trans rfl)
theorem dk_122 {code : ByteArray} {pc : Nat} (h : DkAt code pc [122]) : decode code pc = .ok (.ishr, 1) := dk_of ((dk_bind (dk_u1 (h 0 _ rfl))).trans rfl)
theorem dk_124 {code : ByteArray} {pc : Nat} (h : DkAt code pc [124]) : decode code pc = .ok (.iushr, 1) := dk_of ((dk_bind (dk_u1 (h 0 _ rfl))).trans rfl)
theorem dk_126 {code : ByteArray} {pc : Nat} (h : DkAt code pc [126]) : decode code pc = .ok (.iand, 1) := dk_of ((dk_bind (dk_u1 (h 0 _ rfl))).trans rfl)
theorem dk_128 {code : ByteArray} {pc : Nat} (h : DkAt code pc [128]) : decode code pc = .ok (.ior, 1) := dk_of ((dk_bind (dk_u1 (h 0 _ rfl))).trans rfl)
theorem dk_132 {code : ByteArray} {pc : Nat} (a b : UInt8) (h : DkAt code pc [132, a, b]) : decode code pc = .ok (.iinc a.toNat (Reader.signed 8 b.toNat), 3) := dk_of ((dk_bind (dk_u1 (h 0 _ rfl))).trans ((dk_bind (dk_u1 (h 1 _ rfl))).trans ((dk_bind (dk_map (dk_u1 (h 2 _ rfl)))).trans rfl)))
theorem dk_133 {code : ByteArray} {pc : Nat} (h : DkAt code pc [133]) : decode code pc = .ok (.i2l, 1) := dk_of ((dk_bind (dk_u1 (h 0 _ rfl))).trans rfl)
theorem dk_136 {code : ByteArray} {pc : Nat} (h : DkAt code pc [136]) : decode code pc = .ok (.l2i, 1) := dk_of ((dk_bind (dk_u1 (h 0 _ rfl))).trans rfl)
theorem dk_148 {code : ByteArray} {pc : Nat} (h : DkAt code pc [148]) : decode code pc = .ok (.lcmp, 1) := dk_of ((dk_bind (dk_u1 (h 0 _ rfl))).trans rfl)
theorem dk_153 {code : ByteArray} {pc : Nat} (a b : UInt8) (h : DkAt code pc [153, a, b]) : decode code pc = .ok (.ifCond .eq (Reader.signed 16 (a.toNat * 256 + b.toNat)), 3) := dk_of ((dk_bind (dk_u1 (h 0 _ rfl))).trans ((dk_bind (dk_map (dk_u2 (h 1 _ rfl) (h 2 _ rfl)))).trans rfl))
theorem dk_154 {code : ByteArray} {pc : Nat} (a b : UInt8) (h : DkAt code pc [154, a, b]) : decode code pc = .ok (.ifCond .ne (Reader.signed 16 (a.toNat * 256 + b.toNat)), 3) := dk_of ((dk_bind (dk_u1 (h 0 _ rfl))).trans ((dk_bind (dk_map (dk_u2 (h 1 _ rfl) (h 2 _ rfl)))).trans rfl))
theorem dk_155 {code : ByteArray} {pc : Nat} (a b : UInt8) (h : DkAt code pc [155, a, b]) : decode code pc = .ok (.ifCond .lt (Reader.signed 16 (a.toNat * 256 + b.toNat)), 3) := dk_of ((dk_bind (dk_u1 (h 0 _ rfl))).trans ((dk_bind (dk_map (dk_u2 (h 1 _ rfl) (h 2 _ rfl)))).trans rfl))
theorem dk_156 {code : ByteArray} {pc : Nat} (a b : UInt8) (h : DkAt code pc [156, a, b]) : decode code pc = .ok (.ifCond .ge (Reader.signed 16 (a.toNat * 256 + b.toNat)), 3) := dk_of ((dk_bind (dk_u1 (h 0 _ rfl))).trans ((dk_bind (dk_map (dk_u2 (h 1 _ rfl) (h 2 _ rfl)))).trans rfl))
theorem dk_157 {code : ByteArray} {pc : Nat} (a b : UInt8) (h : DkAt code pc [157, a, b]) : decode code pc = .ok (.ifCond .gt (Reader.signed 16 (a.toNat * 256 + b.toNat)), 3) := dk_of ((dk_bind (dk_u1 (h 0 _ rfl))).trans ((dk_bind (dk_map (dk_u2 (h 1 _ rfl) (h 2 _ rfl)))).trans rfl))
theorem dk_158 {code : ByteArray} {pc : Nat} (a b : UInt8) (h : DkAt code pc [158, a, b]) : decode code pc = .ok (.ifCond .le (Reader.signed 16 (a.toNat * 256 + b.toNat)), 3) := dk_of ((dk_bind (dk_u1 (h 0 _ rfl))).trans ((dk_bind (dk_map (dk_u2 (h 1 _ rfl) (h 2 _ rfl)))).trans rfl))
theorem dk_159 {code : ByteArray} {pc : Nat} (a b : UInt8) (h : DkAt code pc [159, a, b]) : decode code pc = .ok (.if_icmp .eq (Reader.signed 16 (a.toNat * 256 + b.toNat)), 3) := dk_of ((dk_bind (dk_u1 (h 0 _ rfl))).trans ((dk_bind (dk_map (dk_u2 (h 1 _ rfl) (h 2 _ rfl)))).trans rfl))
theorem dk_160 {code : ByteArray} {pc : Nat} (a b : UInt8) (h : DkAt code pc [160, a, b]) : decode code pc = .ok (.if_icmp .ne (Reader.signed 16 (a.toNat * 256 + b.toNat)), 3) := dk_of ((dk_bind (dk_u1 (h 0 _ rfl))).trans ((dk_bind (dk_map (dk_u2 (h 1 _ rfl) (h 2 _ rfl)))).trans rfl))
theorem dk_161 {code : ByteArray} {pc : Nat} (a b : UInt8) (h : DkAt code pc [161, a, b]) : decode code pc = .ok (.if_icmp .lt (Reader.signed 16 (a.toNat * 256 + b.toNat)), 3) := dk_of ((dk_bind (dk_u1 (h 0 _ rfl))).trans ((dk_bind (dk_map (dk_u2 (h 1 _ rfl) (h 2 _ rfl)))).trans rfl))
theorem dk_162 {code : ByteArray} {pc : Nat} (a b : UInt8) (h : DkAt code pc [162, a, b]) : decode code pc = .ok (.if_icmp .ge (Reader.signed 16 (a.toNat * 256 + b.toNat)), 3) := dk_of ((dk_bind (dk_u1 (h 0 _ rfl))).trans ((dk_bind (dk_map (dk_u2 (h 1 _ rfl) (h 2 _ rfl)))).trans rfl))
theorem dk_163 {code : ByteArray} {pc : Nat} (a b : UInt8) (h : DkAt code pc [163, a, b]) : decode code pc = .ok (.if_icmp .gt (Reader.signed 16 (a.toNat * 256 + b.toNat)), 3) := dk_of ((dk_bind (dk_u1 (h 0 _ rfl))).trans ((dk_bind (dk_map (dk_u2 (h 1 _ rfl) (h 2 _ rfl)))).trans rfl))
theorem dk_164 {code : ByteArray} {pc : Nat} (a b : UInt8) (h : DkAt code pc [164, a, b]) : decode code pc = .ok (.if_icmp .le (Reader.signed 16 (a.toNat * 256 + b.toNat)), 3) := dk_of ((dk_bind (dk_u1 (h 0 _ rfl))).trans ((dk_bind (dk_map (dk_u2 (h 1 _ rfl) (h 2 _ rfl)))).trans rfl))
theorem dk_167 {code : ByteArray} {pc : Nat} (a b : UInt8) (h : DkAt code pc [167, a, b]) : decode code pc = .ok (.goto (Reader.signed 16 (a.toNat * 256 + b.toNat)), 3) := dk_of ((dk_bind (dk_u1 (h 0 _ rfl))).trans ((dk_bind (dk_map (dk_u2 (h 1 _ rfl) (h 2 _ rfl)))).trans rfl))
theorem dk_172 {code : ByteArray} {pc : Nat} (h : DkAt code pc [172]) : decode code pc = .ok (.ireturn, 1) := dk_of ((dk_bind (dk_u1 (h 0 _ rfl))).trans rfl)
theorem dk_173 {code : ByteArray} {pc : Nat} (h : DkAt code pc [173]) : decode code pc = .ok (.lreturn, 1) := dk_of ((dk_bind (dk_u1 (h 0 _ rfl))).trans rfl)
theorem dk_176 {code : ByteArray} {pc : Nat} (h : DkAt code pc [176]) : decode code pc = .ok (.areturn, 1) := dk_of ((dk_bind (dk_u1 (h 0 _ rfl))).trans rfl)
theorem dk_177 {code : ByteArray} {pc : Nat} (h : DkAt code pc [177]) : decode code pc = .ok (.return_, 1) := dk_of ((dk_bind (dk_u1 (h 0 _ rfl))).trans rfl)
theorem dk_178 {code : ByteArray} {pc : Nat} (a b : UInt8) (h : DkAt code pc [178, a, b]) : decode code pc = .ok (.getstatic (a.toNat * 256 + b.toNat), 3) := dk_of ((dk_bind (dk_u1 (h 0 _ rfl))).trans ((dk_bind (dk_u2 (h 1 _ rfl) (h 2 _ rfl))).trans rfl))
theorem dk_180 {code : ByteArray} {pc : Nat} (a b : UInt8) (h : DkAt code pc [180, a, b]) : decode code pc = .ok (.getfield (a.toNat * 256 + b.toNat), 3) := dk_of ((dk_bind (dk_u1 (h 0 _ rfl))).trans ((dk_bind (dk_u2 (h 1 _ rfl) (h 2 _ rfl))).trans rfl))
theorem dk_181 {code : ByteArray} {pc : Nat} (a b : UInt8) (h : DkAt code pc [181, a, b]) : decode code pc = .ok (.putfield (a.toNat * 256 + b.toNat), 3) := dk_of ((dk_bind (dk_u1 (h 0 _ rfl))).trans ((dk_bind (dk_u2 (h 1 _ rfl) (h 2 _ rfl))).trans rfl))
theorem dk_182 {code : ByteArray} {pc : Nat} (a b : UInt8) (h : DkAt code pc [182, a, b]) : decode code pc = .ok (.invokevirtual (a.toNat * 256 + b.toNat), 3) := dk_of ((dk_bind (dk_u1 (h 0 _ rfl))).trans ((dk_bind (dk_u2 (h 1 _ rfl) (h 2 _ rfl))).trans rfl))
theorem dk_183 {code : ByteArray} {pc : Nat} (a b : UInt8) (h : DkAt code pc [183, a, b]) : decode code pc = .ok (.invokespecial (a.toNat * 256 + b.toNat), 3) := dk_of ((dk_bind (dk_u1 (h 0 _ rfl))).trans ((dk_bind (dk_u2 (h 1 _ rfl) (h 2 _ rfl))).trans rfl))
theorem dk_184 {code : ByteArray} {pc : Nat} (a b : UInt8) (h : DkAt code pc [184, a, b]) : decode code pc = .ok (.invokestatic (a.toNat * 256 + b.toNat), 3) := dk_of ((dk_bind (dk_u1 (h 0 _ rfl))).trans ((dk_bind (dk_u2 (h 1 _ rfl) (h 2 _ rfl))).trans rfl))
theorem dk_187 {code : ByteArray} {pc : Nat} (a b : UInt8) (h : DkAt code pc [187, a, b]) : decode code pc = .ok (.new (a.toNat * 256 + b.toNat), 3) := dk_of ((dk_bind (dk_u1 (h 0 _ rfl))).trans ((dk_bind (dk_u2 (h 1 _ rfl) (h 2 _ rfl))).trans rfl))
theorem dk_188_4 {code : ByteArray} {pc : Nat} (h : DkAt code pc [188, 4]) : decode code pc = .ok (.newarray .boolean, 2) := dk_of ((dk_bind (dk_u1 (h 0 _ rfl))).trans ((dk_bind (dk_u1 (h 1 _ rfl))).trans rfl))
theorem dk_188_10 {code : ByteArray} {pc : Nat} (h : DkAt code pc [188, 10]) : decode code pc = .ok (.newarray .int, 2) := dk_of ((dk_bind (dk_u1 (h 0 _ rfl))).trans ((dk_bind (dk_u1 (h 1 _ rfl))).trans rfl))
theorem dk_190 {code : ByteArray} {pc : Nat} (h : DkAt code pc [190]) : decode code pc = .ok (.arraylength, 1) := dk_of ((dk_bind (dk_u1 (h 0 _ rfl))).trans rfl)
theorem dk_191 {code : ByteArray} {pc : Nat} (h : DkAt code pc [191]) : decode code pc = .ok (.athrow, 1) := dk_of ((dk_bind (dk_u1 (h 0 _ rfl))).trans rfl)
theorem dk_199 {code : ByteArray} {pc : Nat} (a b : UInt8) (h : DkAt code pc [199, a, b]) : decode code pc = .ok (.ifnonnull (Reader.signed 16 (a.toNat * 256 + b.toNat)), 3) := dk_of ((dk_bind (dk_u1 (h 0 _ rfl))).trans ((dk_bind (dk_map (dk_u2 (h 1 _ rfl) (h 2 _ rfl)))).trans rfl))
theorem q47 : (Jvm.Cond.arrayClass Jvm.ClassFile.FieldType.int) ∈ lw_all := lw_g (lw_at lw_m1 45 rfl) rfl
set_option maxRecDepth 100000
theorem q48 : (Jvm.Cond.arrayClass Jvm.ClassFile.FieldType.boolean) ∈ lw_all := lw_g (lw_at lw_m1 46 rfl) rfl
theorem q141 : (Jvm.Cond.arrayClass Jvm.ClassFile.FieldType.byte) ∈ lw_all := lw_g (lw_at lw_m1 139 rfl) rfl
theorem q2 : (Jvm.Cond.initialized "SemiHeapDeskLaw") ∈ lw_all := lw_g (lw_at lw_m1 0 rfl) rfl
set_option maxRecDepth 100000
theorem q15 : (Jvm.Cond.classLink "SemiHeapDeskLaw" (7 : Nat) "SemiHeapDesk") ∈ lw_all := lw_g (lw_at lw_m1 13 rfl) rfl
theorem q17 : (Jvm.Cond.methodLink "SemiHeapDeskLaw" (9 : Nat) ({ cls := "SemiHeapDesk", name := "<init>", desc := "()V" } : Jvm.MethodName)) ∈ lw_all := lw_g (lw_at lw_m1 15 rfl) rfl
theorem q59 : (Jvm.Cond.methodLink "SemiHeapDeskLaw" (13 : Nat) ({ cls := "SemiHeapDesk", name := "change", desc := "(II)Z" } : Jvm.MethodName)) ∈ lw_all := lw_g (lw_at lw_m1 57 rfl) rfl
theorem q63 : (Jvm.Cond.methodLink "SemiHeapDeskLaw" (18 : Nat) ({ cls := "SemiHeapDesk", name := "enter", desc := "(I)Z" } : Jvm.MethodName)) ∈ lw_all := lw_g (lw_at lw_m1 61 rfl) rfl
theorem q161 : (Jvm.Cond.methodLink "SemiHeapDeskLaw" (23 : Nat) ({ cls := "SemiHeapDesk", name := "least", desc := "()I" } : Jvm.MethodName)) ∈ lw_all := lw_g (lw_at lw_m1 159 rfl) rfl
theorem q194 : (Jvm.Cond.methodLink "SemiHeapDeskLaw" (28 : Nat) ({ cls := "SemiHeapDesk", name := "take", desc := "()I" } : Jvm.MethodName)) ∈ lw_all := lw_g (lw_at lw_m1 192 rfl) rfl
theorem q205 : (Jvm.Cond.methodLink "SemiHeapDeskLaw" (32 : Nat) ({ cls := "SemiHeapDesk", name := "headChanged", desc := "(I)Z" } : Jvm.MethodName)) ∈ lw_all := lw_g (lw_at lw_m1 203 rfl) rfl
theorem q213 : (Jvm.Cond.methodLink "SemiHeapDeskLaw" (36 : Nat) ({ cls := "SemiHeapDesk", name := "all", desc := "(I)V" } : Jvm.MethodName)) ∈ lw_all := lw_g (lw_at lw_m1 211 rfl) rfl
theorem q225 : (Jvm.Cond.methodLink "SemiHeapDeskLaw" (41 : Nat) ({ cls := "SemiHeapDesk", name := "front", desc := "()I" } : Jvm.MethodName)) ∈ lw_all := lw_g (lw_at lw_m1 223 rfl) rfl
theorem q242 : (Jvm.Cond.methodLink "SemiHeapDeskLaw" (45 : Nat) ({ cls := "SemiHeapDesk", name := "waiting", desc := "()I" } : Jvm.MethodName)) ∈ lw_all := lw_g (lw_at lw_m2 0 rfl) rfl
theorem q246 : (Jvm.Cond.methodLink "SemiHeapDeskLaw" (49 : Nat) ({ cls := "SemiHeapDesk", name := "value", desc := "(I)I" } : Jvm.MethodName)) ∈ lw_all := lw_g (lw_at lw_m2 4 rfl) rfl
theorem q250 : (Jvm.Cond.methodLink "SemiHeapDeskLaw" (54 : Nat) ({ cls := "SemiHeapDesk", name := "drain", desc := "()V" } : Jvm.MethodName)) ∈ lw_all := lw_g (lw_at lw_m2 8 rfl) rfl
theorem q258 : (Jvm.Cond.classLink "SemiHeapDeskLaw" (10 : Nat) "SemiHeapDeskModel") ∈ lw_all := lw_g (lw_at lw_m2 16 rfl) rfl
theorem q260 : (Jvm.Cond.methodLink "SemiHeapDeskLaw" (12 : Nat) ({ cls := "SemiHeapDeskModel", name := "<init>", desc := "()V" } : Jvm.MethodName)) ∈ lw_all := lw_g (lw_at lw_m2 18 rfl) rfl
theorem q271 : (Jvm.Cond.methodLink "SemiHeapDeskLaw" (17 : Nat) ({ cls := "SemiHeapDeskModel", name := "change", desc := "(II)Z" } : Jvm.MethodName)) ∈ lw_all := lw_g (lw_at lw_m2 29 rfl) rfl
theorem q278 : (Jvm.Cond.methodLink "SemiHeapDeskLaw" (22 : Nat) ({ cls := "SemiHeapDeskModel", name := "enter", desc := "(I)Z" } : Jvm.MethodName)) ∈ lw_all := lw_g (lw_at lw_m2 36 rfl) rfl
theorem q282 : (Jvm.Cond.methodLink "SemiHeapDeskLaw" (27 : Nat) ({ cls := "SemiHeapDeskModel", name := "least", desc := "()I" } : Jvm.MethodName)) ∈ lw_all := lw_g (lw_at lw_m2 40 rfl) rfl
theorem q290 : (Jvm.Cond.methodLink "SemiHeapDeskLaw" (31 : Nat) ({ cls := "SemiHeapDeskModel", name := "take", desc := "()I" } : Jvm.MethodName)) ∈ lw_all := lw_g (lw_at lw_m2 48 rfl) rfl
theorem q294 : (Jvm.Cond.methodLink "SemiHeapDeskLaw" (35 : Nat) ({ cls := "SemiHeapDeskModel", name := "headChanged", desc := "(I)Z" } : Jvm.MethodName)) ∈ lw_all := lw_g (lw_at lw_m2 52 rfl) rfl
theorem q298 : (Jvm.Cond.methodLink "SemiHeapDeskLaw" (40 : Nat) ({ cls := "SemiHeapDeskModel", name := "all", desc := "(I)V" } : Jvm.MethodName)) ∈ lw_all := lw_g (lw_at lw_m2 56 rfl) rfl
theorem q302 : (Jvm.Cond.methodLink "SemiHeapDeskLaw" (44 : Nat) ({ cls := "SemiHeapDeskModel", name := "front", desc := "()I" } : Jvm.MethodName)) ∈ lw_all := lw_g (lw_at lw_m2 60 rfl) rfl
theorem q306 : (Jvm.Cond.methodLink "SemiHeapDeskLaw" (48 : Nat) ({ cls := "SemiHeapDeskModel", name := "waiting", desc := "()I" } : Jvm.MethodName)) ∈ lw_all := lw_g (lw_at lw_m2 64 rfl) rfl
theorem q310 : (Jvm.Cond.methodLink "SemiHeapDeskLaw" (53 : Nat) ({ cls := "SemiHeapDeskModel", name := "value", desc := "(I)I" } : Jvm.MethodName)) ∈ lw_all := lw_g (lw_at lw_m2 68 rfl) rfl
theorem q314 : (Jvm.Cond.methodLink "SemiHeapDeskLaw" (57 : Nat) ({ cls := "SemiHeapDeskModel", name := "drain", desc := "()V" } : Jvm.MethodName)) ∈ lw_all := lw_g (lw_at lw_m2 72 rfl) rfl
/-! java/lang/Object -/
set_option maxRecDepth 100000
def RJ6 : String := "java/lang/Object"
abbrev cJ6_init : ByteArray := object_method_1_code
def yJ6_init : MethodName := ⟨RJ6, "<init>", "()V"⟩
theorem dJ6_init_0 : decode cJ6_init 0 = .ok (.return_, 1) := by decide +kernel
theorem q21 : (Jvm.Cond.instanceMethod ({ cls := "java/lang/Object", name := "<init>", desc := "()V" } : Jvm.MethodName)) ∈ lw_all := lw_g (lw_at lw_m1 19 rfl) rfl
theorem q22 : (Jvm.Cond.code ({ cls := "java/lang/Object", name := "<init>", desc := "()V" } : Jvm.MethodName) object_method_1_code (1 : Nat) (Option.none : Option Jvm.ClassFile.FieldType)) ∈ lw_all := lw_g (lw_at lw_m1 20 rfl) rfl
/-! java/lang/Math -/
set_option maxRecDepth 100000
def RJ4 : String := "java/lang/Math"
abbrev cJ4_min : ByteArray := prog_12_method_70_code
def yJ4_min : MethodName := ⟨RJ4, "min", "(JJ)J"⟩
def dkwJ4_min_0 : List UInt8 := [30, 32, 148, 157, 0, 7, 30, 167, 0, 4, 32, 173]
abbrev dktJ4_min_0 : List UInt8 := dkwJ4_min_0 ++ []
theorem dksJ4_min_0 : cJ4_min.data.toList.drop 0 = dktJ4_min_0 := by decide +kernel
theorem dJ4_min_0 : decode cJ4_min 0 = .ok (.lload_n 0, 1) := dk_30 (dk_at dksJ4_min_0 0 rfl rfl)
theorem dJ4_min_1 : decode cJ4_min 1 = .ok (.lload_n 2, 1) := dk_32 (dk_at dksJ4_min_0 1 rfl rfl)
theorem dJ4_min_2 : decode cJ4_min 2 = .ok (.lcmp, 1) := dk_148 (dk_at dksJ4_min_0 2 rfl rfl)
theorem dJ4_min_3 : decode cJ4_min 3 = .ok (.ifCond .gt 7, 3) := dk_157 0 7 (dk_at dksJ4_min_0 3 rfl rfl)
theorem dJ4_min_6 : decode cJ4_min 6 = .ok (.lload_n 0, 1) := dk_30 (dk_at dksJ4_min_0 6 rfl rfl)
theorem dJ4_min_7 : decode cJ4_min 7 = .ok (.goto 4, 3) := dk_167 0 4 (dk_at dksJ4_min_0 7 rfl rfl)
theorem dJ4_min_10 : decode cJ4_min 10 = .ok (.lload_n 2, 1) := dk_32 (dk_at dksJ4_min_0 10 rfl rfl)
theorem dJ4_min_11 : decode cJ4_min 11 = .ok (.lreturn, 1) := dk_173 (dk_at dksJ4_min_0 11 rfl rfl)
abbrev cJ4_max : ByteArray := prog_12_method_66_code
def yJ4_max : MethodName := ⟨RJ4, "max", "(JJ)J"⟩
def dkwJ4_max_0 : List UInt8 := [30, 32, 148, 155, 0, 7, 30, 167, 0, 4, 32, 173]
abbrev dktJ4_max_0 : List UInt8 := dkwJ4_max_0 ++ []
theorem dksJ4_max_0 : cJ4_max.data.toList.drop 0 = dktJ4_max_0 := by decide +kernel
theorem dJ4_max_0 : decode cJ4_max 0 = .ok (.lload_n 0, 1) := dk_30 (dk_at dksJ4_max_0 0 rfl rfl)
theorem dJ4_max_1 : decode cJ4_max 1 = .ok (.lload_n 2, 1) := dk_32 (dk_at dksJ4_max_0 1 rfl rfl)
theorem dJ4_max_2 : decode cJ4_max 2 = .ok (.lcmp, 1) := dk_148 (dk_at dksJ4_max_0 2 rfl rfl)
theorem dJ4_max_3 : decode cJ4_max 3 = .ok (.ifCond .lt 7, 3) := dk_155 0 7 (dk_at dksJ4_max_0 3 rfl rfl)
theorem dJ4_max_6 : decode cJ4_max 6 = .ok (.lload_n 0, 1) := dk_30 (dk_at dksJ4_max_0 6 rfl rfl)
theorem dJ4_max_7 : decode cJ4_max 7 = .ok (.goto 4, 3) := dk_167 0 4 (dk_at dksJ4_max_0 7 rfl rfl)
theorem dJ4_max_10 : decode cJ4_max 10 = .ok (.lload_n 2, 1) := dk_32 (dk_at dksJ4_max_0 10 rfl rfl)
theorem dJ4_max_11 : decode cJ4_max 11 = .ok (.lreturn, 1) := dk_173 (dk_at dksJ4_max_0 11 rfl rfl)
abbrev cJ4_min_2 : ByteArray := prog_12_method_69_code
def yJ4_min_2 : MethodName := ⟨RJ4, "min", "(II)I"⟩
def dkwJ4_min_2_0 : List UInt8 := [26, 27, 163, 0, 7, 26, 167, 0, 4, 27, 172]
abbrev dktJ4_min_2_0 : List UInt8 := dkwJ4_min_2_0 ++ []
theorem dksJ4_min_2_0 : cJ4_min_2.data.toList.drop 0 = dktJ4_min_2_0 := by decide +kernel
theorem dJ4_min_2_0 : decode cJ4_min_2 0 = .ok (.iload_n 0, 1) := dk_26 (dk_at dksJ4_min_2_0 0 rfl rfl)
theorem dJ4_min_2_1 : decode cJ4_min_2 1 = .ok (.iload_n 1, 1) := dk_27 (dk_at dksJ4_min_2_0 1 rfl rfl)
theorem dJ4_min_2_2 : decode cJ4_min_2 2 = .ok (.if_icmp .gt 7, 3) := dk_163 0 7 (dk_at dksJ4_min_2_0 2 rfl rfl)
theorem dJ4_min_2_5 : decode cJ4_min_2 5 = .ok (.iload_n 0, 1) := dk_26 (dk_at dksJ4_min_2_0 5 rfl rfl)
theorem dJ4_min_2_6 : decode cJ4_min_2 6 = .ok (.goto 4, 3) := dk_167 0 4 (dk_at dksJ4_min_2_0 6 rfl rfl)
theorem dJ4_min_2_9 : decode cJ4_min_2 9 = .ok (.iload_n 1, 1) := dk_27 (dk_at dksJ4_min_2_0 9 rfl rfl)
theorem dJ4_min_2_10 : decode cJ4_min_2 10 = .ok (.ireturn, 1) := dk_172 (dk_at dksJ4_min_2_0 10 rfl rfl)
theorem q11 : (Jvm.Cond.initialized "java/lang/Math") ∈ lw_all := lw_g (lw_at lw_m1 9 rfl) rfl
theorem q150 : (Jvm.Cond.static ({ cls := "java/lang/Math", name := "min", desc := "(JJ)J" } : Jvm.MethodName)) ∈ lw_all := lw_g (lw_at lw_m1 148 rfl) rfl
theorem q151 : (Jvm.Cond.code ({ cls := "java/lang/Math", name := "min", desc := "(JJ)J" } : Jvm.MethodName) prog_12_method_70_code (4 : Nat) (Option.some Jvm.ClassFile.FieldType.long)) ∈ lw_all := lw_g (lw_at lw_m1 149 rfl) rfl
theorem q153 : (Jvm.Cond.static ({ cls := "java/lang/Math", name := "max", desc := "(JJ)J" } : Jvm.MethodName)) ∈ lw_all := lw_g (lw_at lw_m1 151 rfl) rfl
theorem q154 : (Jvm.Cond.code ({ cls := "java/lang/Math", name := "max", desc := "(JJ)J" } : Jvm.MethodName) prog_12_method_66_code (4 : Nat) (Option.some Jvm.ClassFile.FieldType.long)) ∈ lw_all := lw_g (lw_at lw_m1 152 rfl) rfl
theorem q237 : (Jvm.Cond.static ({ cls := "java/lang/Math", name := "min", desc := "(II)I" } : Jvm.MethodName)) ∈ lw_all := lw_g (lw_at lw_m1 235 rfl) rfl
theorem q238 : (Jvm.Cond.code ({ cls := "java/lang/Math", name := "min", desc := "(II)I" } : Jvm.MethodName) prog_12_method_69_code (2 : Nat) (Option.some Jvm.ClassFile.FieldType.int)) ∈ lw_all := lw_g (lw_at lw_m1 236 rfl) rfl
/-! IntArrays -/
set_option maxRecDepth 100000
def RX2 : String := "IntArrays"
abbrev cX2_grow : ByteArray := prog_1_method_1_code
def yX2_grow : MethodName := ⟨RX2, "grow", "([II)[I"⟩
def dkwX2_grow_0 : List UInt8 := [42, 27, 42, 190, 184, 0, 1, 176]
abbrev dktX2_grow_0 : List UInt8 := dkwX2_grow_0 ++ []
theorem dksX2_grow_0 : cX2_grow.data.toList.drop 0 = dktX2_grow_0 := by decide +kernel
theorem dX2_grow_0 : decode cX2_grow 0 = .ok (.aload_n 0, 1) := dk_42 (dk_at dksX2_grow_0 0 rfl rfl)
theorem dX2_grow_1 : decode cX2_grow 1 = .ok (.iload_n 1, 1) := dk_27 (dk_at dksX2_grow_0 1 rfl rfl)
theorem dX2_grow_2 : decode cX2_grow 2 = .ok (.aload_n 0, 1) := dk_42 (dk_at dksX2_grow_0 2 rfl rfl)
theorem dX2_grow_3 : decode cX2_grow 3 = .ok (.arraylength, 1) := dk_190 (dk_at dksX2_grow_0 3 rfl rfl)
theorem dX2_grow_4 : decode cX2_grow 4 = .ok (.invokestatic 1, 3) := dk_184 0 1 (dk_at dksX2_grow_0 4 rfl rfl)
theorem dX2_grow_7 : decode cX2_grow 7 = .ok (.areturn, 1) := dk_176 (dk_at dksX2_grow_0 7 rfl rfl)
abbrev cX2_grow_2 : ByteArray := prog_1_method_2_code
def yX2_grow_2 : MethodName := ⟨RX2, "grow", "([III)[I"⟩
def dkwX2_grow_2_1 : List UInt8 := [184, 0, 17, 136, 62, 29, 188, 10, 58, 4, 42, 3, 25, 4, 3, 28, 184, 0, 20, 25, 4, 176, 42, 176]
abbrev dktX2_grow_2_1 : List UInt8 := dkwX2_grow_2_1 ++ []
def dkwX2_grow_2_0 : List UInt8 := [27, 42, 190, 164, 0, 42, 42, 190, 133, 42, 190, 4, 122, 133, 97, 20, 0, 9, 184, 0, 11, 27, 133]
abbrev dktX2_grow_2_0 : List UInt8 := dkwX2_grow_2_0 ++ dktX2_grow_2_1
theorem dksX2_grow_2_0 : cX2_grow_2.data.toList.drop 0 = dktX2_grow_2_0 := by decide +kernel
theorem dksX2_grow_2_1 : cX2_grow_2.data.toList.drop 23 = dktX2_grow_2_1 := dk_seg dksX2_grow_2_0 23 rfl rfl
theorem dX2_grow_2_0 : decode cX2_grow_2 0 = .ok (.iload_n 1, 1) := dk_27 (dk_at dksX2_grow_2_0 0 rfl rfl)
theorem dX2_grow_2_1 : decode cX2_grow_2 1 = .ok (.aload_n 0, 1) := dk_42 (dk_at dksX2_grow_2_0 1 rfl rfl)
theorem dX2_grow_2_2 : decode cX2_grow_2 2 = .ok (.arraylength, 1) := dk_190 (dk_at dksX2_grow_2_0 2 rfl rfl)
theorem dX2_grow_2_3 : decode cX2_grow_2 3 = .ok (.if_icmp .le 42, 3) := dk_164 0 42 (dk_at dksX2_grow_2_0 3 rfl rfl)
theorem dX2_grow_2_6 : decode cX2_grow_2 6 = .ok (.aload_n 0, 1) := dk_42 (dk_at dksX2_grow_2_0 6 rfl rfl)
theorem dX2_grow_2_7 : decode cX2_grow_2 7 = .ok (.arraylength, 1) := dk_190 (dk_at dksX2_grow_2_0 7 rfl rfl)
theorem dX2_grow_2_8 : decode cX2_grow_2 8 = .ok (.i2l, 1) := dk_133 (dk_at dksX2_grow_2_0 8 rfl rfl)
theorem dX2_grow_2_9 : decode cX2_grow_2 9 = .ok (.aload_n 0, 1) := dk_42 (dk_at dksX2_grow_2_0 9 rfl rfl)
theorem dX2_grow_2_10 : decode cX2_grow_2 10 = .ok (.arraylength, 1) := dk_190 (dk_at dksX2_grow_2_0 10 rfl rfl)
theorem dX2_grow_2_11 : decode cX2_grow_2 11 = .ok (.iconst 1, 1) := dk_4 (dk_at dksX2_grow_2_0 11 rfl rfl)
theorem dX2_grow_2_12 : decode cX2_grow_2 12 = .ok (.ishr, 1) := dk_122 (dk_at dksX2_grow_2_0 12 rfl rfl)
theorem dX2_grow_2_13 : decode cX2_grow_2 13 = .ok (.i2l, 1) := dk_133 (dk_at dksX2_grow_2_0 13 rfl rfl)
theorem dX2_grow_2_14 : decode cX2_grow_2 14 = .ok (.ladd, 1) := dk_97 (dk_at dksX2_grow_2_0 14 rfl rfl)
theorem dX2_grow_2_15 : decode cX2_grow_2 15 = .ok (.ldc2_w 9, 3) := dk_20 0 9 (dk_at dksX2_grow_2_0 15 rfl rfl)
theorem dX2_grow_2_18 : decode cX2_grow_2 18 = .ok (.invokestatic 11, 3) := dk_184 0 11 (dk_at dksX2_grow_2_0 18 rfl rfl)
theorem dX2_grow_2_21 : decode cX2_grow_2 21 = .ok (.iload_n 1, 1) := dk_27 (dk_at dksX2_grow_2_0 21 rfl rfl)
theorem dX2_grow_2_22 : decode cX2_grow_2 22 = .ok (.i2l, 1) := dk_133 (dk_at dksX2_grow_2_0 22 rfl rfl)
theorem dX2_grow_2_23 : decode cX2_grow_2 23 = .ok (.invokestatic 17, 3) := dk_184 0 17 (dk_at dksX2_grow_2_1 0 rfl rfl)
theorem dX2_grow_2_26 : decode cX2_grow_2 26 = .ok (.l2i, 1) := dk_136 (dk_at dksX2_grow_2_1 3 rfl rfl)
theorem dX2_grow_2_27 : decode cX2_grow_2 27 = .ok (.istore_n 3, 1) := dk_62 (dk_at dksX2_grow_2_1 4 rfl rfl)
theorem dX2_grow_2_28 : decode cX2_grow_2 28 = .ok (.iload_n 3, 1) := dk_29 (dk_at dksX2_grow_2_1 5 rfl rfl)
theorem dX2_grow_2_29 : decode cX2_grow_2 29 = .ok (.newarray .int, 2) := dk_188_10 (dk_at dksX2_grow_2_1 6 rfl rfl)
theorem dX2_grow_2_31 : decode cX2_grow_2 31 = .ok (.astore 4, 2) := dk_58 4 (dk_at dksX2_grow_2_1 8 rfl rfl)
theorem dX2_grow_2_33 : decode cX2_grow_2 33 = .ok (.aload_n 0, 1) := dk_42 (dk_at dksX2_grow_2_1 10 rfl rfl)
theorem dX2_grow_2_34 : decode cX2_grow_2 34 = .ok (.iconst 0, 1) := dk_3 (dk_at dksX2_grow_2_1 11 rfl rfl)
theorem dX2_grow_2_35 : decode cX2_grow_2 35 = .ok (.aload 4, 2) := dk_25 4 (dk_at dksX2_grow_2_1 12 rfl rfl)
theorem dX2_grow_2_37 : decode cX2_grow_2 37 = .ok (.iconst 0, 1) := dk_3 (dk_at dksX2_grow_2_1 14 rfl rfl)
theorem dX2_grow_2_38 : decode cX2_grow_2 38 = .ok (.iload_n 2, 1) := dk_28 (dk_at dksX2_grow_2_1 15 rfl rfl)
theorem dX2_grow_2_39 : decode cX2_grow_2 39 = .ok (.invokestatic 20, 3) := dk_184 0 20 (dk_at dksX2_grow_2_1 16 rfl rfl)
theorem dX2_grow_2_42 : decode cX2_grow_2 42 = .ok (.aload 4, 2) := dk_25 4 (dk_at dksX2_grow_2_1 19 rfl rfl)
theorem dX2_grow_2_44 : decode cX2_grow_2 44 = .ok (.areturn, 1) := dk_176 (dk_at dksX2_grow_2_1 21 rfl rfl)
theorem dX2_grow_2_45 : decode cX2_grow_2 45 = .ok (.aload_n 0, 1) := dk_42 (dk_at dksX2_grow_2_1 22 rfl rfl)
theorem dX2_grow_2_46 : decode cX2_grow_2 46 = .ok (.areturn, 1) := dk_176 (dk_at dksX2_grow_2_1 23 rfl rfl)
theorem q5 : (Jvm.Cond.initialized "IntArrays") ∈ lw_all := lw_g (lw_at lw_m1 3 rfl) rfl
theorem q33 : (Jvm.Cond.laysStatic "IntArrays" "EMPTY_ARRAY" "[I") ∈ lw_tbl := lw_at lw_m1 31 rfl
theorem q143 : (Jvm.Cond.static ({ cls := "IntArrays", name := "grow", desc := "([II)[I" } : Jvm.MethodName)) ∈ lw_all := lw_g (lw_at lw_m1 141 rfl) rfl
theorem q144 : (Jvm.Cond.code ({ cls := "IntArrays", name := "grow", desc := "([II)[I" } : Jvm.MethodName) prog_1_method_1_code (2 : Nat) (Option.some (Jvm.ClassFile.FieldType.array Jvm.ClassFile.FieldType.int))) ∈ lw_all := lw_g (lw_at lw_m1 142 rfl) rfl
theorem q145 : (Jvm.Cond.methodLink "IntArrays" (1 : Nat) ({ cls := "IntArrays", name := "grow", desc := "([III)[I" } : Jvm.MethodName)) ∈ lw_all := lw_g (lw_at lw_m1 143 rfl) rfl
theorem q146 : (Jvm.Cond.static ({ cls := "IntArrays", name := "grow", desc := "([III)[I" } : Jvm.MethodName)) ∈ lw_all := lw_g (lw_at lw_m1 144 rfl) rfl
theorem q147 : (Jvm.Cond.code ({ cls := "IntArrays", name := "grow", desc := "([III)[I" } : Jvm.MethodName) prog_1_method_2_code (5 : Nat) (Option.some (Jvm.ClassFile.FieldType.array Jvm.ClassFile.FieldType.int))) ∈ lw_all := lw_g (lw_at lw_m1 145 rfl) rfl
theorem q148 : (Jvm.Cond.constantLong "IntArrays" (9 : Nat) (2147483639 : Int64)) ∈ lw_all := lw_g (lw_at lw_m1 146 rfl) rfl
theorem q149 : (Jvm.Cond.methodLink "IntArrays" (11 : Nat) ({ cls := "java/lang/Math", name := "min", desc := "(JJ)J" } : Jvm.MethodName)) ∈ lw_all := lw_g (lw_at lw_m1 147 rfl) rfl
theorem q152 : (Jvm.Cond.methodLink "IntArrays" (17 : Nat) ({ cls := "java/lang/Math", name := "max", desc := "(JJ)J" } : Jvm.MethodName)) ∈ lw_all := lw_g (lw_at lw_m1 150 rfl) rfl
theorem q155 : (Jvm.Cond.methodLink "IntArrays" (20 : Nat) ({ cls := "java/lang/System", name := "arraycopy", desc := "(Ljava/lang/Object;ILjava/lang/Object;II)V" } : Jvm.MethodName)) ∈ lw_all := lw_g (lw_at lw_m1 153 rfl) rfl
end
section
/-! IntSemiIndirectHeaps -/
set_option maxRecDepth 100000
def RX4 : String := "IntSemiIndirectHeaps"
abbrev cX4_upHeap : ByteArray := prog_4_method_2_code
def yX4_upHeap : MethodName := ⟨RX4, "upHeap", "([I[IIILIntComparator;)I"⟩
def dkwX4_upHeap_3 : List UInt8 := [54, 8, 167, 0, 3, 43, 29, 21, 5, 79, 29, 172]
abbrev dktX4_upHeap_3 : List UInt8 := dkwX4_upHeap_3 ++ []
def dkwX4_upHeap_2 : List UInt8 := [21, 8, 79, 21, 7, 62, 167, 255, 219, 29, 153, 0, 19, 29, 4, 100, 4, 124, 54, 7, 43, 21, 7, 46]
abbrev dktX4_upHeap_2 : List UInt8 := dkwX4_upHeap_2 ++ dktX4_upHeap_3
def dkwX4_upHeap_1 : List UInt8 := [124, 54, 7, 43, 21, 7, 46, 54, 8, 42, 21, 8, 46, 21, 6, 163, 0, 6, 167, 0, 34, 43, 29]
abbrev dktX4_upHeap_1 : List UInt8 := dkwX4_upHeap_1 ++ dktX4_upHeap_2
def dkwX4_upHeap_0 : List UInt8 := [43, 29, 46, 54, 5, 42, 21, 5, 46, 54, 6, 25, 4, 199, 0, 43, 29, 153, 0, 59, 29, 4, 100, 4]
abbrev dktX4_upHeap_0 : List UInt8 := dkwX4_upHeap_0 ++ dktX4_upHeap_1
theorem dksX4_upHeap_0 : cX4_upHeap.data.toList.drop 0 = dktX4_upHeap_0 := by decide +kernel
theorem dksX4_upHeap_1 : cX4_upHeap.data.toList.drop 24 = dktX4_upHeap_1 := dk_seg dksX4_upHeap_0 24 rfl rfl
theorem dksX4_upHeap_2 : cX4_upHeap.data.toList.drop 47 = dktX4_upHeap_2 := dk_seg dksX4_upHeap_1 23 rfl rfl
theorem dksX4_upHeap_3 : cX4_upHeap.data.toList.drop 71 = dktX4_upHeap_3 := dk_seg dksX4_upHeap_2 24 rfl rfl
theorem dX4_upHeap_0 : decode cX4_upHeap 0 = .ok (.aload_n 1, 1) := dk_43 (dk_at dksX4_upHeap_0 0 rfl rfl)
theorem dX4_upHeap_1 : decode cX4_upHeap 1 = .ok (.iload_n 3, 1) := dk_29 (dk_at dksX4_upHeap_0 1 rfl rfl)
theorem dX4_upHeap_2 : decode cX4_upHeap 2 = .ok (.iaload, 1) := dk_46 (dk_at dksX4_upHeap_0 2 rfl rfl)
theorem dX4_upHeap_3 : decode cX4_upHeap 3 = .ok (.istore 5, 2) := dk_54 5 (dk_at dksX4_upHeap_0 3 rfl rfl)
theorem dX4_upHeap_5 : decode cX4_upHeap 5 = .ok (.aload_n 0, 1) := dk_42 (dk_at dksX4_upHeap_0 5 rfl rfl)
theorem dX4_upHeap_6 : decode cX4_upHeap 6 = .ok (.iload 5, 2) := dk_21 5 (dk_at dksX4_upHeap_0 6 rfl rfl)
theorem dX4_upHeap_8 : decode cX4_upHeap 8 = .ok (.iaload, 1) := dk_46 (dk_at dksX4_upHeap_0 8 rfl rfl)
theorem dX4_upHeap_9 : decode cX4_upHeap 9 = .ok (.istore 6, 2) := dk_54 6 (dk_at dksX4_upHeap_0 9 rfl rfl)
theorem dX4_upHeap_11 : decode cX4_upHeap 11 = .ok (.aload 4, 2) := dk_25 4 (dk_at dksX4_upHeap_0 11 rfl rfl)
theorem dX4_upHeap_13 : decode cX4_upHeap 13 = .ok (.ifnonnull 43, 3) := dk_199 0 43 (dk_at dksX4_upHeap_0 13 rfl rfl)
theorem dX4_upHeap_16 : decode cX4_upHeap 16 = .ok (.iload_n 3, 1) := dk_29 (dk_at dksX4_upHeap_0 16 rfl rfl)
theorem dX4_upHeap_17 : decode cX4_upHeap 17 = .ok (.ifCond .eq 59, 3) := dk_153 0 59 (dk_at dksX4_upHeap_0 17 rfl rfl)
theorem dX4_upHeap_20 : decode cX4_upHeap 20 = .ok (.iload_n 3, 1) := dk_29 (dk_at dksX4_upHeap_0 20 rfl rfl)
theorem dX4_upHeap_21 : decode cX4_upHeap 21 = .ok (.iconst 1, 1) := dk_4 (dk_at dksX4_upHeap_0 21 rfl rfl)
theorem dX4_upHeap_22 : decode cX4_upHeap 22 = .ok (.isub, 1) := dk_100 (dk_at dksX4_upHeap_0 22 rfl rfl)
theorem dX4_upHeap_23 : decode cX4_upHeap 23 = .ok (.iconst 1, 1) := dk_4 (dk_at dksX4_upHeap_0 23 rfl rfl)
theorem dX4_upHeap_24 : decode cX4_upHeap 24 = .ok (.iushr, 1) := dk_124 (dk_at dksX4_upHeap_1 0 rfl rfl)
theorem dX4_upHeap_25 : decode cX4_upHeap 25 = .ok (.istore 7, 2) := dk_54 7 (dk_at dksX4_upHeap_1 1 rfl rfl)
theorem dX4_upHeap_27 : decode cX4_upHeap 27 = .ok (.aload_n 1, 1) := dk_43 (dk_at dksX4_upHeap_1 3 rfl rfl)
theorem dX4_upHeap_28 : decode cX4_upHeap 28 = .ok (.iload 7, 2) := dk_21 7 (dk_at dksX4_upHeap_1 4 rfl rfl)
theorem dX4_upHeap_30 : decode cX4_upHeap 30 = .ok (.iaload, 1) := dk_46 (dk_at dksX4_upHeap_1 6 rfl rfl)
theorem dX4_upHeap_31 : decode cX4_upHeap 31 = .ok (.istore 8, 2) := dk_54 8 (dk_at dksX4_upHeap_1 7 rfl rfl)
theorem dX4_upHeap_33 : decode cX4_upHeap 33 = .ok (.aload_n 0, 1) := dk_42 (dk_at dksX4_upHeap_1 9 rfl rfl)
theorem dX4_upHeap_34 : decode cX4_upHeap 34 = .ok (.iload 8, 2) := dk_21 8 (dk_at dksX4_upHeap_1 10 rfl rfl)
theorem dX4_upHeap_36 : decode cX4_upHeap 36 = .ok (.iaload, 1) := dk_46 (dk_at dksX4_upHeap_1 12 rfl rfl)
theorem dX4_upHeap_37 : decode cX4_upHeap 37 = .ok (.iload 6, 2) := dk_21 6 (dk_at dksX4_upHeap_1 13 rfl rfl)
theorem dX4_upHeap_39 : decode cX4_upHeap 39 = .ok (.if_icmp .gt 6, 3) := dk_163 0 6 (dk_at dksX4_upHeap_1 15 rfl rfl)
theorem dX4_upHeap_42 : decode cX4_upHeap 42 = .ok (.goto 34, 3) := dk_167 0 34 (dk_at dksX4_upHeap_1 18 rfl rfl)
theorem dX4_upHeap_45 : decode cX4_upHeap 45 = .ok (.aload_n 1, 1) := dk_43 (dk_at dksX4_upHeap_1 21 rfl rfl)
theorem dX4_upHeap_46 : decode cX4_upHeap 46 = .ok (.iload_n 3, 1) := dk_29 (dk_at dksX4_upHeap_1 22 rfl rfl)
theorem dX4_upHeap_47 : decode cX4_upHeap 47 = .ok (.iload 8, 2) := dk_21 8 (dk_at dksX4_upHeap_2 0 rfl rfl)
theorem dX4_upHeap_49 : decode cX4_upHeap 49 = .ok (.iastore, 1) := dk_79 (dk_at dksX4_upHeap_2 2 rfl rfl)
theorem dX4_upHeap_50 : decode cX4_upHeap 50 = .ok (.iload 7, 2) := dk_21 7 (dk_at dksX4_upHeap_2 3 rfl rfl)
theorem dX4_upHeap_52 : decode cX4_upHeap 52 = .ok (.istore_n 3, 1) := dk_62 (dk_at dksX4_upHeap_2 5 rfl rfl)
theorem dX4_upHeap_53 : decode cX4_upHeap 53 = .ok (.goto (-37), 3) := dk_167 255 219 (dk_at dksX4_upHeap_2 6 rfl rfl)
theorem dX4_upHeap_56 : decode cX4_upHeap 56 = .ok (.iload_n 3, 1) := dk_29 (dk_at dksX4_upHeap_2 9 rfl rfl)
theorem dX4_upHeap_57 : decode cX4_upHeap 57 = .ok (.ifCond .eq 19, 3) := dk_153 0 19 (dk_at dksX4_upHeap_2 10 rfl rfl)
theorem dX4_upHeap_60 : decode cX4_upHeap 60 = .ok (.iload_n 3, 1) := dk_29 (dk_at dksX4_upHeap_2 13 rfl rfl)
theorem dX4_upHeap_61 : decode cX4_upHeap 61 = .ok (.iconst 1, 1) := dk_4 (dk_at dksX4_upHeap_2 14 rfl rfl)
theorem dX4_upHeap_62 : decode cX4_upHeap 62 = .ok (.isub, 1) := dk_100 (dk_at dksX4_upHeap_2 15 rfl rfl)
theorem dX4_upHeap_63 : decode cX4_upHeap 63 = .ok (.iconst 1, 1) := dk_4 (dk_at dksX4_upHeap_2 16 rfl rfl)
theorem dX4_upHeap_64 : decode cX4_upHeap 64 = .ok (.iushr, 1) := dk_124 (dk_at dksX4_upHeap_2 17 rfl rfl)
theorem dX4_upHeap_65 : decode cX4_upHeap 65 = .ok (.istore 7, 2) := dk_54 7 (dk_at dksX4_upHeap_2 18 rfl rfl)
theorem dX4_upHeap_67 : decode cX4_upHeap 67 = .ok (.aload_n 1, 1) := dk_43 (dk_at dksX4_upHeap_2 20 rfl rfl)
theorem dX4_upHeap_68 : decode cX4_upHeap 68 = .ok (.iload 7, 2) := dk_21 7 (dk_at dksX4_upHeap_2 21 rfl rfl)
theorem dX4_upHeap_70 : decode cX4_upHeap 70 = .ok (.iaload, 1) := dk_46 (dk_at dksX4_upHeap_2 23 rfl rfl)
theorem dX4_upHeap_71 : decode cX4_upHeap 71 = .ok (.istore 8, 2) := dk_54 8 (dk_at dksX4_upHeap_3 0 rfl rfl)
theorem dX4_upHeap_73 : decode cX4_upHeap 73 = .ok (.goto 3, 3) := dk_167 0 3 (dk_at dksX4_upHeap_3 2 rfl rfl)
theorem dX4_upHeap_76 : decode cX4_upHeap 76 = .ok (.aload_n 1, 1) := dk_43 (dk_at dksX4_upHeap_3 5 rfl rfl)
theorem dX4_upHeap_77 : decode cX4_upHeap 77 = .ok (.iload_n 3, 1) := dk_29 (dk_at dksX4_upHeap_3 6 rfl rfl)
theorem dX4_upHeap_78 : decode cX4_upHeap 78 = .ok (.iload 5, 2) := dk_21 5 (dk_at dksX4_upHeap_3 7 rfl rfl)
theorem dX4_upHeap_80 : decode cX4_upHeap 80 = .ok (.iastore, 1) := dk_79 (dk_at dksX4_upHeap_3 9 rfl rfl)
theorem dX4_upHeap_81 : decode cX4_upHeap 81 = .ok (.iload_n 3, 1) := dk_29 (dk_at dksX4_upHeap_3 10 rfl rfl)
theorem dX4_upHeap_82 : decode cX4_upHeap 82 = .ok (.ireturn, 1) := dk_172 (dk_at dksX4_upHeap_3 11 rfl rfl)
abbrev cX4_downHeap : ByteArray := prog_4_method_1_code
def yX4_downHeap : MethodName := ⟨RX4, "downHeap", "([I[IIILIntComparator;)I"⟩
def dkwX4_downHeap_5 : List UInt8 := [162, 0, 6, 167, 0, 3, 43, 29, 21, 5, 79, 29, 172]
abbrev dktX4_downHeap_5 : List UInt8 := dkwX4_downHeap_5 ++ []
def dkwX4_downHeap_4 : List UInt8 := [96, 89, 54, 7, 28, 162, 0, 24, 43, 21, 7, 46, 54, 8, 21, 7, 4, 96, 54, 9, 21, 9, 28]
abbrev dktX4_downHeap_4 : List UInt8 := dkwX4_downHeap_4 ++ dktX4_downHeap_5
def dkwX4_downHeap_3 : List UInt8 := [21, 8, 46, 163, 0, 6, 167, 0, 47, 43, 29, 21, 8, 79, 21, 7, 62, 167, 255, 184, 29, 4, 120, 4]
abbrev dktX4_downHeap_3 : List UInt8 := dkwX4_downHeap_3 ++ dktX4_downHeap_4
def dkwX4_downHeap_2 : List UInt8 := [21, 9, 46, 46, 42, 21, 8, 46, 162, 0, 12, 43, 21, 9, 89, 54, 7, 46, 54, 8, 21, 6, 42]
abbrev dktX4_downHeap_2 : List UInt8 := dkwX4_downHeap_2 ++ dktX4_downHeap_3
def dkwX4_downHeap_1 : List UInt8 := [28, 162, 0, 99, 43, 21, 7, 46, 54, 8, 21, 7, 4, 96, 54, 9, 21, 9, 28, 162, 0, 25, 42, 43]
abbrev dktX4_downHeap_1 : List UInt8 := dkwX4_downHeap_1 ++ dktX4_downHeap_2
def dkwX4_downHeap_0 : List UInt8 := [43, 29, 46, 54, 5, 42, 21, 5, 46, 54, 6, 25, 4, 199, 0, 78, 29, 4, 120, 4, 96, 89, 54, 7]
abbrev dktX4_downHeap_0 : List UInt8 := dkwX4_downHeap_0 ++ dktX4_downHeap_1
theorem dksX4_downHeap_0 : cX4_downHeap.data.toList.drop 0 = dktX4_downHeap_0 := by decide +kernel
theorem dksX4_downHeap_1 : cX4_downHeap.data.toList.drop 24 = dktX4_downHeap_1 := dk_seg dksX4_downHeap_0 24 rfl rfl
theorem dksX4_downHeap_2 : cX4_downHeap.data.toList.drop 48 = dktX4_downHeap_2 := dk_seg dksX4_downHeap_1 24 rfl rfl
theorem dksX4_downHeap_3 : cX4_downHeap.data.toList.drop 71 = dktX4_downHeap_3 := dk_seg dksX4_downHeap_2 23 rfl rfl
theorem dksX4_downHeap_4 : cX4_downHeap.data.toList.drop 95 = dktX4_downHeap_4 := dk_seg dksX4_downHeap_3 24 rfl rfl
theorem dksX4_downHeap_5 : cX4_downHeap.data.toList.drop 118 = dktX4_downHeap_5 := dk_seg dksX4_downHeap_4 23 rfl rfl
theorem dX4_downHeap_0 : decode cX4_downHeap 0 = .ok (.aload_n 1, 1) := dk_43 (dk_at dksX4_downHeap_0 0 rfl rfl)
theorem dX4_downHeap_1 : decode cX4_downHeap 1 = .ok (.iload_n 3, 1) := dk_29 (dk_at dksX4_downHeap_0 1 rfl rfl)
theorem dX4_downHeap_2 : decode cX4_downHeap 2 = .ok (.iaload, 1) := dk_46 (dk_at dksX4_downHeap_0 2 rfl rfl)
theorem dX4_downHeap_3 : decode cX4_downHeap 3 = .ok (.istore 5, 2) := dk_54 5 (dk_at dksX4_downHeap_0 3 rfl rfl)
theorem dX4_downHeap_5 : decode cX4_downHeap 5 = .ok (.aload_n 0, 1) := dk_42 (dk_at dksX4_downHeap_0 5 rfl rfl)
theorem dX4_downHeap_6 : decode cX4_downHeap 6 = .ok (.iload 5, 2) := dk_21 5 (dk_at dksX4_downHeap_0 6 rfl rfl)
theorem dX4_downHeap_8 : decode cX4_downHeap 8 = .ok (.iaload, 1) := dk_46 (dk_at dksX4_downHeap_0 8 rfl rfl)
theorem dX4_downHeap_9 : decode cX4_downHeap 9 = .ok (.istore 6, 2) := dk_54 6 (dk_at dksX4_downHeap_0 9 rfl rfl)
theorem dX4_downHeap_11 : decode cX4_downHeap 11 = .ok (.aload 4, 2) := dk_25 4 (dk_at dksX4_downHeap_0 11 rfl rfl)
theorem dX4_downHeap_13 : decode cX4_downHeap 13 = .ok (.ifnonnull 78, 3) := dk_199 0 78 (dk_at dksX4_downHeap_0 13 rfl rfl)
theorem dX4_downHeap_16 : decode cX4_downHeap 16 = .ok (.iload_n 3, 1) := dk_29 (dk_at dksX4_downHeap_0 16 rfl rfl)
theorem dX4_downHeap_17 : decode cX4_downHeap 17 = .ok (.iconst 1, 1) := dk_4 (dk_at dksX4_downHeap_0 17 rfl rfl)
theorem dX4_downHeap_18 : decode cX4_downHeap 18 = .ok (.ishl, 1) := dk_120 (dk_at dksX4_downHeap_0 18 rfl rfl)
theorem dX4_downHeap_19 : decode cX4_downHeap 19 = .ok (.iconst 1, 1) := dk_4 (dk_at dksX4_downHeap_0 19 rfl rfl)
theorem dX4_downHeap_20 : decode cX4_downHeap 20 = .ok (.iadd, 1) := dk_96 (dk_at dksX4_downHeap_0 20 rfl rfl)
theorem dX4_downHeap_21 : decode cX4_downHeap 21 = .ok (.dup, 1) := dk_89 (dk_at dksX4_downHeap_0 21 rfl rfl)
theorem dX4_downHeap_22 : decode cX4_downHeap 22 = .ok (.istore 7, 2) := dk_54 7 (dk_at dksX4_downHeap_0 22 rfl rfl)
theorem dX4_downHeap_24 : decode cX4_downHeap 24 = .ok (.iload_n 2, 1) := dk_28 (dk_at dksX4_downHeap_1 0 rfl rfl)
theorem dX4_downHeap_25 : decode cX4_downHeap 25 = .ok (.if_icmp .ge 99, 3) := dk_162 0 99 (dk_at dksX4_downHeap_1 1 rfl rfl)
theorem dX4_downHeap_28 : decode cX4_downHeap 28 = .ok (.aload_n 1, 1) := dk_43 (dk_at dksX4_downHeap_1 4 rfl rfl)
theorem dX4_downHeap_29 : decode cX4_downHeap 29 = .ok (.iload 7, 2) := dk_21 7 (dk_at dksX4_downHeap_1 5 rfl rfl)
theorem dX4_downHeap_31 : decode cX4_downHeap 31 = .ok (.iaload, 1) := dk_46 (dk_at dksX4_downHeap_1 7 rfl rfl)
theorem dX4_downHeap_32 : decode cX4_downHeap 32 = .ok (.istore 8, 2) := dk_54 8 (dk_at dksX4_downHeap_1 8 rfl rfl)
theorem dX4_downHeap_34 : decode cX4_downHeap 34 = .ok (.iload 7, 2) := dk_21 7 (dk_at dksX4_downHeap_1 10 rfl rfl)
theorem dX4_downHeap_36 : decode cX4_downHeap 36 = .ok (.iconst 1, 1) := dk_4 (dk_at dksX4_downHeap_1 12 rfl rfl)
theorem dX4_downHeap_37 : decode cX4_downHeap 37 = .ok (.iadd, 1) := dk_96 (dk_at dksX4_downHeap_1 13 rfl rfl)
theorem dX4_downHeap_38 : decode cX4_downHeap 38 = .ok (.istore 9, 2) := dk_54 9 (dk_at dksX4_downHeap_1 14 rfl rfl)
theorem dX4_downHeap_40 : decode cX4_downHeap 40 = .ok (.iload 9, 2) := dk_21 9 (dk_at dksX4_downHeap_1 16 rfl rfl)
theorem dX4_downHeap_42 : decode cX4_downHeap 42 = .ok (.iload_n 2, 1) := dk_28 (dk_at dksX4_downHeap_1 18 rfl rfl)
theorem dX4_downHeap_43 : decode cX4_downHeap 43 = .ok (.if_icmp .ge 25, 3) := dk_162 0 25 (dk_at dksX4_downHeap_1 19 rfl rfl)
theorem dX4_downHeap_46 : decode cX4_downHeap 46 = .ok (.aload_n 0, 1) := dk_42 (dk_at dksX4_downHeap_1 22 rfl rfl)
theorem dX4_downHeap_47 : decode cX4_downHeap 47 = .ok (.aload_n 1, 1) := dk_43 (dk_at dksX4_downHeap_1 23 rfl rfl)
theorem dX4_downHeap_48 : decode cX4_downHeap 48 = .ok (.iload 9, 2) := dk_21 9 (dk_at dksX4_downHeap_2 0 rfl rfl)
theorem dX4_downHeap_50 : decode cX4_downHeap 50 = .ok (.iaload, 1) := dk_46 (dk_at dksX4_downHeap_2 2 rfl rfl)
theorem dX4_downHeap_51 : decode cX4_downHeap 51 = .ok (.iaload, 1) := dk_46 (dk_at dksX4_downHeap_2 3 rfl rfl)
theorem dX4_downHeap_52 : decode cX4_downHeap 52 = .ok (.aload_n 0, 1) := dk_42 (dk_at dksX4_downHeap_2 4 rfl rfl)
theorem dX4_downHeap_53 : decode cX4_downHeap 53 = .ok (.iload 8, 2) := dk_21 8 (dk_at dksX4_downHeap_2 5 rfl rfl)
theorem dX4_downHeap_55 : decode cX4_downHeap 55 = .ok (.iaload, 1) := dk_46 (dk_at dksX4_downHeap_2 7 rfl rfl)
theorem dX4_downHeap_56 : decode cX4_downHeap 56 = .ok (.if_icmp .ge 12, 3) := dk_162 0 12 (dk_at dksX4_downHeap_2 8 rfl rfl)
theorem dX4_downHeap_59 : decode cX4_downHeap 59 = .ok (.aload_n 1, 1) := dk_43 (dk_at dksX4_downHeap_2 11 rfl rfl)
theorem dX4_downHeap_60 : decode cX4_downHeap 60 = .ok (.iload 9, 2) := dk_21 9 (dk_at dksX4_downHeap_2 12 rfl rfl)
theorem dX4_downHeap_62 : decode cX4_downHeap 62 = .ok (.dup, 1) := dk_89 (dk_at dksX4_downHeap_2 14 rfl rfl)
theorem dX4_downHeap_63 : decode cX4_downHeap 63 = .ok (.istore 7, 2) := dk_54 7 (dk_at dksX4_downHeap_2 15 rfl rfl)
theorem dX4_downHeap_65 : decode cX4_downHeap 65 = .ok (.iaload, 1) := dk_46 (dk_at dksX4_downHeap_2 17 rfl rfl)
theorem dX4_downHeap_66 : decode cX4_downHeap 66 = .ok (.istore 8, 2) := dk_54 8 (dk_at dksX4_downHeap_2 18 rfl rfl)
theorem dX4_downHeap_68 : decode cX4_downHeap 68 = .ok (.iload 6, 2) := dk_21 6 (dk_at dksX4_downHeap_2 20 rfl rfl)
theorem dX4_downHeap_70 : decode cX4_downHeap 70 = .ok (.aload_n 0, 1) := dk_42 (dk_at dksX4_downHeap_2 22 rfl rfl)
theorem dX4_downHeap_71 : decode cX4_downHeap 71 = .ok (.iload 8, 2) := dk_21 8 (dk_at dksX4_downHeap_3 0 rfl rfl)
theorem dX4_downHeap_73 : decode cX4_downHeap 73 = .ok (.iaload, 1) := dk_46 (dk_at dksX4_downHeap_3 2 rfl rfl)
theorem dX4_downHeap_74 : decode cX4_downHeap 74 = .ok (.if_icmp .gt 6, 3) := dk_163 0 6 (dk_at dksX4_downHeap_3 3 rfl rfl)
theorem dX4_downHeap_77 : decode cX4_downHeap 77 = .ok (.goto 47, 3) := dk_167 0 47 (dk_at dksX4_downHeap_3 6 rfl rfl)
theorem dX4_downHeap_80 : decode cX4_downHeap 80 = .ok (.aload_n 1, 1) := dk_43 (dk_at dksX4_downHeap_3 9 rfl rfl)
theorem dX4_downHeap_81 : decode cX4_downHeap 81 = .ok (.iload_n 3, 1) := dk_29 (dk_at dksX4_downHeap_3 10 rfl rfl)
theorem dX4_downHeap_82 : decode cX4_downHeap 82 = .ok (.iload 8, 2) := dk_21 8 (dk_at dksX4_downHeap_3 11 rfl rfl)
theorem dX4_downHeap_84 : decode cX4_downHeap 84 = .ok (.iastore, 1) := dk_79 (dk_at dksX4_downHeap_3 13 rfl rfl)
theorem dX4_downHeap_85 : decode cX4_downHeap 85 = .ok (.iload 7, 2) := dk_21 7 (dk_at dksX4_downHeap_3 14 rfl rfl)
theorem dX4_downHeap_87 : decode cX4_downHeap 87 = .ok (.istore_n 3, 1) := dk_62 (dk_at dksX4_downHeap_3 16 rfl rfl)
theorem dX4_downHeap_88 : decode cX4_downHeap 88 = .ok (.goto (-72), 3) := dk_167 255 184 (dk_at dksX4_downHeap_3 17 rfl rfl)
theorem dX4_downHeap_91 : decode cX4_downHeap 91 = .ok (.iload_n 3, 1) := dk_29 (dk_at dksX4_downHeap_3 20 rfl rfl)
theorem dX4_downHeap_92 : decode cX4_downHeap 92 = .ok (.iconst 1, 1) := dk_4 (dk_at dksX4_downHeap_3 21 rfl rfl)
theorem dX4_downHeap_93 : decode cX4_downHeap 93 = .ok (.ishl, 1) := dk_120 (dk_at dksX4_downHeap_3 22 rfl rfl)
theorem dX4_downHeap_94 : decode cX4_downHeap 94 = .ok (.iconst 1, 1) := dk_4 (dk_at dksX4_downHeap_3 23 rfl rfl)
theorem dX4_downHeap_95 : decode cX4_downHeap 95 = .ok (.iadd, 1) := dk_96 (dk_at dksX4_downHeap_4 0 rfl rfl)
theorem dX4_downHeap_96 : decode cX4_downHeap 96 = .ok (.dup, 1) := dk_89 (dk_at dksX4_downHeap_4 1 rfl rfl)
theorem dX4_downHeap_97 : decode cX4_downHeap 97 = .ok (.istore 7, 2) := dk_54 7 (dk_at dksX4_downHeap_4 2 rfl rfl)
theorem dX4_downHeap_99 : decode cX4_downHeap 99 = .ok (.iload_n 2, 1) := dk_28 (dk_at dksX4_downHeap_4 4 rfl rfl)
theorem dX4_downHeap_100 : decode cX4_downHeap 100 = .ok (.if_icmp .ge 24, 3) := dk_162 0 24 (dk_at dksX4_downHeap_4 5 rfl rfl)
theorem dX4_downHeap_103 : decode cX4_downHeap 103 = .ok (.aload_n 1, 1) := dk_43 (dk_at dksX4_downHeap_4 8 rfl rfl)
theorem dX4_downHeap_104 : decode cX4_downHeap 104 = .ok (.iload 7, 2) := dk_21 7 (dk_at dksX4_downHeap_4 9 rfl rfl)
theorem dX4_downHeap_106 : decode cX4_downHeap 106 = .ok (.iaload, 1) := dk_46 (dk_at dksX4_downHeap_4 11 rfl rfl)
theorem dX4_downHeap_107 : decode cX4_downHeap 107 = .ok (.istore 8, 2) := dk_54 8 (dk_at dksX4_downHeap_4 12 rfl rfl)
theorem dX4_downHeap_109 : decode cX4_downHeap 109 = .ok (.iload 7, 2) := dk_21 7 (dk_at dksX4_downHeap_4 14 rfl rfl)
theorem dX4_downHeap_111 : decode cX4_downHeap 111 = .ok (.iconst 1, 1) := dk_4 (dk_at dksX4_downHeap_4 16 rfl rfl)
theorem dX4_downHeap_112 : decode cX4_downHeap 112 = .ok (.iadd, 1) := dk_96 (dk_at dksX4_downHeap_4 17 rfl rfl)
theorem dX4_downHeap_113 : decode cX4_downHeap 113 = .ok (.istore 9, 2) := dk_54 9 (dk_at dksX4_downHeap_4 18 rfl rfl)
theorem dX4_downHeap_115 : decode cX4_downHeap 115 = .ok (.iload 9, 2) := dk_21 9 (dk_at dksX4_downHeap_4 20 rfl rfl)
theorem dX4_downHeap_117 : decode cX4_downHeap 117 = .ok (.iload_n 2, 1) := dk_28 (dk_at dksX4_downHeap_4 22 rfl rfl)
theorem dX4_downHeap_118 : decode cX4_downHeap 118 = .ok (.if_icmp .ge 6, 3) := dk_162 0 6 (dk_at dksX4_downHeap_5 0 rfl rfl)
theorem dX4_downHeap_121 : decode cX4_downHeap 121 = .ok (.goto 3, 3) := dk_167 0 3 (dk_at dksX4_downHeap_5 3 rfl rfl)
theorem dX4_downHeap_124 : decode cX4_downHeap 124 = .ok (.aload_n 1, 1) := dk_43 (dk_at dksX4_downHeap_5 6 rfl rfl)
theorem dX4_downHeap_125 : decode cX4_downHeap 125 = .ok (.iload_n 3, 1) := dk_29 (dk_at dksX4_downHeap_5 7 rfl rfl)
theorem dX4_downHeap_126 : decode cX4_downHeap 126 = .ok (.iload 5, 2) := dk_21 5 (dk_at dksX4_downHeap_5 8 rfl rfl)
theorem dX4_downHeap_128 : decode cX4_downHeap 128 = .ok (.iastore, 1) := dk_79 (dk_at dksX4_downHeap_5 10 rfl rfl)
theorem dX4_downHeap_129 : decode cX4_downHeap 129 = .ok (.iload_n 3, 1) := dk_29 (dk_at dksX4_downHeap_5 11 rfl rfl)
theorem dX4_downHeap_130 : decode cX4_downHeap 130 = .ok (.ireturn, 1) := dk_172 (dk_at dksX4_downHeap_5 12 rfl rfl)
abbrev cX4_makeHeap : ByteArray := prog_4_method_3_code
def yX4_makeHeap : MethodName := ⟨RX4, "makeHeap", "([I[IILIntComparator;)V"⟩
def dkwX4_makeHeap_1 : List UInt8 := [167, 255, 238, 177]
abbrev dktX4_makeHeap_1 : List UInt8 := dkwX4_makeHeap_1 ++ []
def dkwX4_makeHeap_0 : List UInt8 := [28, 4, 124, 54, 4, 21, 4, 132, 4, 255, 153, 0, 16, 42, 43, 28, 21, 4, 45, 184, 0, 1, 87]
abbrev dktX4_makeHeap_0 : List UInt8 := dkwX4_makeHeap_0 ++ dktX4_makeHeap_1
theorem dksX4_makeHeap_0 : cX4_makeHeap.data.toList.drop 0 = dktX4_makeHeap_0 := by decide +kernel
theorem dksX4_makeHeap_1 : cX4_makeHeap.data.toList.drop 23 = dktX4_makeHeap_1 := dk_seg dksX4_makeHeap_0 23 rfl rfl
theorem dX4_makeHeap_0 : decode cX4_makeHeap 0 = .ok (.iload_n 2, 1) := dk_28 (dk_at dksX4_makeHeap_0 0 rfl rfl)
theorem dX4_makeHeap_1 : decode cX4_makeHeap 1 = .ok (.iconst 1, 1) := dk_4 (dk_at dksX4_makeHeap_0 1 rfl rfl)
theorem dX4_makeHeap_2 : decode cX4_makeHeap 2 = .ok (.iushr, 1) := dk_124 (dk_at dksX4_makeHeap_0 2 rfl rfl)
theorem dX4_makeHeap_3 : decode cX4_makeHeap 3 = .ok (.istore 4, 2) := dk_54 4 (dk_at dksX4_makeHeap_0 3 rfl rfl)
theorem dX4_makeHeap_5 : decode cX4_makeHeap 5 = .ok (.iload 4, 2) := dk_21 4 (dk_at dksX4_makeHeap_0 5 rfl rfl)
theorem dX4_makeHeap_7 : decode cX4_makeHeap 7 = .ok (.iinc 4 (-1), 3) := dk_132 4 255 (dk_at dksX4_makeHeap_0 7 rfl rfl)
theorem dX4_makeHeap_10 : decode cX4_makeHeap 10 = .ok (.ifCond .eq 16, 3) := dk_153 0 16 (dk_at dksX4_makeHeap_0 10 rfl rfl)
theorem dX4_makeHeap_13 : decode cX4_makeHeap 13 = .ok (.aload_n 0, 1) := dk_42 (dk_at dksX4_makeHeap_0 13 rfl rfl)
theorem dX4_makeHeap_14 : decode cX4_makeHeap 14 = .ok (.aload_n 1, 1) := dk_43 (dk_at dksX4_makeHeap_0 14 rfl rfl)
theorem dX4_makeHeap_15 : decode cX4_makeHeap 15 = .ok (.iload_n 2, 1) := dk_28 (dk_at dksX4_makeHeap_0 15 rfl rfl)
theorem dX4_makeHeap_16 : decode cX4_makeHeap 16 = .ok (.iload 4, 2) := dk_21 4 (dk_at dksX4_makeHeap_0 16 rfl rfl)
theorem dX4_makeHeap_18 : decode cX4_makeHeap 18 = .ok (.aload_n 3, 1) := dk_45 (dk_at dksX4_makeHeap_0 18 rfl rfl)
theorem dX4_makeHeap_19 : decode cX4_makeHeap 19 = .ok (.invokestatic 1, 3) := dk_184 0 1 (dk_at dksX4_makeHeap_0 19 rfl rfl)
theorem dX4_makeHeap_22 : decode cX4_makeHeap 22 = .ok (.pop, 1) := dk_87 (dk_at dksX4_makeHeap_0 22 rfl rfl)
theorem dX4_makeHeap_23 : decode cX4_makeHeap 23 = .ok (.goto (-18), 3) := dk_167 255 238 (dk_at dksX4_makeHeap_1 0 rfl rfl)
theorem dX4_makeHeap_26 : decode cX4_makeHeap 26 = .ok (.return_, 1) := dk_177 (dk_at dksX4_makeHeap_1 3 rfl rfl)
abbrev cX4_front : ByteArray := prog_4_method_4_code
def yX4_front : MethodName := ⟨RX4, "front", "([I[II[I)I"⟩
def dkwX4_front_4 : List UInt8 := [54, 6, 28, 21, 9, 5, 104, 6, 96, 184, 0, 7, 54, 7, 132, 9, 1, 167, 255, 166, 21, 5, 172]
abbrev dktX4_front_4 : List UInt8 := dkwX4_front_4 ++ []
def dkwX4_front_3 : List UInt8 := [45, 21, 5, 132, 5, 1, 43, 21, 9, 46, 79, 21, 6, 2, 160, 0, 11, 21, 9, 5, 104, 4, 96]
abbrev dktX4_front_3 : List UInt8 := dkwX4_front_3 ++ dktX4_front_4
def dkwX4_front_2 : List UInt8 := [4, 120, 4, 96, 54, 8, 21, 6, 54, 9, 2, 54, 6, 21, 4, 42, 43, 21, 9, 46, 46, 160, 0, 40]
abbrev dktX4_front_2 : List UInt8 := dkwX4_front_2 ++ dktX4_front_3
def dkwX4_front_1 : List UInt8 := [21, 7, 162, 0, 89, 21, 9, 21, 8, 160, 0, 28, 21, 6, 21, 7, 161, 0, 6, 167, 0, 72, 21, 8]
abbrev dktX4_front_1 : List UInt8 := dkwX4_front_1 ++ dktX4_front_2
def dkwX4_front_0 : List UInt8 := [42, 43, 3, 46, 46, 54, 4, 3, 54, 5, 3, 54, 6, 4, 54, 7, 3, 54, 8, 3, 54, 9, 21, 9]
abbrev dktX4_front_0 : List UInt8 := dkwX4_front_0 ++ dktX4_front_1
theorem dksX4_front_0 : cX4_front.data.toList.drop 0 = dktX4_front_0 := by decide +kernel
theorem dksX4_front_1 : cX4_front.data.toList.drop 24 = dktX4_front_1 := dk_seg dksX4_front_0 24 rfl rfl
theorem dksX4_front_2 : cX4_front.data.toList.drop 48 = dktX4_front_2 := dk_seg dksX4_front_1 24 rfl rfl
theorem dksX4_front_3 : cX4_front.data.toList.drop 72 = dktX4_front_3 := dk_seg dksX4_front_2 24 rfl rfl
theorem dksX4_front_4 : cX4_front.data.toList.drop 95 = dktX4_front_4 := dk_seg dksX4_front_3 23 rfl rfl
theorem dX4_front_0 : decode cX4_front 0 = .ok (.aload_n 0, 1) := dk_42 (dk_at dksX4_front_0 0 rfl rfl)
theorem dX4_front_1 : decode cX4_front 1 = .ok (.aload_n 1, 1) := dk_43 (dk_at dksX4_front_0 1 rfl rfl)
theorem dX4_front_2 : decode cX4_front 2 = .ok (.iconst 0, 1) := dk_3 (dk_at dksX4_front_0 2 rfl rfl)
theorem dX4_front_3 : decode cX4_front 3 = .ok (.iaload, 1) := dk_46 (dk_at dksX4_front_0 3 rfl rfl)
theorem dX4_front_4 : decode cX4_front 4 = .ok (.iaload, 1) := dk_46 (dk_at dksX4_front_0 4 rfl rfl)
theorem dX4_front_5 : decode cX4_front 5 = .ok (.istore 4, 2) := dk_54 4 (dk_at dksX4_front_0 5 rfl rfl)
theorem dX4_front_7 : decode cX4_front 7 = .ok (.iconst 0, 1) := dk_3 (dk_at dksX4_front_0 7 rfl rfl)
theorem dX4_front_8 : decode cX4_front 8 = .ok (.istore 5, 2) := dk_54 5 (dk_at dksX4_front_0 8 rfl rfl)
theorem dX4_front_10 : decode cX4_front 10 = .ok (.iconst 0, 1) := dk_3 (dk_at dksX4_front_0 10 rfl rfl)
theorem dX4_front_11 : decode cX4_front 11 = .ok (.istore 6, 2) := dk_54 6 (dk_at dksX4_front_0 11 rfl rfl)
theorem dX4_front_13 : decode cX4_front 13 = .ok (.iconst 1, 1) := dk_4 (dk_at dksX4_front_0 13 rfl rfl)
theorem dX4_front_14 : decode cX4_front 14 = .ok (.istore 7, 2) := dk_54 7 (dk_at dksX4_front_0 14 rfl rfl)
theorem dX4_front_16 : decode cX4_front 16 = .ok (.iconst 0, 1) := dk_3 (dk_at dksX4_front_0 16 rfl rfl)
theorem dX4_front_17 : decode cX4_front 17 = .ok (.istore 8, 2) := dk_54 8 (dk_at dksX4_front_0 17 rfl rfl)
theorem dX4_front_19 : decode cX4_front 19 = .ok (.iconst 0, 1) := dk_3 (dk_at dksX4_front_0 19 rfl rfl)
theorem dX4_front_20 : decode cX4_front 20 = .ok (.istore 9, 2) := dk_54 9 (dk_at dksX4_front_0 20 rfl rfl)
theorem dX4_front_22 : decode cX4_front 22 = .ok (.iload 9, 2) := dk_21 9 (dk_at dksX4_front_0 22 rfl rfl)
theorem dX4_front_24 : decode cX4_front 24 = .ok (.iload 7, 2) := dk_21 7 (dk_at dksX4_front_1 0 rfl rfl)
theorem dX4_front_26 : decode cX4_front 26 = .ok (.if_icmp .ge 89, 3) := dk_162 0 89 (dk_at dksX4_front_1 2 rfl rfl)
theorem dX4_front_29 : decode cX4_front 29 = .ok (.iload 9, 2) := dk_21 9 (dk_at dksX4_front_1 5 rfl rfl)
theorem dX4_front_31 : decode cX4_front 31 = .ok (.iload 8, 2) := dk_21 8 (dk_at dksX4_front_1 7 rfl rfl)
theorem dX4_front_33 : decode cX4_front 33 = .ok (.if_icmp .ne 28, 3) := dk_160 0 28 (dk_at dksX4_front_1 9 rfl rfl)
theorem dX4_front_36 : decode cX4_front 36 = .ok (.iload 6, 2) := dk_21 6 (dk_at dksX4_front_1 12 rfl rfl)
theorem dX4_front_38 : decode cX4_front 38 = .ok (.iload 7, 2) := dk_21 7 (dk_at dksX4_front_1 14 rfl rfl)
theorem dX4_front_40 : decode cX4_front 40 = .ok (.if_icmp .lt 6, 3) := dk_161 0 6 (dk_at dksX4_front_1 16 rfl rfl)
theorem dX4_front_43 : decode cX4_front 43 = .ok (.goto 72, 3) := dk_167 0 72 (dk_at dksX4_front_1 19 rfl rfl)
theorem dX4_front_46 : decode cX4_front 46 = .ok (.iload 8, 2) := dk_21 8 (dk_at dksX4_front_1 22 rfl rfl)
theorem dX4_front_48 : decode cX4_front 48 = .ok (.iconst 1, 1) := dk_4 (dk_at dksX4_front_2 0 rfl rfl)
theorem dX4_front_49 : decode cX4_front 49 = .ok (.ishl, 1) := dk_120 (dk_at dksX4_front_2 1 rfl rfl)
theorem dX4_front_50 : decode cX4_front 50 = .ok (.iconst 1, 1) := dk_4 (dk_at dksX4_front_2 2 rfl rfl)
theorem dX4_front_51 : decode cX4_front 51 = .ok (.iadd, 1) := dk_96 (dk_at dksX4_front_2 3 rfl rfl)
theorem dX4_front_52 : decode cX4_front 52 = .ok (.istore 8, 2) := dk_54 8 (dk_at dksX4_front_2 4 rfl rfl)
theorem dX4_front_54 : decode cX4_front 54 = .ok (.iload 6, 2) := dk_21 6 (dk_at dksX4_front_2 6 rfl rfl)
theorem dX4_front_56 : decode cX4_front 56 = .ok (.istore 9, 2) := dk_54 9 (dk_at dksX4_front_2 8 rfl rfl)
theorem dX4_front_58 : decode cX4_front 58 = .ok (.iconst (-1), 1) := dk_2 (dk_at dksX4_front_2 10 rfl rfl)
theorem dX4_front_59 : decode cX4_front 59 = .ok (.istore 6, 2) := dk_54 6 (dk_at dksX4_front_2 11 rfl rfl)
theorem dX4_front_61 : decode cX4_front 61 = .ok (.iload 4, 2) := dk_21 4 (dk_at dksX4_front_2 13 rfl rfl)
theorem dX4_front_63 : decode cX4_front 63 = .ok (.aload_n 0, 1) := dk_42 (dk_at dksX4_front_2 15 rfl rfl)
theorem dX4_front_64 : decode cX4_front 64 = .ok (.aload_n 1, 1) := dk_43 (dk_at dksX4_front_2 16 rfl rfl)
theorem dX4_front_65 : decode cX4_front 65 = .ok (.iload 9, 2) := dk_21 9 (dk_at dksX4_front_2 17 rfl rfl)
theorem dX4_front_67 : decode cX4_front 67 = .ok (.iaload, 1) := dk_46 (dk_at dksX4_front_2 19 rfl rfl)
theorem dX4_front_68 : decode cX4_front 68 = .ok (.iaload, 1) := dk_46 (dk_at dksX4_front_2 20 rfl rfl)
theorem dX4_front_69 : decode cX4_front 69 = .ok (.if_icmp .ne 40, 3) := dk_160 0 40 (dk_at dksX4_front_2 21 rfl rfl)
theorem dX4_front_72 : decode cX4_front 72 = .ok (.aload_n 3, 1) := dk_45 (dk_at dksX4_front_3 0 rfl rfl)
theorem dX4_front_73 : decode cX4_front 73 = .ok (.iload 5, 2) := dk_21 5 (dk_at dksX4_front_3 1 rfl rfl)
theorem dX4_front_75 : decode cX4_front 75 = .ok (.iinc 5 1, 3) := dk_132 5 1 (dk_at dksX4_front_3 3 rfl rfl)
theorem dX4_front_78 : decode cX4_front 78 = .ok (.aload_n 1, 1) := dk_43 (dk_at dksX4_front_3 6 rfl rfl)
theorem dX4_front_79 : decode cX4_front 79 = .ok (.iload 9, 2) := dk_21 9 (dk_at dksX4_front_3 7 rfl rfl)
theorem dX4_front_81 : decode cX4_front 81 = .ok (.iaload, 1) := dk_46 (dk_at dksX4_front_3 9 rfl rfl)
theorem dX4_front_82 : decode cX4_front 82 = .ok (.iastore, 1) := dk_79 (dk_at dksX4_front_3 10 rfl rfl)
theorem dX4_front_83 : decode cX4_front 83 = .ok (.iload 6, 2) := dk_21 6 (dk_at dksX4_front_3 11 rfl rfl)
theorem dX4_front_85 : decode cX4_front 85 = .ok (.iconst (-1), 1) := dk_2 (dk_at dksX4_front_3 13 rfl rfl)
theorem dX4_front_86 : decode cX4_front 86 = .ok (.if_icmp .ne 11, 3) := dk_160 0 11 (dk_at dksX4_front_3 14 rfl rfl)
theorem dX4_front_89 : decode cX4_front 89 = .ok (.iload 9, 2) := dk_21 9 (dk_at dksX4_front_3 17 rfl rfl)
theorem dX4_front_91 : decode cX4_front 91 = .ok (.iconst 2, 1) := dk_5 (dk_at dksX4_front_3 19 rfl rfl)
theorem dX4_front_92 : decode cX4_front 92 = .ok (.imul, 1) := dk_104 (dk_at dksX4_front_3 20 rfl rfl)
theorem dX4_front_93 : decode cX4_front 93 = .ok (.iconst 1, 1) := dk_4 (dk_at dksX4_front_3 21 rfl rfl)
theorem dX4_front_94 : decode cX4_front 94 = .ok (.iadd, 1) := dk_96 (dk_at dksX4_front_3 22 rfl rfl)
theorem dX4_front_95 : decode cX4_front 95 = .ok (.istore 6, 2) := dk_54 6 (dk_at dksX4_front_4 0 rfl rfl)
theorem dX4_front_97 : decode cX4_front 97 = .ok (.iload_n 2, 1) := dk_28 (dk_at dksX4_front_4 2 rfl rfl)
theorem dX4_front_98 : decode cX4_front 98 = .ok (.iload 9, 2) := dk_21 9 (dk_at dksX4_front_4 3 rfl rfl)
theorem dX4_front_100 : decode cX4_front 100 = .ok (.iconst 2, 1) := dk_5 (dk_at dksX4_front_4 5 rfl rfl)
theorem dX4_front_101 : decode cX4_front 101 = .ok (.imul, 1) := dk_104 (dk_at dksX4_front_4 6 rfl rfl)
theorem dX4_front_102 : decode cX4_front 102 = .ok (.iconst 3, 1) := dk_6 (dk_at dksX4_front_4 7 rfl rfl)
theorem dX4_front_103 : decode cX4_front 103 = .ok (.iadd, 1) := dk_96 (dk_at dksX4_front_4 8 rfl rfl)
theorem dX4_front_104 : decode cX4_front 104 = .ok (.invokestatic 7, 3) := dk_184 0 7 (dk_at dksX4_front_4 9 rfl rfl)
theorem dX4_front_107 : decode cX4_front 107 = .ok (.istore 7, 2) := dk_54 7 (dk_at dksX4_front_4 12 rfl rfl)
theorem dX4_front_109 : decode cX4_front 109 = .ok (.iinc 9 1, 3) := dk_132 9 1 (dk_at dksX4_front_4 14 rfl rfl)
theorem dX4_front_112 : decode cX4_front 112 = .ok (.goto (-90), 3) := dk_167 255 166 (dk_at dksX4_front_4 17 rfl rfl)
theorem dX4_front_115 : decode cX4_front 115 = .ok (.iload 5, 2) := dk_21 5 (dk_at dksX4_front_4 20 rfl rfl)
theorem dX4_front_117 : decode cX4_front 117 = .ok (.ireturn, 1) := dk_172 (dk_at dksX4_front_4 22 rfl rfl)
abbrev cX4_front_2 : ByteArray := prog_4_method_5_code
def yX4_front_2 : MethodName := ⟨RX4, "front", "([I[II[ILIntComparator;)I"⟩
def dkwX4_front_2_4 : List UInt8 := [54, 8, 132, 10, 1, 167, 255, 177, 21, 6, 172]
abbrev dktX4_front_2_4 : List UInt8 := dkwX4_front_2_4 ++ []
def dkwX4_front_2_3 : List UInt8 := [21, 7, 2, 160, 0, 11, 21, 10, 5, 104, 4, 96, 54, 7, 28, 21, 10, 5, 104, 6, 96, 184, 0, 7]
abbrev dktX4_front_2_3 : List UInt8 := dkwX4_front_2_3 ++ dktX4_front_2_4
def dkwX4_front_2_2 : List UInt8 := [4, 120, 4, 96, 54, 9, 21, 7, 54, 10, 2, 54, 7, 45, 21, 6, 132, 6, 1, 43, 21, 10, 46, 79]
abbrev dktX4_front_2_2 : List UInt8 := dkwX4_front_2_2 ++ dktX4_front_2_3
def dkwX4_front_2_1 : List UInt8 := [21, 8, 162, 0, 78, 21, 10, 21, 9, 160, 0, 28, 21, 7, 21, 8, 161, 0, 6, 167, 0, 61, 21, 9]
abbrev dktX4_front_2_1 : List UInt8 := dkwX4_front_2_1 ++ dktX4_front_2_2
def dkwX4_front_2_0 : List UInt8 := [42, 43, 3, 46, 46, 54, 5, 3, 54, 6, 3, 54, 7, 4, 54, 8, 3, 54, 9, 3, 54, 10, 21, 10]
abbrev dktX4_front_2_0 : List UInt8 := dkwX4_front_2_0 ++ dktX4_front_2_1
theorem dksX4_front_2_0 : cX4_front_2.data.toList.drop 0 = dktX4_front_2_0 := by decide +kernel
theorem dksX4_front_2_1 : cX4_front_2.data.toList.drop 24 = dktX4_front_2_1 := dk_seg dksX4_front_2_0 24 rfl rfl
theorem dksX4_front_2_2 : cX4_front_2.data.toList.drop 48 = dktX4_front_2_2 := dk_seg dksX4_front_2_1 24 rfl rfl
theorem dksX4_front_2_3 : cX4_front_2.data.toList.drop 72 = dktX4_front_2_3 := dk_seg dksX4_front_2_2 24 rfl rfl
theorem dksX4_front_2_4 : cX4_front_2.data.toList.drop 96 = dktX4_front_2_4 := dk_seg dksX4_front_2_3 24 rfl rfl
theorem dX4_front_2_0 : decode cX4_front_2 0 = .ok (.aload_n 0, 1) := dk_42 (dk_at dksX4_front_2_0 0 rfl rfl)
theorem dX4_front_2_1 : decode cX4_front_2 1 = .ok (.aload_n 1, 1) := dk_43 (dk_at dksX4_front_2_0 1 rfl rfl)
theorem dX4_front_2_2 : decode cX4_front_2 2 = .ok (.iconst 0, 1) := dk_3 (dk_at dksX4_front_2_0 2 rfl rfl)
theorem dX4_front_2_3 : decode cX4_front_2 3 = .ok (.iaload, 1) := dk_46 (dk_at dksX4_front_2_0 3 rfl rfl)
theorem dX4_front_2_4 : decode cX4_front_2 4 = .ok (.iaload, 1) := dk_46 (dk_at dksX4_front_2_0 4 rfl rfl)
theorem dX4_front_2_5 : decode cX4_front_2 5 = .ok (.istore 5, 2) := dk_54 5 (dk_at dksX4_front_2_0 5 rfl rfl)
theorem dX4_front_2_7 : decode cX4_front_2 7 = .ok (.iconst 0, 1) := dk_3 (dk_at dksX4_front_2_0 7 rfl rfl)
theorem dX4_front_2_8 : decode cX4_front_2 8 = .ok (.istore 6, 2) := dk_54 6 (dk_at dksX4_front_2_0 8 rfl rfl)
theorem dX4_front_2_10 : decode cX4_front_2 10 = .ok (.iconst 0, 1) := dk_3 (dk_at dksX4_front_2_0 10 rfl rfl)
theorem dX4_front_2_11 : decode cX4_front_2 11 = .ok (.istore 7, 2) := dk_54 7 (dk_at dksX4_front_2_0 11 rfl rfl)
theorem dX4_front_2_13 : decode cX4_front_2 13 = .ok (.iconst 1, 1) := dk_4 (dk_at dksX4_front_2_0 13 rfl rfl)
theorem dX4_front_2_14 : decode cX4_front_2 14 = .ok (.istore 8, 2) := dk_54 8 (dk_at dksX4_front_2_0 14 rfl rfl)
theorem dX4_front_2_16 : decode cX4_front_2 16 = .ok (.iconst 0, 1) := dk_3 (dk_at dksX4_front_2_0 16 rfl rfl)
theorem dX4_front_2_17 : decode cX4_front_2 17 = .ok (.istore 9, 2) := dk_54 9 (dk_at dksX4_front_2_0 17 rfl rfl)
theorem dX4_front_2_19 : decode cX4_front_2 19 = .ok (.iconst 0, 1) := dk_3 (dk_at dksX4_front_2_0 19 rfl rfl)
theorem dX4_front_2_20 : decode cX4_front_2 20 = .ok (.istore 10, 2) := dk_54 10 (dk_at dksX4_front_2_0 20 rfl rfl)
theorem dX4_front_2_22 : decode cX4_front_2 22 = .ok (.iload 10, 2) := dk_21 10 (dk_at dksX4_front_2_0 22 rfl rfl)
theorem dX4_front_2_24 : decode cX4_front_2 24 = .ok (.iload 8, 2) := dk_21 8 (dk_at dksX4_front_2_1 0 rfl rfl)
theorem dX4_front_2_26 : decode cX4_front_2 26 = .ok (.if_icmp .ge 78, 3) := dk_162 0 78 (dk_at dksX4_front_2_1 2 rfl rfl)
theorem dX4_front_2_29 : decode cX4_front_2 29 = .ok (.iload 10, 2) := dk_21 10 (dk_at dksX4_front_2_1 5 rfl rfl)
theorem dX4_front_2_31 : decode cX4_front_2 31 = .ok (.iload 9, 2) := dk_21 9 (dk_at dksX4_front_2_1 7 rfl rfl)
theorem dX4_front_2_33 : decode cX4_front_2 33 = .ok (.if_icmp .ne 28, 3) := dk_160 0 28 (dk_at dksX4_front_2_1 9 rfl rfl)
theorem dX4_front_2_36 : decode cX4_front_2 36 = .ok (.iload 7, 2) := dk_21 7 (dk_at dksX4_front_2_1 12 rfl rfl)
theorem dX4_front_2_38 : decode cX4_front_2 38 = .ok (.iload 8, 2) := dk_21 8 (dk_at dksX4_front_2_1 14 rfl rfl)
theorem dX4_front_2_40 : decode cX4_front_2 40 = .ok (.if_icmp .lt 6, 3) := dk_161 0 6 (dk_at dksX4_front_2_1 16 rfl rfl)
theorem dX4_front_2_43 : decode cX4_front_2 43 = .ok (.goto 61, 3) := dk_167 0 61 (dk_at dksX4_front_2_1 19 rfl rfl)
theorem dX4_front_2_46 : decode cX4_front_2 46 = .ok (.iload 9, 2) := dk_21 9 (dk_at dksX4_front_2_1 22 rfl rfl)
theorem dX4_front_2_48 : decode cX4_front_2 48 = .ok (.iconst 1, 1) := dk_4 (dk_at dksX4_front_2_2 0 rfl rfl)
theorem dX4_front_2_49 : decode cX4_front_2 49 = .ok (.ishl, 1) := dk_120 (dk_at dksX4_front_2_2 1 rfl rfl)
theorem dX4_front_2_50 : decode cX4_front_2 50 = .ok (.iconst 1, 1) := dk_4 (dk_at dksX4_front_2_2 2 rfl rfl)
theorem dX4_front_2_51 : decode cX4_front_2 51 = .ok (.iadd, 1) := dk_96 (dk_at dksX4_front_2_2 3 rfl rfl)
theorem dX4_front_2_52 : decode cX4_front_2 52 = .ok (.istore 9, 2) := dk_54 9 (dk_at dksX4_front_2_2 4 rfl rfl)
theorem dX4_front_2_54 : decode cX4_front_2 54 = .ok (.iload 7, 2) := dk_21 7 (dk_at dksX4_front_2_2 6 rfl rfl)
theorem dX4_front_2_56 : decode cX4_front_2 56 = .ok (.istore 10, 2) := dk_54 10 (dk_at dksX4_front_2_2 8 rfl rfl)
theorem dX4_front_2_58 : decode cX4_front_2 58 = .ok (.iconst (-1), 1) := dk_2 (dk_at dksX4_front_2_2 10 rfl rfl)
theorem dX4_front_2_59 : decode cX4_front_2 59 = .ok (.istore 7, 2) := dk_54 7 (dk_at dksX4_front_2_2 11 rfl rfl)
theorem dX4_front_2_61 : decode cX4_front_2 61 = .ok (.aload_n 3, 1) := dk_45 (dk_at dksX4_front_2_2 13 rfl rfl)
theorem dX4_front_2_62 : decode cX4_front_2 62 = .ok (.iload 6, 2) := dk_21 6 (dk_at dksX4_front_2_2 14 rfl rfl)
theorem dX4_front_2_64 : decode cX4_front_2 64 = .ok (.iinc 6 1, 3) := dk_132 6 1 (dk_at dksX4_front_2_2 16 rfl rfl)
theorem dX4_front_2_67 : decode cX4_front_2 67 = .ok (.aload_n 1, 1) := dk_43 (dk_at dksX4_front_2_2 19 rfl rfl)
theorem dX4_front_2_68 : decode cX4_front_2 68 = .ok (.iload 10, 2) := dk_21 10 (dk_at dksX4_front_2_2 20 rfl rfl)
theorem dX4_front_2_70 : decode cX4_front_2 70 = .ok (.iaload, 1) := dk_46 (dk_at dksX4_front_2_2 22 rfl rfl)
theorem dX4_front_2_71 : decode cX4_front_2 71 = .ok (.iastore, 1) := dk_79 (dk_at dksX4_front_2_2 23 rfl rfl)
theorem dX4_front_2_72 : decode cX4_front_2 72 = .ok (.iload 7, 2) := dk_21 7 (dk_at dksX4_front_2_3 0 rfl rfl)
theorem dX4_front_2_74 : decode cX4_front_2 74 = .ok (.iconst (-1), 1) := dk_2 (dk_at dksX4_front_2_3 2 rfl rfl)
theorem dX4_front_2_75 : decode cX4_front_2 75 = .ok (.if_icmp .ne 11, 3) := dk_160 0 11 (dk_at dksX4_front_2_3 3 rfl rfl)
theorem dX4_front_2_78 : decode cX4_front_2 78 = .ok (.iload 10, 2) := dk_21 10 (dk_at dksX4_front_2_3 6 rfl rfl)
theorem dX4_front_2_80 : decode cX4_front_2 80 = .ok (.iconst 2, 1) := dk_5 (dk_at dksX4_front_2_3 8 rfl rfl)
theorem dX4_front_2_81 : decode cX4_front_2 81 = .ok (.imul, 1) := dk_104 (dk_at dksX4_front_2_3 9 rfl rfl)
theorem dX4_front_2_82 : decode cX4_front_2 82 = .ok (.iconst 1, 1) := dk_4 (dk_at dksX4_front_2_3 10 rfl rfl)
theorem dX4_front_2_83 : decode cX4_front_2 83 = .ok (.iadd, 1) := dk_96 (dk_at dksX4_front_2_3 11 rfl rfl)
theorem dX4_front_2_84 : decode cX4_front_2 84 = .ok (.istore 7, 2) := dk_54 7 (dk_at dksX4_front_2_3 12 rfl rfl)
theorem dX4_front_2_86 : decode cX4_front_2 86 = .ok (.iload_n 2, 1) := dk_28 (dk_at dksX4_front_2_3 14 rfl rfl)
theorem dX4_front_2_87 : decode cX4_front_2 87 = .ok (.iload 10, 2) := dk_21 10 (dk_at dksX4_front_2_3 15 rfl rfl)
theorem dX4_front_2_89 : decode cX4_front_2 89 = .ok (.iconst 2, 1) := dk_5 (dk_at dksX4_front_2_3 17 rfl rfl)
theorem dX4_front_2_90 : decode cX4_front_2 90 = .ok (.imul, 1) := dk_104 (dk_at dksX4_front_2_3 18 rfl rfl)
theorem dX4_front_2_91 : decode cX4_front_2 91 = .ok (.iconst 3, 1) := dk_6 (dk_at dksX4_front_2_3 19 rfl rfl)
theorem dX4_front_2_92 : decode cX4_front_2 92 = .ok (.iadd, 1) := dk_96 (dk_at dksX4_front_2_3 20 rfl rfl)
theorem dX4_front_2_93 : decode cX4_front_2 93 = .ok (.invokestatic 7, 3) := dk_184 0 7 (dk_at dksX4_front_2_3 21 rfl rfl)
theorem dX4_front_2_96 : decode cX4_front_2 96 = .ok (.istore 8, 2) := dk_54 8 (dk_at dksX4_front_2_4 0 rfl rfl)
theorem dX4_front_2_98 : decode cX4_front_2 98 = .ok (.iinc 10 1, 3) := dk_132 10 1 (dk_at dksX4_front_2_4 2 rfl rfl)
theorem dX4_front_2_101 : decode cX4_front_2 101 = .ok (.goto (-79), 3) := dk_167 255 177 (dk_at dksX4_front_2_4 5 rfl rfl)
theorem dX4_front_2_104 : decode cX4_front_2 104 = .ok (.iload 6, 2) := dk_21 6 (dk_at dksX4_front_2_4 8 rfl rfl)
theorem dX4_front_2_106 : decode cX4_front_2 106 = .ok (.ireturn, 1) := dk_172 (dk_at dksX4_front_2_4 10 rfl rfl)
theorem q13 : (Jvm.Cond.initialized "IntSemiIndirectHeaps") ∈ lw_all := lw_g (lw_at lw_m1 11 rfl) rfl
theorem q159 : (Jvm.Cond.static ({ cls := "IntSemiIndirectHeaps", name := "upHeap", desc := "([I[IIILIntComparator;)I" } : Jvm.MethodName)) ∈ lw_all := lw_g (lw_at lw_m1 157 rfl) rfl
theorem q160 : (Jvm.Cond.code ({ cls := "IntSemiIndirectHeaps", name := "upHeap", desc := "([I[IIILIntComparator;)I" } : Jvm.MethodName) prog_4_method_2_code (9 : Nat) (Option.some Jvm.ClassFile.FieldType.int)) ∈ lw_all := lw_g (lw_at lw_m1 158 rfl) rfl
theorem q203 : (Jvm.Cond.static ({ cls := "IntSemiIndirectHeaps", name := "downHeap", desc := "([I[IIILIntComparator;)I" } : Jvm.MethodName)) ∈ lw_all := lw_g (lw_at lw_m1 201 rfl) rfl
theorem q204 : (Jvm.Cond.code ({ cls := "IntSemiIndirectHeaps", name := "downHeap", desc := "([I[IIILIntComparator;)I" } : Jvm.MethodName) prog_4_method_1_code (10 : Nat) (Option.some Jvm.ClassFile.FieldType.int)) ∈ lw_all := lw_g (lw_at lw_m1 202 rfl) rfl
theorem q222 : (Jvm.Cond.static ({ cls := "IntSemiIndirectHeaps", name := "makeHeap", desc := "([I[IILIntComparator;)V" } : Jvm.MethodName)) ∈ lw_all := lw_g (lw_at lw_m1 220 rfl) rfl
theorem q223 : (Jvm.Cond.code ({ cls := "IntSemiIndirectHeaps", name := "makeHeap", desc := "([I[IILIntComparator;)V" } : Jvm.MethodName) prog_4_method_3_code (5 : Nat) (Option.none : Option Jvm.ClassFile.FieldType)) ∈ lw_all := lw_g (lw_at lw_m1 221 rfl) rfl
theorem q224 : (Jvm.Cond.methodLink "IntSemiIndirectHeaps" (1 : Nat) ({ cls := "IntSemiIndirectHeaps", name := "downHeap", desc := "([I[IIILIntComparator;)I" } : Jvm.MethodName)) ∈ lw_all := lw_g (lw_at lw_m1 222 rfl) rfl
theorem q234 : (Jvm.Cond.static ({ cls := "IntSemiIndirectHeaps", name := "front", desc := "([I[II[I)I" } : Jvm.MethodName)) ∈ lw_all := lw_g (lw_at lw_m1 232 rfl) rfl
theorem q235 : (Jvm.Cond.code ({ cls := "IntSemiIndirectHeaps", name := "front", desc := "([I[II[I)I" } : Jvm.MethodName) prog_4_method_4_code (10 : Nat) (Option.some Jvm.ClassFile.FieldType.int)) ∈ lw_all := lw_g (lw_at lw_m1 233 rfl) rfl
theorem q236 : (Jvm.Cond.methodLink "IntSemiIndirectHeaps" (7 : Nat) ({ cls := "java/lang/Math", name := "min", desc := "(II)I" } : Jvm.MethodName)) ∈ lw_all := lw_g (lw_at lw_m1 234 rfl) rfl
theorem q240 : (Jvm.Cond.static ({ cls := "IntSemiIndirectHeaps", name := "front", desc := "([I[II[ILIntComparator;)I" } : Jvm.MethodName)) ∈ lw_all := lw_g (lw_at lw_m1 238 rfl) rfl
theorem q241 : (Jvm.Cond.code ({ cls := "IntSemiIndirectHeaps", name := "front", desc := "([I[II[ILIntComparator;)I" } : Jvm.MethodName) prog_4_method_5_code (11 : Nat) (Option.some Jvm.ClassFile.FieldType.int)) ∈ lw_all := lw_g (lw_at lw_m1 239 rfl) rfl
/-! IntHeapSemiIndirectPriorityQueue -/
set_option maxRecDepth 100000
def RX1 : String := "IntHeapSemiIndirectPriorityQueue"
def TX1 : u_T := fun k => match k with
  | 0 => ("IntHeapSemiIndirectPriorityQueue", "refArray", "[I", true)
  | 1 => ("IntHeapSemiIndirectPriorityQueue", "heap", "[I", false)
  | 2 => ("IntHeapSemiIndirectPriorityQueue", "size", "I", false)
  | _ => ("IntHeapSemiIndirectPriorityQueue", "c", "LIntComparator;", false)
def tyX1 : Nat → FieldType := fun k => match k with
  | 0 => .array .int
  | 1 => .array .int
  | 2 => .int
  | _ => .object "IntComparator"
abbrev wsX10 : List Cond := u_ws RX1 TX1 4
theorem nmX1 : ∀ a, a < 4 → ∀ b, b < 4 → a ≠ b → (TX1 a).2.1 ≠ (TX1 b).2.1 := by decide +kernel
theorem tyX1_ok : ∀ k, k < 4 → parseFieldDescriptor (TX1 k).2.2.1 = some (tyX1 k) := by decide +kernel
abbrev cX1_init : ByteArray := prog_3_method_2_code
def yX1_init : MethodName := ⟨RX1, "<init>", "([I)V"⟩
def dkwX1_init_0 : List UInt8 := [42, 43, 43, 190, 1, 183, 0, 25, 177]
abbrev dktX1_init_0 : List UInt8 := dkwX1_init_0 ++ []
theorem dksX1_init_0 : cX1_init.data.toList.drop 0 = dktX1_init_0 := by decide +kernel
theorem dX1_init_0 : decode cX1_init 0 = .ok (.aload_n 0, 1) := dk_42 (dk_at dksX1_init_0 0 rfl rfl)
theorem dX1_init_1 : decode cX1_init 1 = .ok (.aload_n 1, 1) := dk_43 (dk_at dksX1_init_0 1 rfl rfl)
theorem dX1_init_2 : decode cX1_init 2 = .ok (.aload_n 1, 1) := dk_43 (dk_at dksX1_init_0 2 rfl rfl)
theorem dX1_init_3 : decode cX1_init 3 = .ok (.arraylength, 1) := dk_190 (dk_at dksX1_init_0 3 rfl rfl)
theorem dX1_init_4 : decode cX1_init 4 = .ok (.aconst_null, 1) := dk_1 (dk_at dksX1_init_0 4 rfl rfl)
theorem dX1_init_5 : decode cX1_init 5 = .ok (.invokespecial 25, 3) := dk_183 0 25 (dk_at dksX1_init_0 5 rfl rfl)
theorem dX1_init_8 : decode cX1_init 8 = .ok (.return_, 1) := dk_177 (dk_at dksX1_init_0 8 rfl rfl)
abbrev cX1_init_2 : ByteArray := prog_3_method_1_code
def yX1_init_2 : MethodName := ⟨RX1, "<init>", "([IILIntComparator;)V"⟩
def dkwX1_init_2_1 : List UInt8 := [181, 0, 18, 42, 45, 181, 0, 21, 177]
abbrev dktX1_init_2_1 : List UInt8 := dkwX1_init_2_1 ++ []
def dkwX1_init_2_0 : List UInt8 := [42, 183, 0, 1, 42, 178, 0, 7, 181, 0, 13, 28, 158, 0, 10, 42, 28, 188, 10, 181, 0, 13, 42, 43]
abbrev dktX1_init_2_0 : List UInt8 := dkwX1_init_2_0 ++ dktX1_init_2_1
theorem dksX1_init_2_0 : cX1_init_2.data.toList.drop 0 = dktX1_init_2_0 := by decide +kernel
theorem dksX1_init_2_1 : cX1_init_2.data.toList.drop 24 = dktX1_init_2_1 := dk_seg dksX1_init_2_0 24 rfl rfl
theorem dX1_init_2_0 : decode cX1_init_2 0 = .ok (.aload_n 0, 1) := dk_42 (dk_at dksX1_init_2_0 0 rfl rfl)
theorem dX1_init_2_1 : decode cX1_init_2 1 = .ok (.invokespecial 1, 3) := dk_183 0 1 (dk_at dksX1_init_2_0 1 rfl rfl)
theorem dX1_init_2_4 : decode cX1_init_2 4 = .ok (.aload_n 0, 1) := dk_42 (dk_at dksX1_init_2_0 4 rfl rfl)
theorem dX1_init_2_5 : decode cX1_init_2 5 = .ok (.getstatic 7, 3) := dk_178 0 7 (dk_at dksX1_init_2_0 5 rfl rfl)
theorem dX1_init_2_8 : decode cX1_init_2 8 = .ok (.putfield 13, 3) := dk_181 0 13 (dk_at dksX1_init_2_0 8 rfl rfl)
theorem dX1_init_2_11 : decode cX1_init_2 11 = .ok (.iload_n 2, 1) := dk_28 (dk_at dksX1_init_2_0 11 rfl rfl)
theorem dX1_init_2_12 : decode cX1_init_2 12 = .ok (.ifCond .le 10, 3) := dk_158 0 10 (dk_at dksX1_init_2_0 12 rfl rfl)
theorem dX1_init_2_15 : decode cX1_init_2 15 = .ok (.aload_n 0, 1) := dk_42 (dk_at dksX1_init_2_0 15 rfl rfl)
theorem dX1_init_2_16 : decode cX1_init_2 16 = .ok (.iload_n 2, 1) := dk_28 (dk_at dksX1_init_2_0 16 rfl rfl)
theorem dX1_init_2_17 : decode cX1_init_2 17 = .ok (.newarray .int, 2) := dk_188_10 (dk_at dksX1_init_2_0 17 rfl rfl)
theorem dX1_init_2_19 : decode cX1_init_2 19 = .ok (.putfield 13, 3) := dk_181 0 13 (dk_at dksX1_init_2_0 19 rfl rfl)
theorem dX1_init_2_22 : decode cX1_init_2 22 = .ok (.aload_n 0, 1) := dk_42 (dk_at dksX1_init_2_0 22 rfl rfl)
theorem dX1_init_2_23 : decode cX1_init_2 23 = .ok (.aload_n 1, 1) := dk_43 (dk_at dksX1_init_2_0 23 rfl rfl)
theorem dX1_init_2_24 : decode cX1_init_2 24 = .ok (.putfield 18, 3) := dk_181 0 18 (dk_at dksX1_init_2_1 0 rfl rfl)
theorem dX1_init_2_27 : decode cX1_init_2 27 = .ok (.aload_n 0, 1) := dk_42 (dk_at dksX1_init_2_1 3 rfl rfl)
theorem dX1_init_2_28 : decode cX1_init_2 28 = .ok (.aload_n 3, 1) := dk_45 (dk_at dksX1_init_2_1 4 rfl rfl)
theorem dX1_init_2_29 : decode cX1_init_2 29 = .ok (.putfield 21, 3) := dk_181 0 21 (dk_at dksX1_init_2_1 5 rfl rfl)
theorem dX1_init_2_32 : decode cX1_init_2 32 = .ok (.return_, 1) := dk_177 (dk_at dksX1_init_2_1 8 rfl rfl)
abbrev cX1_enqueue : ByteArray := prog_3_method_4_code
def yX1_enqueue : MethodName := ⟨RX1, "enqueue", "(I)V"⟩
def dkwX1_enqueue_3 : List UInt8 := [180, 0, 21, 184, 0, 47, 87, 177]
abbrev dktX1_enqueue_3 : List UInt8 := dkwX1_enqueue_3 ++ []
def dkwX1_enqueue_2 : List UInt8 := [181, 0, 39, 27, 79, 42, 180, 0, 18, 42, 180, 0, 13, 42, 180, 0, 39, 42, 180, 0, 39, 4, 100, 42]
abbrev dktX1_enqueue_2 : List UInt8 := dkwX1_enqueue_2 ++ dktX1_enqueue_3
def dkwX1_enqueue_1 : List UInt8 := [180, 0, 39, 4, 96, 184, 0, 43, 181, 0, 13, 42, 180, 0, 13, 42, 89, 180, 0, 39, 90, 4, 96]
abbrev dktX1_enqueue_1 : List UInt8 := dkwX1_enqueue_1 ++ dktX1_enqueue_2
def dkwX1_enqueue_0 : List UInt8 := [42, 27, 182, 0, 35, 42, 180, 0, 39, 42, 180, 0, 13, 190, 160, 0, 20, 42, 42, 180, 0, 13, 42]
abbrev dktX1_enqueue_0 : List UInt8 := dkwX1_enqueue_0 ++ dktX1_enqueue_1
theorem dksX1_enqueue_0 : cX1_enqueue.data.toList.drop 0 = dktX1_enqueue_0 := by decide +kernel
theorem dksX1_enqueue_1 : cX1_enqueue.data.toList.drop 23 = dktX1_enqueue_1 := dk_seg dksX1_enqueue_0 23 rfl rfl
theorem dksX1_enqueue_2 : cX1_enqueue.data.toList.drop 46 = dktX1_enqueue_2 := dk_seg dksX1_enqueue_1 23 rfl rfl
theorem dksX1_enqueue_3 : cX1_enqueue.data.toList.drop 70 = dktX1_enqueue_3 := dk_seg dksX1_enqueue_2 24 rfl rfl
theorem dX1_enqueue_0 : decode cX1_enqueue 0 = .ok (.aload_n 0, 1) := dk_42 (dk_at dksX1_enqueue_0 0 rfl rfl)
theorem dX1_enqueue_1 : decode cX1_enqueue 1 = .ok (.iload_n 1, 1) := dk_27 (dk_at dksX1_enqueue_0 1 rfl rfl)
theorem dX1_enqueue_2 : decode cX1_enqueue 2 = .ok (.invokevirtual 35, 3) := dk_182 0 35 (dk_at dksX1_enqueue_0 2 rfl rfl)
theorem dX1_enqueue_5 : decode cX1_enqueue 5 = .ok (.aload_n 0, 1) := dk_42 (dk_at dksX1_enqueue_0 5 rfl rfl)
theorem dX1_enqueue_6 : decode cX1_enqueue 6 = .ok (.getfield 39, 3) := dk_180 0 39 (dk_at dksX1_enqueue_0 6 rfl rfl)
theorem dX1_enqueue_9 : decode cX1_enqueue 9 = .ok (.aload_n 0, 1) := dk_42 (dk_at dksX1_enqueue_0 9 rfl rfl)
theorem dX1_enqueue_10 : decode cX1_enqueue 10 = .ok (.getfield 13, 3) := dk_180 0 13 (dk_at dksX1_enqueue_0 10 rfl rfl)
theorem dX1_enqueue_13 : decode cX1_enqueue 13 = .ok (.arraylength, 1) := dk_190 (dk_at dksX1_enqueue_0 13 rfl rfl)
theorem dX1_enqueue_14 : decode cX1_enqueue 14 = .ok (.if_icmp .ne 20, 3) := dk_160 0 20 (dk_at dksX1_enqueue_0 14 rfl rfl)
theorem dX1_enqueue_17 : decode cX1_enqueue 17 = .ok (.aload_n 0, 1) := dk_42 (dk_at dksX1_enqueue_0 17 rfl rfl)
theorem dX1_enqueue_18 : decode cX1_enqueue 18 = .ok (.aload_n 0, 1) := dk_42 (dk_at dksX1_enqueue_0 18 rfl rfl)
theorem dX1_enqueue_19 : decode cX1_enqueue 19 = .ok (.getfield 13, 3) := dk_180 0 13 (dk_at dksX1_enqueue_0 19 rfl rfl)
theorem dX1_enqueue_22 : decode cX1_enqueue 22 = .ok (.aload_n 0, 1) := dk_42 (dk_at dksX1_enqueue_0 22 rfl rfl)
theorem dX1_enqueue_23 : decode cX1_enqueue 23 = .ok (.getfield 39, 3) := dk_180 0 39 (dk_at dksX1_enqueue_1 0 rfl rfl)
theorem dX1_enqueue_26 : decode cX1_enqueue 26 = .ok (.iconst 1, 1) := dk_4 (dk_at dksX1_enqueue_1 3 rfl rfl)
theorem dX1_enqueue_27 : decode cX1_enqueue 27 = .ok (.iadd, 1) := dk_96 (dk_at dksX1_enqueue_1 4 rfl rfl)
theorem dX1_enqueue_28 : decode cX1_enqueue 28 = .ok (.invokestatic 43, 3) := dk_184 0 43 (dk_at dksX1_enqueue_1 5 rfl rfl)
theorem dX1_enqueue_31 : decode cX1_enqueue 31 = .ok (.putfield 13, 3) := dk_181 0 13 (dk_at dksX1_enqueue_1 8 rfl rfl)
theorem dX1_enqueue_34 : decode cX1_enqueue 34 = .ok (.aload_n 0, 1) := dk_42 (dk_at dksX1_enqueue_1 11 rfl rfl)
theorem dX1_enqueue_35 : decode cX1_enqueue 35 = .ok (.getfield 13, 3) := dk_180 0 13 (dk_at dksX1_enqueue_1 12 rfl rfl)
theorem dX1_enqueue_38 : decode cX1_enqueue 38 = .ok (.aload_n 0, 1) := dk_42 (dk_at dksX1_enqueue_1 15 rfl rfl)
theorem dX1_enqueue_39 : decode cX1_enqueue 39 = .ok (.dup, 1) := dk_89 (dk_at dksX1_enqueue_1 16 rfl rfl)
theorem dX1_enqueue_40 : decode cX1_enqueue 40 = .ok (.getfield 39, 3) := dk_180 0 39 (dk_at dksX1_enqueue_1 17 rfl rfl)
theorem dX1_enqueue_43 : decode cX1_enqueue 43 = .ok (.dup_x1, 1) := dk_90 (dk_at dksX1_enqueue_1 20 rfl rfl)
theorem dX1_enqueue_44 : decode cX1_enqueue 44 = .ok (.iconst 1, 1) := dk_4 (dk_at dksX1_enqueue_1 21 rfl rfl)
theorem dX1_enqueue_45 : decode cX1_enqueue 45 = .ok (.iadd, 1) := dk_96 (dk_at dksX1_enqueue_1 22 rfl rfl)
theorem dX1_enqueue_46 : decode cX1_enqueue 46 = .ok (.putfield 39, 3) := dk_181 0 39 (dk_at dksX1_enqueue_2 0 rfl rfl)
theorem dX1_enqueue_49 : decode cX1_enqueue 49 = .ok (.iload_n 1, 1) := dk_27 (dk_at dksX1_enqueue_2 3 rfl rfl)
theorem dX1_enqueue_50 : decode cX1_enqueue 50 = .ok (.iastore, 1) := dk_79 (dk_at dksX1_enqueue_2 4 rfl rfl)
theorem dX1_enqueue_51 : decode cX1_enqueue 51 = .ok (.aload_n 0, 1) := dk_42 (dk_at dksX1_enqueue_2 5 rfl rfl)
theorem dX1_enqueue_52 : decode cX1_enqueue 52 = .ok (.getfield 18, 3) := dk_180 0 18 (dk_at dksX1_enqueue_2 6 rfl rfl)
theorem dX1_enqueue_55 : decode cX1_enqueue 55 = .ok (.aload_n 0, 1) := dk_42 (dk_at dksX1_enqueue_2 9 rfl rfl)
theorem dX1_enqueue_56 : decode cX1_enqueue 56 = .ok (.getfield 13, 3) := dk_180 0 13 (dk_at dksX1_enqueue_2 10 rfl rfl)
theorem dX1_enqueue_59 : decode cX1_enqueue 59 = .ok (.aload_n 0, 1) := dk_42 (dk_at dksX1_enqueue_2 13 rfl rfl)
theorem dX1_enqueue_60 : decode cX1_enqueue 60 = .ok (.getfield 39, 3) := dk_180 0 39 (dk_at dksX1_enqueue_2 14 rfl rfl)
theorem dX1_enqueue_63 : decode cX1_enqueue 63 = .ok (.aload_n 0, 1) := dk_42 (dk_at dksX1_enqueue_2 17 rfl rfl)
theorem dX1_enqueue_64 : decode cX1_enqueue 64 = .ok (.getfield 39, 3) := dk_180 0 39 (dk_at dksX1_enqueue_2 18 rfl rfl)
theorem dX1_enqueue_67 : decode cX1_enqueue 67 = .ok (.iconst 1, 1) := dk_4 (dk_at dksX1_enqueue_2 21 rfl rfl)
theorem dX1_enqueue_68 : decode cX1_enqueue 68 = .ok (.isub, 1) := dk_100 (dk_at dksX1_enqueue_2 22 rfl rfl)
theorem dX1_enqueue_69 : decode cX1_enqueue 69 = .ok (.aload_n 0, 1) := dk_42 (dk_at dksX1_enqueue_2 23 rfl rfl)
theorem dX1_enqueue_70 : decode cX1_enqueue 70 = .ok (.getfield 21, 3) := dk_180 0 21 (dk_at dksX1_enqueue_3 0 rfl rfl)
theorem dX1_enqueue_73 : decode cX1_enqueue 73 = .ok (.invokestatic 47, 3) := dk_184 0 47 (dk_at dksX1_enqueue_3 3 rfl rfl)
theorem dX1_enqueue_76 : decode cX1_enqueue 76 = .ok (.pop, 1) := dk_87 (dk_at dksX1_enqueue_3 6 rfl rfl)
theorem dX1_enqueue_77 : decode cX1_enqueue 77 = .ok (.return_, 1) := dk_177 (dk_at dksX1_enqueue_3 7 rfl rfl)
abbrev cX1_ensureElement : ByteArray := prog_3_method_3_code
def yX1_ensureElement : MethodName := ⟨RX1, "ensureElement", "(I)V"⟩
def dkwX1_ensureElement_1 : List UInt8 := [187, 0, 28, 89, 18, 30, 183, 0, 32, 191, 177]
abbrev dktX1_ensureElement_1 : List UInt8 := dkwX1_ensureElement_1 ++ []
def dkwX1_ensureElement_0 : List UInt8 := [27, 156, 0, 13, 187, 0, 28, 89, 18, 30, 183, 0, 32, 191, 27, 42, 180, 0, 18, 190, 161, 0, 13]
abbrev dktX1_ensureElement_0 : List UInt8 := dkwX1_ensureElement_0 ++ dktX1_ensureElement_1
theorem dksX1_ensureElement_0 : cX1_ensureElement.data.toList.drop 0 = dktX1_ensureElement_0 := by decide +kernel
theorem dksX1_ensureElement_1 : cX1_ensureElement.data.toList.drop 23 = dktX1_ensureElement_1 := dk_seg dksX1_ensureElement_0 23 rfl rfl
theorem dX1_ensureElement_0 : decode cX1_ensureElement 0 = .ok (.iload_n 1, 1) := dk_27 (dk_at dksX1_ensureElement_0 0 rfl rfl)
theorem dX1_ensureElement_1 : decode cX1_ensureElement 1 = .ok (.ifCond .ge 13, 3) := dk_156 0 13 (dk_at dksX1_ensureElement_0 1 rfl rfl)
theorem dX1_ensureElement_4 : decode cX1_ensureElement 4 = .ok (.new 28, 3) := dk_187 0 28 (dk_at dksX1_ensureElement_0 4 rfl rfl)
theorem dX1_ensureElement_7 : decode cX1_ensureElement 7 = .ok (.dup, 1) := dk_89 (dk_at dksX1_ensureElement_0 7 rfl rfl)
theorem dX1_ensureElement_8 : decode cX1_ensureElement 8 = .ok (.ldc 30, 2) := dk_18 30 (dk_at dksX1_ensureElement_0 8 rfl rfl)
theorem dX1_ensureElement_10 : decode cX1_ensureElement 10 = .ok (.invokespecial 32, 3) := dk_183 0 32 (dk_at dksX1_ensureElement_0 10 rfl rfl)
theorem dX1_ensureElement_13 : decode cX1_ensureElement 13 = .ok (.athrow, 1) := dk_191 (dk_at dksX1_ensureElement_0 13 rfl rfl)
theorem dX1_ensureElement_14 : decode cX1_ensureElement 14 = .ok (.iload_n 1, 1) := dk_27 (dk_at dksX1_ensureElement_0 14 rfl rfl)
theorem dX1_ensureElement_15 : decode cX1_ensureElement 15 = .ok (.aload_n 0, 1) := dk_42 (dk_at dksX1_ensureElement_0 15 rfl rfl)
theorem dX1_ensureElement_16 : decode cX1_ensureElement 16 = .ok (.getfield 18, 3) := dk_180 0 18 (dk_at dksX1_ensureElement_0 16 rfl rfl)
theorem dX1_ensureElement_19 : decode cX1_ensureElement 19 = .ok (.arraylength, 1) := dk_190 (dk_at dksX1_ensureElement_0 19 rfl rfl)
theorem dX1_ensureElement_20 : decode cX1_ensureElement 20 = .ok (.if_icmp .lt 13, 3) := dk_161 0 13 (dk_at dksX1_ensureElement_0 20 rfl rfl)
theorem dX1_ensureElement_23 : decode cX1_ensureElement 23 = .ok (.new 28, 3) := dk_187 0 28 (dk_at dksX1_ensureElement_1 0 rfl rfl)
theorem dX1_ensureElement_26 : decode cX1_ensureElement 26 = .ok (.dup, 1) := dk_89 (dk_at dksX1_ensureElement_1 3 rfl rfl)
theorem dX1_ensureElement_27 : decode cX1_ensureElement 27 = .ok (.ldc 30, 2) := dk_18 30 (dk_at dksX1_ensureElement_1 4 rfl rfl)
theorem dX1_ensureElement_29 : decode cX1_ensureElement 29 = .ok (.invokespecial 32, 3) := dk_183 0 32 (dk_at dksX1_ensureElement_1 6 rfl rfl)
theorem dX1_ensureElement_32 : decode cX1_ensureElement 32 = .ok (.athrow, 1) := dk_191 (dk_at dksX1_ensureElement_1 9 rfl rfl)
theorem dX1_ensureElement_33 : decode cX1_ensureElement 33 = .ok (.return_, 1) := dk_177 (dk_at dksX1_ensureElement_1 10 rfl rfl)
abbrev cX1_size : ByteArray := prog_3_method_9_code
def yX1_size : MethodName := ⟨RX1, "size", "()I"⟩
theorem dX1_size_0 : decode cX1_size 0 = .ok (.aload_n 0, 1) := by decide +kernel
theorem dX1_size_1 : decode cX1_size 1 = .ok (.getfield 39, 3) := by decide +kernel
theorem dX1_size_4 : decode cX1_size 4 = .ok (.ireturn, 1) := by decide +kernel
abbrev cX1_first : ByteArray := prog_3_method_6_code
def yX1_first : MethodName := ⟨RX1, "first", "()I"⟩
def dkwX1_first_0 : List UInt8 := [42, 180, 0, 39, 154, 0, 11, 187, 0, 53, 89, 183, 0, 55, 191, 42, 180, 0, 13, 3, 46, 172]
abbrev dktX1_first_0 : List UInt8 := dkwX1_first_0 ++ []
theorem dksX1_first_0 : cX1_first.data.toList.drop 0 = dktX1_first_0 := by decide +kernel
theorem dX1_first_0 : decode cX1_first 0 = .ok (.aload_n 0, 1) := dk_42 (dk_at dksX1_first_0 0 rfl rfl)
theorem dX1_first_1 : decode cX1_first 1 = .ok (.getfield 39, 3) := dk_180 0 39 (dk_at dksX1_first_0 1 rfl rfl)
theorem dX1_first_4 : decode cX1_first 4 = .ok (.ifCond .ne 11, 3) := dk_154 0 11 (dk_at dksX1_first_0 4 rfl rfl)
theorem dX1_first_7 : decode cX1_first 7 = .ok (.new 53, 3) := dk_187 0 53 (dk_at dksX1_first_0 7 rfl rfl)
theorem dX1_first_10 : decode cX1_first 10 = .ok (.dup, 1) := dk_89 (dk_at dksX1_first_0 10 rfl rfl)
theorem dX1_first_11 : decode cX1_first 11 = .ok (.invokespecial 55, 3) := dk_183 0 55 (dk_at dksX1_first_0 11 rfl rfl)
theorem dX1_first_14 : decode cX1_first 14 = .ok (.athrow, 1) := dk_191 (dk_at dksX1_first_0 14 rfl rfl)
theorem dX1_first_15 : decode cX1_first 15 = .ok (.aload_n 0, 1) := dk_42 (dk_at dksX1_first_0 15 rfl rfl)
theorem dX1_first_16 : decode cX1_first 16 = .ok (.getfield 13, 3) := dk_180 0 13 (dk_at dksX1_first_0 16 rfl rfl)
theorem dX1_first_19 : decode cX1_first 19 = .ok (.iconst 0, 1) := dk_3 (dk_at dksX1_first_0 19 rfl rfl)
theorem dX1_first_20 : decode cX1_first 20 = .ok (.iaload, 1) := dk_46 (dk_at dksX1_first_0 20 rfl rfl)
theorem dX1_first_21 : decode cX1_first 21 = .ok (.ireturn, 1) := dk_172 (dk_at dksX1_first_0 21 rfl rfl)
abbrev cX1_dequeue : ByteArray := prog_3_method_5_code
def yX1_dequeue : MethodName := ⟨RX1, "dequeue", "()I"⟩
def dkwX1_dequeue_3 : List UInt8 := [184, 0, 56, 87, 27, 172]
abbrev dktX1_dequeue_3 : List UInt8 := dkwX1_dequeue_3 ++ []
def dkwX1_dequeue_2 : List UInt8 := [180, 0, 39, 153, 0, 24, 42, 180, 0, 18, 42, 180, 0, 13, 42, 180, 0, 39, 3, 42, 180, 0, 21]
abbrev dktX1_dequeue_2 : List UInt8 := dkwX1_dequeue_2 ++ dktX1_dequeue_3
def dkwX1_dequeue_1 : List UInt8 := [180, 0, 13, 3, 42, 180, 0, 13, 42, 89, 180, 0, 39, 4, 100, 90, 181, 0, 39, 46, 79, 42]
abbrev dktX1_dequeue_1 : List UInt8 := dkwX1_dequeue_1 ++ dktX1_dequeue_2
def dkwX1_dequeue_0 : List UInt8 := [42, 180, 0, 39, 154, 0, 11, 187, 0, 53, 89, 183, 0, 55, 191, 42, 180, 0, 13, 3, 46, 60, 42]
abbrev dktX1_dequeue_0 : List UInt8 := dkwX1_dequeue_0 ++ dktX1_dequeue_1
theorem dksX1_dequeue_0 : cX1_dequeue.data.toList.drop 0 = dktX1_dequeue_0 := by decide +kernel
theorem dksX1_dequeue_1 : cX1_dequeue.data.toList.drop 23 = dktX1_dequeue_1 := dk_seg dksX1_dequeue_0 23 rfl rfl
theorem dksX1_dequeue_2 : cX1_dequeue.data.toList.drop 45 = dktX1_dequeue_2 := dk_seg dksX1_dequeue_1 22 rfl rfl
theorem dksX1_dequeue_3 : cX1_dequeue.data.toList.drop 68 = dktX1_dequeue_3 := dk_seg dksX1_dequeue_2 23 rfl rfl
theorem dX1_dequeue_0 : decode cX1_dequeue 0 = .ok (.aload_n 0, 1) := dk_42 (dk_at dksX1_dequeue_0 0 rfl rfl)
theorem dX1_dequeue_1 : decode cX1_dequeue 1 = .ok (.getfield 39, 3) := dk_180 0 39 (dk_at dksX1_dequeue_0 1 rfl rfl)
theorem dX1_dequeue_4 : decode cX1_dequeue 4 = .ok (.ifCond .ne 11, 3) := dk_154 0 11 (dk_at dksX1_dequeue_0 4 rfl rfl)
theorem dX1_dequeue_7 : decode cX1_dequeue 7 = .ok (.new 53, 3) := dk_187 0 53 (dk_at dksX1_dequeue_0 7 rfl rfl)
theorem dX1_dequeue_10 : decode cX1_dequeue 10 = .ok (.dup, 1) := dk_89 (dk_at dksX1_dequeue_0 10 rfl rfl)
theorem dX1_dequeue_11 : decode cX1_dequeue 11 = .ok (.invokespecial 55, 3) := dk_183 0 55 (dk_at dksX1_dequeue_0 11 rfl rfl)
theorem dX1_dequeue_14 : decode cX1_dequeue 14 = .ok (.athrow, 1) := dk_191 (dk_at dksX1_dequeue_0 14 rfl rfl)
theorem dX1_dequeue_15 : decode cX1_dequeue 15 = .ok (.aload_n 0, 1) := dk_42 (dk_at dksX1_dequeue_0 15 rfl rfl)
theorem dX1_dequeue_16 : decode cX1_dequeue 16 = .ok (.getfield 13, 3) := dk_180 0 13 (dk_at dksX1_dequeue_0 16 rfl rfl)
theorem dX1_dequeue_19 : decode cX1_dequeue 19 = .ok (.iconst 0, 1) := dk_3 (dk_at dksX1_dequeue_0 19 rfl rfl)
theorem dX1_dequeue_20 : decode cX1_dequeue 20 = .ok (.iaload, 1) := dk_46 (dk_at dksX1_dequeue_0 20 rfl rfl)
theorem dX1_dequeue_21 : decode cX1_dequeue 21 = .ok (.istore_n 1, 1) := dk_60 (dk_at dksX1_dequeue_0 21 rfl rfl)
theorem dX1_dequeue_22 : decode cX1_dequeue 22 = .ok (.aload_n 0, 1) := dk_42 (dk_at dksX1_dequeue_0 22 rfl rfl)
theorem dX1_dequeue_23 : decode cX1_dequeue 23 = .ok (.getfield 13, 3) := dk_180 0 13 (dk_at dksX1_dequeue_1 0 rfl rfl)
theorem dX1_dequeue_26 : decode cX1_dequeue 26 = .ok (.iconst 0, 1) := dk_3 (dk_at dksX1_dequeue_1 3 rfl rfl)
theorem dX1_dequeue_27 : decode cX1_dequeue 27 = .ok (.aload_n 0, 1) := dk_42 (dk_at dksX1_dequeue_1 4 rfl rfl)
theorem dX1_dequeue_28 : decode cX1_dequeue 28 = .ok (.getfield 13, 3) := dk_180 0 13 (dk_at dksX1_dequeue_1 5 rfl rfl)
theorem dX1_dequeue_31 : decode cX1_dequeue 31 = .ok (.aload_n 0, 1) := dk_42 (dk_at dksX1_dequeue_1 8 rfl rfl)
theorem dX1_dequeue_32 : decode cX1_dequeue 32 = .ok (.dup, 1) := dk_89 (dk_at dksX1_dequeue_1 9 rfl rfl)
theorem dX1_dequeue_33 : decode cX1_dequeue 33 = .ok (.getfield 39, 3) := dk_180 0 39 (dk_at dksX1_dequeue_1 10 rfl rfl)
theorem dX1_dequeue_36 : decode cX1_dequeue 36 = .ok (.iconst 1, 1) := dk_4 (dk_at dksX1_dequeue_1 13 rfl rfl)
theorem dX1_dequeue_37 : decode cX1_dequeue 37 = .ok (.isub, 1) := dk_100 (dk_at dksX1_dequeue_1 14 rfl rfl)
theorem dX1_dequeue_38 : decode cX1_dequeue 38 = .ok (.dup_x1, 1) := dk_90 (dk_at dksX1_dequeue_1 15 rfl rfl)
theorem dX1_dequeue_39 : decode cX1_dequeue 39 = .ok (.putfield 39, 3) := dk_181 0 39 (dk_at dksX1_dequeue_1 16 rfl rfl)
theorem dX1_dequeue_42 : decode cX1_dequeue 42 = .ok (.iaload, 1) := dk_46 (dk_at dksX1_dequeue_1 19 rfl rfl)
theorem dX1_dequeue_43 : decode cX1_dequeue 43 = .ok (.iastore, 1) := dk_79 (dk_at dksX1_dequeue_1 20 rfl rfl)
theorem dX1_dequeue_44 : decode cX1_dequeue 44 = .ok (.aload_n 0, 1) := dk_42 (dk_at dksX1_dequeue_1 21 rfl rfl)
theorem dX1_dequeue_45 : decode cX1_dequeue 45 = .ok (.getfield 39, 3) := dk_180 0 39 (dk_at dksX1_dequeue_2 0 rfl rfl)
theorem dX1_dequeue_48 : decode cX1_dequeue 48 = .ok (.ifCond .eq 24, 3) := dk_153 0 24 (dk_at dksX1_dequeue_2 3 rfl rfl)
theorem dX1_dequeue_51 : decode cX1_dequeue 51 = .ok (.aload_n 0, 1) := dk_42 (dk_at dksX1_dequeue_2 6 rfl rfl)
theorem dX1_dequeue_52 : decode cX1_dequeue 52 = .ok (.getfield 18, 3) := dk_180 0 18 (dk_at dksX1_dequeue_2 7 rfl rfl)
theorem dX1_dequeue_55 : decode cX1_dequeue 55 = .ok (.aload_n 0, 1) := dk_42 (dk_at dksX1_dequeue_2 10 rfl rfl)
theorem dX1_dequeue_56 : decode cX1_dequeue 56 = .ok (.getfield 13, 3) := dk_180 0 13 (dk_at dksX1_dequeue_2 11 rfl rfl)
theorem dX1_dequeue_59 : decode cX1_dequeue 59 = .ok (.aload_n 0, 1) := dk_42 (dk_at dksX1_dequeue_2 14 rfl rfl)
theorem dX1_dequeue_60 : decode cX1_dequeue 60 = .ok (.getfield 39, 3) := dk_180 0 39 (dk_at dksX1_dequeue_2 15 rfl rfl)
theorem dX1_dequeue_63 : decode cX1_dequeue 63 = .ok (.iconst 0, 1) := dk_3 (dk_at dksX1_dequeue_2 18 rfl rfl)
theorem dX1_dequeue_64 : decode cX1_dequeue 64 = .ok (.aload_n 0, 1) := dk_42 (dk_at dksX1_dequeue_2 19 rfl rfl)
theorem dX1_dequeue_65 : decode cX1_dequeue 65 = .ok (.getfield 21, 3) := dk_180 0 21 (dk_at dksX1_dequeue_2 20 rfl rfl)
theorem dX1_dequeue_68 : decode cX1_dequeue 68 = .ok (.invokestatic 56, 3) := dk_184 0 56 (dk_at dksX1_dequeue_3 0 rfl rfl)
theorem dX1_dequeue_71 : decode cX1_dequeue 71 = .ok (.pop, 1) := dk_87 (dk_at dksX1_dequeue_3 3 rfl rfl)
theorem dX1_dequeue_72 : decode cX1_dequeue 72 = .ok (.iload_n 1, 1) := dk_27 (dk_at dksX1_dequeue_3 4 rfl rfl)
theorem dX1_dequeue_73 : decode cX1_dequeue 73 = .ok (.ireturn, 1) := dk_172 (dk_at dksX1_dequeue_3 5 rfl rfl)
abbrev cX1_changed : ByteArray := prog_3_method_7_code
def yX1_changed : MethodName := ⟨RX1, "changed", "()V"⟩
def dkwX1_changed_0 : List UInt8 := [42, 180, 0, 18, 42, 180, 0, 13, 42, 180, 0, 39, 3, 42, 180, 0, 21, 184, 0, 56, 87, 177]
abbrev dktX1_changed_0 : List UInt8 := dkwX1_changed_0 ++ []
theorem dksX1_changed_0 : cX1_changed.data.toList.drop 0 = dktX1_changed_0 := by decide +kernel
theorem dX1_changed_0 : decode cX1_changed 0 = .ok (.aload_n 0, 1) := dk_42 (dk_at dksX1_changed_0 0 rfl rfl)
theorem dX1_changed_1 : decode cX1_changed 1 = .ok (.getfield 18, 3) := dk_180 0 18 (dk_at dksX1_changed_0 1 rfl rfl)
theorem dX1_changed_4 : decode cX1_changed 4 = .ok (.aload_n 0, 1) := dk_42 (dk_at dksX1_changed_0 4 rfl rfl)
theorem dX1_changed_5 : decode cX1_changed 5 = .ok (.getfield 13, 3) := dk_180 0 13 (dk_at dksX1_changed_0 5 rfl rfl)
theorem dX1_changed_8 : decode cX1_changed 8 = .ok (.aload_n 0, 1) := dk_42 (dk_at dksX1_changed_0 8 rfl rfl)
theorem dX1_changed_9 : decode cX1_changed 9 = .ok (.getfield 39, 3) := dk_180 0 39 (dk_at dksX1_changed_0 9 rfl rfl)
theorem dX1_changed_12 : decode cX1_changed 12 = .ok (.iconst 0, 1) := dk_3 (dk_at dksX1_changed_0 12 rfl rfl)
theorem dX1_changed_13 : decode cX1_changed 13 = .ok (.aload_n 0, 1) := dk_42 (dk_at dksX1_changed_0 13 rfl rfl)
theorem dX1_changed_14 : decode cX1_changed 14 = .ok (.getfield 21, 3) := dk_180 0 21 (dk_at dksX1_changed_0 14 rfl rfl)
theorem dX1_changed_17 : decode cX1_changed 17 = .ok (.invokestatic 56, 3) := dk_184 0 56 (dk_at dksX1_changed_0 17 rfl rfl)
theorem dX1_changed_20 : decode cX1_changed 20 = .ok (.pop, 1) := dk_87 (dk_at dksX1_changed_0 20 rfl rfl)
theorem dX1_changed_21 : decode cX1_changed 21 = .ok (.return_, 1) := dk_177 (dk_at dksX1_changed_0 21 rfl rfl)
abbrev cX1_allChanged : ByteArray := prog_3_method_8_code
def yX1_allChanged : MethodName := ⟨RX1, "allChanged", "()V"⟩
def dkwX1_allChanged_0 : List UInt8 := [42, 180, 0, 18, 42, 180, 0, 13, 42, 180, 0, 39, 42, 180, 0, 21, 184, 0, 59, 177]
abbrev dktX1_allChanged_0 : List UInt8 := dkwX1_allChanged_0 ++ []
theorem dksX1_allChanged_0 : cX1_allChanged.data.toList.drop 0 = dktX1_allChanged_0 := by decide +kernel
theorem dX1_allChanged_0 : decode cX1_allChanged 0 = .ok (.aload_n 0, 1) := dk_42 (dk_at dksX1_allChanged_0 0 rfl rfl)
theorem dX1_allChanged_1 : decode cX1_allChanged 1 = .ok (.getfield 18, 3) := dk_180 0 18 (dk_at dksX1_allChanged_0 1 rfl rfl)
theorem dX1_allChanged_4 : decode cX1_allChanged 4 = .ok (.aload_n 0, 1) := dk_42 (dk_at dksX1_allChanged_0 4 rfl rfl)
theorem dX1_allChanged_5 : decode cX1_allChanged 5 = .ok (.getfield 13, 3) := dk_180 0 13 (dk_at dksX1_allChanged_0 5 rfl rfl)
theorem dX1_allChanged_8 : decode cX1_allChanged 8 = .ok (.aload_n 0, 1) := dk_42 (dk_at dksX1_allChanged_0 8 rfl rfl)
theorem dX1_allChanged_9 : decode cX1_allChanged 9 = .ok (.getfield 39, 3) := dk_180 0 39 (dk_at dksX1_allChanged_0 9 rfl rfl)
theorem dX1_allChanged_12 : decode cX1_allChanged 12 = .ok (.aload_n 0, 1) := dk_42 (dk_at dksX1_allChanged_0 12 rfl rfl)
theorem dX1_allChanged_13 : decode cX1_allChanged 13 = .ok (.getfield 21, 3) := dk_180 0 21 (dk_at dksX1_allChanged_0 13 rfl rfl)
theorem dX1_allChanged_16 : decode cX1_allChanged 16 = .ok (.invokestatic 59, 3) := dk_184 0 59 (dk_at dksX1_allChanged_0 16 rfl rfl)
theorem dX1_allChanged_19 : decode cX1_allChanged 19 = .ok (.return_, 1) := dk_177 (dk_at dksX1_allChanged_0 19 rfl rfl)
abbrev cX1_front : ByteArray := prog_3_method_11_code
def yX1_front : MethodName := ⟨RX1, "front", "([I)I"⟩
def dkwX1_front_1 : List UInt8 := [167, 0, 23, 42, 180, 0, 18, 42, 180, 0, 13, 42, 180, 0, 39, 43, 42, 180, 0, 21, 184, 0, 67, 172]
abbrev dktX1_front_1 : List UInt8 := dkwX1_front_1 ++ []
def dkwX1_front_0 : List UInt8 := [42, 180, 0, 21, 199, 0, 22, 42, 180, 0, 18, 42, 180, 0, 13, 42, 180, 0, 39, 43, 184, 0, 63]
abbrev dktX1_front_0 : List UInt8 := dkwX1_front_0 ++ dktX1_front_1
theorem dksX1_front_0 : cX1_front.data.toList.drop 0 = dktX1_front_0 := by decide +kernel
theorem dksX1_front_1 : cX1_front.data.toList.drop 23 = dktX1_front_1 := dk_seg dksX1_front_0 23 rfl rfl
theorem dX1_front_0 : decode cX1_front 0 = .ok (.aload_n 0, 1) := dk_42 (dk_at dksX1_front_0 0 rfl rfl)
theorem dX1_front_1 : decode cX1_front 1 = .ok (.getfield 21, 3) := dk_180 0 21 (dk_at dksX1_front_0 1 rfl rfl)
theorem dX1_front_4 : decode cX1_front 4 = .ok (.ifnonnull 22, 3) := dk_199 0 22 (dk_at dksX1_front_0 4 rfl rfl)
theorem dX1_front_7 : decode cX1_front 7 = .ok (.aload_n 0, 1) := dk_42 (dk_at dksX1_front_0 7 rfl rfl)
theorem dX1_front_8 : decode cX1_front 8 = .ok (.getfield 18, 3) := dk_180 0 18 (dk_at dksX1_front_0 8 rfl rfl)
theorem dX1_front_11 : decode cX1_front 11 = .ok (.aload_n 0, 1) := dk_42 (dk_at dksX1_front_0 11 rfl rfl)
theorem dX1_front_12 : decode cX1_front 12 = .ok (.getfield 13, 3) := dk_180 0 13 (dk_at dksX1_front_0 12 rfl rfl)
theorem dX1_front_15 : decode cX1_front 15 = .ok (.aload_n 0, 1) := dk_42 (dk_at dksX1_front_0 15 rfl rfl)
theorem dX1_front_16 : decode cX1_front 16 = .ok (.getfield 39, 3) := dk_180 0 39 (dk_at dksX1_front_0 16 rfl rfl)
theorem dX1_front_19 : decode cX1_front 19 = .ok (.aload_n 1, 1) := dk_43 (dk_at dksX1_front_0 19 rfl rfl)
theorem dX1_front_20 : decode cX1_front 20 = .ok (.invokestatic 63, 3) := dk_184 0 63 (dk_at dksX1_front_0 20 rfl rfl)
theorem dX1_front_23 : decode cX1_front 23 = .ok (.goto 23, 3) := dk_167 0 23 (dk_at dksX1_front_1 0 rfl rfl)
theorem dX1_front_26 : decode cX1_front 26 = .ok (.aload_n 0, 1) := dk_42 (dk_at dksX1_front_1 3 rfl rfl)
theorem dX1_front_27 : decode cX1_front 27 = .ok (.getfield 18, 3) := dk_180 0 18 (dk_at dksX1_front_1 4 rfl rfl)
theorem dX1_front_30 : decode cX1_front 30 = .ok (.aload_n 0, 1) := dk_42 (dk_at dksX1_front_1 7 rfl rfl)
theorem dX1_front_31 : decode cX1_front 31 = .ok (.getfield 13, 3) := dk_180 0 13 (dk_at dksX1_front_1 8 rfl rfl)
theorem dX1_front_34 : decode cX1_front 34 = .ok (.aload_n 0, 1) := dk_42 (dk_at dksX1_front_1 11 rfl rfl)
theorem dX1_front_35 : decode cX1_front 35 = .ok (.getfield 39, 3) := dk_180 0 39 (dk_at dksX1_front_1 12 rfl rfl)
theorem dX1_front_38 : decode cX1_front 38 = .ok (.aload_n 1, 1) := dk_43 (dk_at dksX1_front_1 15 rfl rfl)
theorem dX1_front_39 : decode cX1_front 39 = .ok (.aload_n 0, 1) := dk_42 (dk_at dksX1_front_1 16 rfl rfl)
theorem dX1_front_40 : decode cX1_front 40 = .ok (.getfield 21, 3) := dk_180 0 21 (dk_at dksX1_front_1 17 rfl rfl)
theorem dX1_front_43 : decode cX1_front 43 = .ok (.invokestatic 67, 3) := dk_184 0 67 (dk_at dksX1_front_1 20 rfl rfl)
theorem dX1_front_46 : decode cX1_front 46 = .ok (.ireturn, 1) := dk_172 (dk_at dksX1_front_1 23 rfl rfl)
abbrev cX1_clear : ByteArray := prog_3_method_10_code
def yX1_clear : MethodName := ⟨RX1, "clear", "()V"⟩
def dkwX1_clear_0 : List UInt8 := [42, 3, 181, 0, 39, 177]
abbrev dktX1_clear_0 : List UInt8 := dkwX1_clear_0 ++ []
theorem dksX1_clear_0 : cX1_clear.data.toList.drop 0 = dktX1_clear_0 := by decide +kernel
theorem dX1_clear_0 : decode cX1_clear 0 = .ok (.aload_n 0, 1) := dk_42 (dk_at dksX1_clear_0 0 rfl rfl)
theorem dX1_clear_1 : decode cX1_clear 1 = .ok (.iconst 0, 1) := dk_3 (dk_at dksX1_clear_0 1 rfl rfl)
theorem dX1_clear_2 : decode cX1_clear 2 = .ok (.putfield 39, 3) := dk_181 0 39 (dk_at dksX1_clear_0 2 rfl rfl)
theorem dX1_clear_5 : decode cX1_clear 5 = .ok (.return_, 1) := dk_177 (dk_at dksX1_clear_0 5 rfl rfl)
theorem q4 : (Jvm.Cond.initialized "IntHeapSemiIndirectPriorityQueue") ∈ lw_all := lw_g (lw_at lw_m1 2 rfl) rfl
theorem q24 : (Jvm.Cond.instantiable "IntHeapSemiIndirectPriorityQueue" (4 : Nat)) ∈ lw_all := lw_g (lw_at lw_m1 22 rfl) rfl
theorem q26 : (Jvm.Cond.instanceMethod ({ cls := "IntHeapSemiIndirectPriorityQueue", name := "<init>", desc := "([I)V" } : Jvm.MethodName)) ∈ lw_all := lw_g (lw_at lw_m1 24 rfl) rfl
theorem q27 : (Jvm.Cond.code ({ cls := "IntHeapSemiIndirectPriorityQueue", name := "<init>", desc := "([I)V" } : Jvm.MethodName) prog_3_method_2_code (2 : Nat) (Option.none : Option Jvm.ClassFile.FieldType)) ∈ lw_all := lw_g (lw_at lw_m1 25 rfl) rfl
theorem q28 : (Jvm.Cond.methodLink "IntHeapSemiIndirectPriorityQueue" (25 : Nat) ({ cls := "IntHeapSemiIndirectPriorityQueue", name := "<init>", desc := "([IILIntComparator;)V" } : Jvm.MethodName)) ∈ lw_all := lw_g (lw_at lw_m1 26 rfl) rfl
theorem q29 : (Jvm.Cond.instanceMethod ({ cls := "IntHeapSemiIndirectPriorityQueue", name := "<init>", desc := "([IILIntComparator;)V" } : Jvm.MethodName)) ∈ lw_all := lw_g (lw_at lw_m1 27 rfl) rfl
theorem q30 : (Jvm.Cond.code ({ cls := "IntHeapSemiIndirectPriorityQueue", name := "<init>", desc := "([IILIntComparator;)V" } : Jvm.MethodName) prog_3_method_1_code (4 : Nat) (Option.none : Option Jvm.ClassFile.FieldType)) ∈ lw_all := lw_g (lw_at lw_m1 28 rfl) rfl
theorem q31 : (Jvm.Cond.methodLink "IntHeapSemiIndirectPriorityQueue" (1 : Nat) ({ cls := "java/lang/Object", name := "<init>", desc := "()V" } : Jvm.MethodName)) ∈ lw_all := lw_g (lw_at lw_m1 29 rfl) rfl
theorem q32 : (Jvm.Cond.fieldLink "IntHeapSemiIndirectPriorityQueue" (7 : Nat) "IntArrays" "EMPTY_ARRAY" "[I") ∈ lw_all := lw_g (lw_at lw_m1 30 rfl) rfl
theorem q34 : (Jvm.Cond.fieldLink "IntHeapSemiIndirectPriorityQueue" (18 : Nat) "IntHeapSemiIndirectPriorityQueue" "refArray" "[I") ∈ lw_all := lw_g (lw_at lw_m1 32 rfl) rfl
theorem q35 : (Jvm.Cond.fieldLink "IntHeapSemiIndirectPriorityQueue" (13 : Nat) "IntHeapSemiIndirectPriorityQueue" "heap" "[I") ∈ lw_all := lw_g (lw_at lw_m1 33 rfl) rfl
theorem q36 : (Jvm.Cond.fieldLink "IntHeapSemiIndirectPriorityQueue" (39 : Nat) "IntHeapSemiIndirectPriorityQueue" "size" "I") ∈ lw_all := lw_g (lw_at lw_m1 34 rfl) rfl
theorem q37 : (Jvm.Cond.fieldLink "IntHeapSemiIndirectPriorityQueue" (21 : Nat) "IntHeapSemiIndirectPriorityQueue" "c" "LIntComparator;") ∈ lw_all := lw_g (lw_at lw_m1 35 rfl) rfl
theorem q38 : (Jvm.Cond.laysFinal "IntHeapSemiIndirectPriorityQueue" "IntHeapSemiIndirectPriorityQueue" "refArray" "[I") ∈ lw_all := lw_g (lw_at lw_m1 36 rfl) rfl
theorem q39 : (Jvm.Cond.soleField "IntHeapSemiIndirectPriorityQueue" "refArray") ∈ lw_all := lw_g (lw_at lw_m1 37 rfl) rfl
theorem q40 : (Jvm.Cond.lays "IntHeapSemiIndirectPriorityQueue" "IntHeapSemiIndirectPriorityQueue" "heap" "[I") ∈ lw_all := lw_g (lw_at lw_m1 38 rfl) rfl
theorem q41 : (Jvm.Cond.soleField "IntHeapSemiIndirectPriorityQueue" "heap") ∈ lw_all := lw_g (lw_at lw_m1 39 rfl) rfl
theorem q42 : (Jvm.Cond.lays "IntHeapSemiIndirectPriorityQueue" "IntHeapSemiIndirectPriorityQueue" "size" "I") ∈ lw_all := lw_g (lw_at lw_m1 40 rfl) rfl
theorem q43 : (Jvm.Cond.soleField "IntHeapSemiIndirectPriorityQueue" "size") ∈ lw_all := lw_g (lw_at lw_m1 41 rfl) rfl
theorem q44 : (Jvm.Cond.lays "IntHeapSemiIndirectPriorityQueue" "IntHeapSemiIndirectPriorityQueue" "c" "LIntComparator;") ∈ lw_all := lw_g (lw_at lw_m1 42 rfl) rfl
theorem q45 : (Jvm.Cond.soleField "IntHeapSemiIndirectPriorityQueue" "c") ∈ lw_all := lw_g (lw_at lw_m1 43 rfl) rfl
theorem q46 : (Jvm.Cond.superclass "IntHeapSemiIndirectPriorityQueue" "java/lang/Object") ∈ lw_all := lw_g (lw_at lw_m1 44 rfl) rfl
theorem q68 : (Jvm.Cond.instanceMethod ({ cls := "IntHeapSemiIndirectPriorityQueue", name := "enqueue", desc := "(I)V" } : Jvm.MethodName)) ∈ lw_all := lw_g (lw_at lw_m1 66 rfl) rfl
theorem q69 : (Jvm.Cond.selects "IntHeapSemiIndirectPriorityQueue" ({ cls := "IntHeapSemiIndirectPriorityQueue", name := "enqueue", desc := "(I)V" } : Jvm.MethodName) ({ cls := "IntHeapSemiIndirectPriorityQueue", name := "enqueue", desc := "(I)V" } : Jvm.MethodName)) ∈ lw_all := lw_g (lw_at lw_m1 67 rfl) rfl
theorem q70 : (Jvm.Cond.code ({ cls := "IntHeapSemiIndirectPriorityQueue", name := "enqueue", desc := "(I)V" } : Jvm.MethodName) prog_3_method_4_code (2 : Nat) (Option.none : Option Jvm.ClassFile.FieldType)) ∈ lw_all := lw_g (lw_at lw_m1 68 rfl) rfl
theorem q71 : (Jvm.Cond.methodLink "IntHeapSemiIndirectPriorityQueue" (35 : Nat) ({ cls := "IntHeapSemiIndirectPriorityQueue", name := "ensureElement", desc := "(I)V" } : Jvm.MethodName)) ∈ lw_all := lw_g (lw_at lw_m1 69 rfl) rfl
theorem q72 : (Jvm.Cond.instanceMethod ({ cls := "IntHeapSemiIndirectPriorityQueue", name := "ensureElement", desc := "(I)V" } : Jvm.MethodName)) ∈ lw_all := lw_g (lw_at lw_m1 70 rfl) rfl
theorem q73 : (Jvm.Cond.selects "IntHeapSemiIndirectPriorityQueue" ({ cls := "IntHeapSemiIndirectPriorityQueue", name := "ensureElement", desc := "(I)V" } : Jvm.MethodName) ({ cls := "IntHeapSemiIndirectPriorityQueue", name := "ensureElement", desc := "(I)V" } : Jvm.MethodName)) ∈ lw_all := lw_g (lw_at lw_m1 71 rfl) rfl
theorem q74 : (Jvm.Cond.code ({ cls := "IntHeapSemiIndirectPriorityQueue", name := "ensureElement", desc := "(I)V" } : Jvm.MethodName) prog_3_method_3_code (2 : Nat) (Option.none : Option Jvm.ClassFile.FieldType)) ∈ lw_all := lw_g (lw_at lw_m1 72 rfl) rfl
theorem q75 : (Jvm.Cond.classLink "IntHeapSemiIndirectPriorityQueue" (28 : Nat) "java/lang/IndexOutOfBoundsException") ∈ lw_all := lw_g (lw_at lw_m1 73 rfl) rfl
theorem q115 : (Jvm.Cond.stringRef "IntHeapSemiIndirectPriorityQueue" (30 : Nat) "left out") ∈ lw_tbl := lw_at lw_m1 113 rfl
theorem q116 : (Jvm.Cond.methodLink "IntHeapSemiIndirectPriorityQueue" (32 : Nat) ({ cls := "java/lang/IndexOutOfBoundsException", name := "<init>", desc := "(Ljava/lang/String;)V" } : Jvm.MethodName)) ∈ lw_all := lw_g (lw_at lw_m1 114 rfl) rfl
theorem q142 : (Jvm.Cond.methodLink "IntHeapSemiIndirectPriorityQueue" (43 : Nat) ({ cls := "IntArrays", name := "grow", desc := "([II)[I" } : Jvm.MethodName)) ∈ lw_all := lw_g (lw_at lw_m1 140 rfl) rfl
theorem q158 : (Jvm.Cond.methodLink "IntHeapSemiIndirectPriorityQueue" (47 : Nat) ({ cls := "IntSemiIndirectHeaps", name := "upHeap", desc := "([I[IIILIntComparator;)I" } : Jvm.MethodName)) ∈ lw_all := lw_g (lw_at lw_m1 156 rfl) rfl
theorem q166 : (Jvm.Cond.instanceMethod ({ cls := "IntHeapSemiIndirectPriorityQueue", name := "size", desc := "()I" } : Jvm.MethodName)) ∈ lw_all := lw_g (lw_at lw_m1 164 rfl) rfl
theorem q167 : (Jvm.Cond.selects "IntHeapSemiIndirectPriorityQueue" ({ cls := "IntHeapSemiIndirectPriorityQueue", name := "size", desc := "()I" } : Jvm.MethodName) ({ cls := "IntHeapSemiIndirectPriorityQueue", name := "size", desc := "()I" } : Jvm.MethodName)) ∈ lw_all := lw_g (lw_at lw_m1 165 rfl) rfl
theorem q168 : (Jvm.Cond.code ({ cls := "IntHeapSemiIndirectPriorityQueue", name := "size", desc := "()I" } : Jvm.MethodName) prog_3_method_9_code (1 : Nat) (Option.some Jvm.ClassFile.FieldType.int)) ∈ lw_all := lw_g (lw_at lw_m1 166 rfl) rfl
theorem q170 : (Jvm.Cond.instanceMethod ({ cls := "IntHeapSemiIndirectPriorityQueue", name := "first", desc := "()I" } : Jvm.MethodName)) ∈ lw_all := lw_g (lw_at lw_m1 168 rfl) rfl
theorem q171 : (Jvm.Cond.selects "IntHeapSemiIndirectPriorityQueue" ({ cls := "IntHeapSemiIndirectPriorityQueue", name := "first", desc := "()I" } : Jvm.MethodName) ({ cls := "IntHeapSemiIndirectPriorityQueue", name := "first", desc := "()I" } : Jvm.MethodName)) ∈ lw_all := lw_g (lw_at lw_m1 169 rfl) rfl
theorem q172 : (Jvm.Cond.code ({ cls := "IntHeapSemiIndirectPriorityQueue", name := "first", desc := "()I" } : Jvm.MethodName) prog_3_method_6_code (1 : Nat) (Option.some Jvm.ClassFile.FieldType.int)) ∈ lw_all := lw_g (lw_at lw_m1 170 rfl) rfl
theorem q173 : (Jvm.Cond.classLink "IntHeapSemiIndirectPriorityQueue" (53 : Nat) "java/util/NoSuchElementException") ∈ lw_all := lw_g (lw_at lw_m1 171 rfl) rfl
theorem q182 : (Jvm.Cond.methodLink "IntHeapSemiIndirectPriorityQueue" (55 : Nat) ({ cls := "java/util/NoSuchElementException", name := "<init>", desc := "()V" } : Jvm.MethodName)) ∈ lw_all := lw_g (lw_at lw_m1 180 rfl) rfl
theorem q199 : (Jvm.Cond.instanceMethod ({ cls := "IntHeapSemiIndirectPriorityQueue", name := "dequeue", desc := "()I" } : Jvm.MethodName)) ∈ lw_all := lw_g (lw_at lw_m1 197 rfl) rfl
theorem q200 : (Jvm.Cond.selects "IntHeapSemiIndirectPriorityQueue" ({ cls := "IntHeapSemiIndirectPriorityQueue", name := "dequeue", desc := "()I" } : Jvm.MethodName) ({ cls := "IntHeapSemiIndirectPriorityQueue", name := "dequeue", desc := "()I" } : Jvm.MethodName)) ∈ lw_all := lw_g (lw_at lw_m1 198 rfl) rfl
theorem q201 : (Jvm.Cond.code ({ cls := "IntHeapSemiIndirectPriorityQueue", name := "dequeue", desc := "()I" } : Jvm.MethodName) prog_3_method_5_code (2 : Nat) (Option.some Jvm.ClassFile.FieldType.int)) ∈ lw_all := lw_g (lw_at lw_m1 199 rfl) rfl
theorem q202 : (Jvm.Cond.methodLink "IntHeapSemiIndirectPriorityQueue" (56 : Nat) ({ cls := "IntSemiIndirectHeaps", name := "downHeap", desc := "([I[IIILIntComparator;)I" } : Jvm.MethodName)) ∈ lw_all := lw_g (lw_at lw_m1 200 rfl) rfl
theorem q210 : (Jvm.Cond.instanceMethod ({ cls := "IntHeapSemiIndirectPriorityQueue", name := "changed", desc := "()V" } : Jvm.MethodName)) ∈ lw_all := lw_g (lw_at lw_m1 208 rfl) rfl
theorem q211 : (Jvm.Cond.selects "IntHeapSemiIndirectPriorityQueue" ({ cls := "IntHeapSemiIndirectPriorityQueue", name := "changed", desc := "()V" } : Jvm.MethodName) ({ cls := "IntHeapSemiIndirectPriorityQueue", name := "changed", desc := "()V" } : Jvm.MethodName)) ∈ lw_all := lw_g (lw_at lw_m1 209 rfl) rfl
theorem q212 : (Jvm.Cond.code ({ cls := "IntHeapSemiIndirectPriorityQueue", name := "changed", desc := "()V" } : Jvm.MethodName) prog_3_method_7_code (1 : Nat) (Option.none : Option Jvm.ClassFile.FieldType)) ∈ lw_all := lw_g (lw_at lw_m1 210 rfl) rfl
theorem q218 : (Jvm.Cond.instanceMethod ({ cls := "IntHeapSemiIndirectPriorityQueue", name := "allChanged", desc := "()V" } : Jvm.MethodName)) ∈ lw_all := lw_g (lw_at lw_m1 216 rfl) rfl
theorem q219 : (Jvm.Cond.selects "IntHeapSemiIndirectPriorityQueue" ({ cls := "IntHeapSemiIndirectPriorityQueue", name := "allChanged", desc := "()V" } : Jvm.MethodName) ({ cls := "IntHeapSemiIndirectPriorityQueue", name := "allChanged", desc := "()V" } : Jvm.MethodName)) ∈ lw_all := lw_g (lw_at lw_m1 217 rfl) rfl
theorem q220 : (Jvm.Cond.code ({ cls := "IntHeapSemiIndirectPriorityQueue", name := "allChanged", desc := "()V" } : Jvm.MethodName) prog_3_method_8_code (1 : Nat) (Option.none : Option Jvm.ClassFile.FieldType)) ∈ lw_all := lw_g (lw_at lw_m1 218 rfl) rfl
theorem q221 : (Jvm.Cond.methodLink "IntHeapSemiIndirectPriorityQueue" (59 : Nat) ({ cls := "IntSemiIndirectHeaps", name := "makeHeap", desc := "([I[IILIntComparator;)V" } : Jvm.MethodName)) ∈ lw_all := lw_g (lw_at lw_m1 219 rfl) rfl
theorem q230 : (Jvm.Cond.instanceMethod ({ cls := "IntHeapSemiIndirectPriorityQueue", name := "front", desc := "([I)I" } : Jvm.MethodName)) ∈ lw_all := lw_g (lw_at lw_m1 228 rfl) rfl
theorem q231 : (Jvm.Cond.selects "IntHeapSemiIndirectPriorityQueue" ({ cls := "IntHeapSemiIndirectPriorityQueue", name := "front", desc := "([I)I" } : Jvm.MethodName) ({ cls := "IntHeapSemiIndirectPriorityQueue", name := "front", desc := "([I)I" } : Jvm.MethodName)) ∈ lw_all := lw_g (lw_at lw_m1 229 rfl) rfl
theorem q232 : (Jvm.Cond.code ({ cls := "IntHeapSemiIndirectPriorityQueue", name := "front", desc := "([I)I" } : Jvm.MethodName) prog_3_method_11_code (2 : Nat) (Option.some Jvm.ClassFile.FieldType.int)) ∈ lw_all := lw_g (lw_at lw_m1 230 rfl) rfl
theorem q233 : (Jvm.Cond.methodLink "IntHeapSemiIndirectPriorityQueue" (63 : Nat) ({ cls := "IntSemiIndirectHeaps", name := "front", desc := "([I[II[I)I" } : Jvm.MethodName)) ∈ lw_all := lw_g (lw_at lw_m1 231 rfl) rfl
theorem q239 : (Jvm.Cond.methodLink "IntHeapSemiIndirectPriorityQueue" (67 : Nat) ({ cls := "IntSemiIndirectHeaps", name := "front", desc := "([I[II[ILIntComparator;)I" } : Jvm.MethodName)) ∈ lw_all := lw_g (lw_at lw_m1 237 rfl) rfl
theorem q255 : (Jvm.Cond.instanceMethod ({ cls := "IntHeapSemiIndirectPriorityQueue", name := "clear", desc := "()V" } : Jvm.MethodName)) ∈ lw_all := lw_g (lw_at lw_m2 13 rfl) rfl
theorem q256 : (Jvm.Cond.selects "IntHeapSemiIndirectPriorityQueue" ({ cls := "IntHeapSemiIndirectPriorityQueue", name := "clear", desc := "()V" } : Jvm.MethodName) ({ cls := "IntHeapSemiIndirectPriorityQueue", name := "clear", desc := "()V" } : Jvm.MethodName)) ∈ lw_all := lw_g (lw_at lw_m2 14 rfl) rfl
theorem q257 : (Jvm.Cond.code ({ cls := "IntHeapSemiIndirectPriorityQueue", name := "clear", desc := "()V" } : Jvm.MethodName) prog_3_method_10_code (1 : Nat) (Option.none : Option Jvm.ClassFile.FieldType)) ∈ lw_all := lw_g (lw_at lw_m2 15 rfl) rfl
theorem q320 : (Jvm.Cond.castable "IntHeapSemiIndirectPriorityQueue" "java/lang/Object") ∈ lw_tbl := lw_at lw_m2 78 rfl
theorem in_X1 : ∀ w ∈ wsX10, w ∈ lw_all := lw_in wsX10 [38, 40, 42, 44] (by decide +kernel) (by decide +kernel)
end
section
/-! SemiHeapDesk -/
set_option maxRecDepth 100000
def RX0 : String := "SemiHeapDesk"
def TX0 : u_T := fun k => match k with
  | 0 => ("SemiHeapDesk", "value", "[I", true)
  | 1 => ("SemiHeapDesk", "inside", "[Z", true)
  | _ => ("SemiHeapDesk", "heap", "LIntHeapSemiIndirectPriorityQueue;", true)
def tyX0 : Nat → FieldType := fun k => match k with
  | 0 => .array .int
  | 1 => .array .boolean
  | _ => .object "IntHeapSemiIndirectPriorityQueue"
abbrev wsX00 : List Cond := u_ws RX0 TX0 3
theorem nmX0 : ∀ a, a < 3 → ∀ b, b < 3 → a ≠ b → (TX0 a).2.1 ≠ (TX0 b).2.1 := by decide +kernel
theorem tyX0_ok : ∀ k, k < 3 → parseFieldDescriptor (TX0 k).2.2.1 = some (tyX0 k) := by decide +kernel
abbrev cX0_init : ByteArray := prog_6_method_1_code
def yX0_init : MethodName := ⟨RX0, "<init>", "()V"⟩
def dkwX0_init_2 : List UInt8 := [180, 0, 7, 183, 0, 19, 181, 0, 22, 177]
abbrev dktX0_init_2 : List UInt8 := dkwX0_init_2 ++ []
def dkwX0_init_1 : List UInt8 := [16, 64, 162, 0, 16, 42, 180, 0, 7, 27, 27, 79, 132, 1, 1, 167, 255, 240, 42, 187, 0, 17, 89, 42]
abbrev dktX0_init_1 : List UInt8 := dkwX0_init_1 ++ dktX0_init_2
def dkwX0_init_0 : List UInt8 := [42, 183, 0, 1, 42, 16, 64, 188, 10, 181, 0, 7, 42, 16, 64, 188, 4, 181, 0, 13, 3, 60, 27]
abbrev dktX0_init_0 : List UInt8 := dkwX0_init_0 ++ dktX0_init_1
theorem dksX0_init_0 : cX0_init.data.toList.drop 0 = dktX0_init_0 := by decide +kernel
theorem dksX0_init_1 : cX0_init.data.toList.drop 23 = dktX0_init_1 := dk_seg dksX0_init_0 23 rfl rfl
theorem dksX0_init_2 : cX0_init.data.toList.drop 47 = dktX0_init_2 := dk_seg dksX0_init_1 24 rfl rfl
theorem dX0_init_0 : decode cX0_init 0 = .ok (.aload_n 0, 1) := dk_42 (dk_at dksX0_init_0 0 rfl rfl)
theorem dX0_init_1 : decode cX0_init 1 = .ok (.invokespecial 1, 3) := dk_183 0 1 (dk_at dksX0_init_0 1 rfl rfl)
theorem dX0_init_4 : decode cX0_init 4 = .ok (.aload_n 0, 1) := dk_42 (dk_at dksX0_init_0 4 rfl rfl)
theorem dX0_init_5 : decode cX0_init 5 = .ok (.bipush 64, 2) := dk_16 64 (dk_at dksX0_init_0 5 rfl rfl)
theorem dX0_init_7 : decode cX0_init 7 = .ok (.newarray .int, 2) := dk_188_10 (dk_at dksX0_init_0 7 rfl rfl)
theorem dX0_init_9 : decode cX0_init 9 = .ok (.putfield 7, 3) := dk_181 0 7 (dk_at dksX0_init_0 9 rfl rfl)
theorem dX0_init_12 : decode cX0_init 12 = .ok (.aload_n 0, 1) := dk_42 (dk_at dksX0_init_0 12 rfl rfl)
theorem dX0_init_13 : decode cX0_init 13 = .ok (.bipush 64, 2) := dk_16 64 (dk_at dksX0_init_0 13 rfl rfl)
theorem dX0_init_15 : decode cX0_init 15 = .ok (.newarray .boolean, 2) := dk_188_4 (dk_at dksX0_init_0 15 rfl rfl)
theorem dX0_init_17 : decode cX0_init 17 = .ok (.putfield 13, 3) := dk_181 0 13 (dk_at dksX0_init_0 17 rfl rfl)
theorem dX0_init_20 : decode cX0_init 20 = .ok (.iconst 0, 1) := dk_3 (dk_at dksX0_init_0 20 rfl rfl)
theorem dX0_init_21 : decode cX0_init 21 = .ok (.istore_n 1, 1) := dk_60 (dk_at dksX0_init_0 21 rfl rfl)
theorem dX0_init_22 : decode cX0_init 22 = .ok (.iload_n 1, 1) := dk_27 (dk_at dksX0_init_0 22 rfl rfl)
theorem dX0_init_23 : decode cX0_init 23 = .ok (.bipush 64, 2) := dk_16 64 (dk_at dksX0_init_1 0 rfl rfl)
theorem dX0_init_25 : decode cX0_init 25 = .ok (.if_icmp .ge 16, 3) := dk_162 0 16 (dk_at dksX0_init_1 2 rfl rfl)
theorem dX0_init_28 : decode cX0_init 28 = .ok (.aload_n 0, 1) := dk_42 (dk_at dksX0_init_1 5 rfl rfl)
theorem dX0_init_29 : decode cX0_init 29 = .ok (.getfield 7, 3) := dk_180 0 7 (dk_at dksX0_init_1 6 rfl rfl)
theorem dX0_init_32 : decode cX0_init 32 = .ok (.iload_n 1, 1) := dk_27 (dk_at dksX0_init_1 9 rfl rfl)
theorem dX0_init_33 : decode cX0_init 33 = .ok (.iload_n 1, 1) := dk_27 (dk_at dksX0_init_1 10 rfl rfl)
theorem dX0_init_34 : decode cX0_init 34 = .ok (.iastore, 1) := dk_79 (dk_at dksX0_init_1 11 rfl rfl)
theorem dX0_init_35 : decode cX0_init 35 = .ok (.iinc 1 1, 3) := dk_132 1 1 (dk_at dksX0_init_1 12 rfl rfl)
theorem dX0_init_38 : decode cX0_init 38 = .ok (.goto (-16), 3) := dk_167 255 240 (dk_at dksX0_init_1 15 rfl rfl)
theorem dX0_init_41 : decode cX0_init 41 = .ok (.aload_n 0, 1) := dk_42 (dk_at dksX0_init_1 18 rfl rfl)
theorem dX0_init_42 : decode cX0_init 42 = .ok (.new 17, 3) := dk_187 0 17 (dk_at dksX0_init_1 19 rfl rfl)
theorem dX0_init_45 : decode cX0_init 45 = .ok (.dup, 1) := dk_89 (dk_at dksX0_init_1 22 rfl rfl)
theorem dX0_init_46 : decode cX0_init 46 = .ok (.aload_n 0, 1) := dk_42 (dk_at dksX0_init_1 23 rfl rfl)
theorem dX0_init_47 : decode cX0_init 47 = .ok (.getfield 7, 3) := dk_180 0 7 (dk_at dksX0_init_2 0 rfl rfl)
theorem dX0_init_50 : decode cX0_init 50 = .ok (.invokespecial 19, 3) := dk_183 0 19 (dk_at dksX0_init_2 3 rfl rfl)
theorem dX0_init_53 : decode cX0_init 53 = .ok (.putfield 22, 3) := dk_181 0 22 (dk_at dksX0_init_2 6 rfl rfl)
theorem dX0_init_56 : decode cX0_init 56 = .ok (.return_, 1) := dk_177 (dk_at dksX0_init_2 9 rfl rfl)
abbrev cX0_change : ByteArray := prog_6_method_2_code
def yX0_change : MethodName := ⟨RX0, "change", "(II)Z"⟩
def dkwX0_change_1 : List UInt8 := [126, 29, 128, 79, 4, 172]
abbrev dktX0_change_1 : List UInt8 := dkwX0_change_1 ++ []
def dkwX0_change_0 : List UInt8 := [27, 16, 63, 126, 62, 42, 180, 0, 13, 29, 51, 153, 0, 5, 3, 172, 42, 180, 0, 7, 29, 28, 16, 192]
abbrev dktX0_change_0 : List UInt8 := dkwX0_change_0 ++ dktX0_change_1
theorem dksX0_change_0 : cX0_change.data.toList.drop 0 = dktX0_change_0 := by decide +kernel
theorem dksX0_change_1 : cX0_change.data.toList.drop 24 = dktX0_change_1 := dk_seg dksX0_change_0 24 rfl rfl
theorem dX0_change_0 : decode cX0_change 0 = .ok (.iload_n 1, 1) := dk_27 (dk_at dksX0_change_0 0 rfl rfl)
theorem dX0_change_1 : decode cX0_change 1 = .ok (.bipush 63, 2) := dk_16 63 (dk_at dksX0_change_0 1 rfl rfl)
theorem dX0_change_3 : decode cX0_change 3 = .ok (.iand, 1) := dk_126 (dk_at dksX0_change_0 3 rfl rfl)
theorem dX0_change_4 : decode cX0_change 4 = .ok (.istore_n 3, 1) := dk_62 (dk_at dksX0_change_0 4 rfl rfl)
theorem dX0_change_5 : decode cX0_change 5 = .ok (.aload_n 0, 1) := dk_42 (dk_at dksX0_change_0 5 rfl rfl)
theorem dX0_change_6 : decode cX0_change 6 = .ok (.getfield 13, 3) := dk_180 0 13 (dk_at dksX0_change_0 6 rfl rfl)
theorem dX0_change_9 : decode cX0_change 9 = .ok (.iload_n 3, 1) := dk_29 (dk_at dksX0_change_0 9 rfl rfl)
theorem dX0_change_10 : decode cX0_change 10 = .ok (.baload, 1) := dk_51 (dk_at dksX0_change_0 10 rfl rfl)
theorem dX0_change_11 : decode cX0_change 11 = .ok (.ifCond .eq 5, 3) := dk_153 0 5 (dk_at dksX0_change_0 11 rfl rfl)
theorem dX0_change_14 : decode cX0_change 14 = .ok (.iconst 0, 1) := dk_3 (dk_at dksX0_change_0 14 rfl rfl)
theorem dX0_change_15 : decode cX0_change 15 = .ok (.ireturn, 1) := dk_172 (dk_at dksX0_change_0 15 rfl rfl)
theorem dX0_change_16 : decode cX0_change 16 = .ok (.aload_n 0, 1) := dk_42 (dk_at dksX0_change_0 16 rfl rfl)
theorem dX0_change_17 : decode cX0_change 17 = .ok (.getfield 7, 3) := dk_180 0 7 (dk_at dksX0_change_0 17 rfl rfl)
theorem dX0_change_20 : decode cX0_change 20 = .ok (.iload_n 3, 1) := dk_29 (dk_at dksX0_change_0 20 rfl rfl)
theorem dX0_change_21 : decode cX0_change 21 = .ok (.iload_n 2, 1) := dk_28 (dk_at dksX0_change_0 21 rfl rfl)
theorem dX0_change_22 : decode cX0_change 22 = .ok (.bipush (-64), 2) := dk_16 192 (dk_at dksX0_change_0 22 rfl rfl)
theorem dX0_change_24 : decode cX0_change 24 = .ok (.iand, 1) := dk_126 (dk_at dksX0_change_1 0 rfl rfl)
theorem dX0_change_25 : decode cX0_change 25 = .ok (.iload_n 3, 1) := dk_29 (dk_at dksX0_change_1 1 rfl rfl)
theorem dX0_change_26 : decode cX0_change 26 = .ok (.ior, 1) := dk_128 (dk_at dksX0_change_1 2 rfl rfl)
theorem dX0_change_27 : decode cX0_change 27 = .ok (.iastore, 1) := dk_79 (dk_at dksX0_change_1 3 rfl rfl)
theorem dX0_change_28 : decode cX0_change 28 = .ok (.iconst 1, 1) := dk_4 (dk_at dksX0_change_1 4 rfl rfl)
theorem dX0_change_29 : decode cX0_change 29 = .ok (.ireturn, 1) := dk_172 (dk_at dksX0_change_1 5 rfl rfl)
abbrev cX0_enter : ByteArray := prog_6_method_3_code
def yX0_enter : MethodName := ⟨RX0, "enter", "(I)Z"⟩
def dkwX0_enter_1 : List UInt8 := [180, 0, 22, 28, 182, 0, 26, 4, 172]
abbrev dktX0_enter_1 : List UInt8 := dkwX0_enter_1 ++ []
def dkwX0_enter_0 : List UInt8 := [27, 16, 63, 126, 61, 42, 180, 0, 13, 28, 51, 153, 0, 5, 3, 172, 42, 180, 0, 13, 28, 4, 84, 42]
abbrev dktX0_enter_0 : List UInt8 := dkwX0_enter_0 ++ dktX0_enter_1
theorem dksX0_enter_0 : cX0_enter.data.toList.drop 0 = dktX0_enter_0 := by decide +kernel
theorem dksX0_enter_1 : cX0_enter.data.toList.drop 24 = dktX0_enter_1 := dk_seg dksX0_enter_0 24 rfl rfl
theorem dX0_enter_0 : decode cX0_enter 0 = .ok (.iload_n 1, 1) := dk_27 (dk_at dksX0_enter_0 0 rfl rfl)
theorem dX0_enter_1 : decode cX0_enter 1 = .ok (.bipush 63, 2) := dk_16 63 (dk_at dksX0_enter_0 1 rfl rfl)
theorem dX0_enter_3 : decode cX0_enter 3 = .ok (.iand, 1) := dk_126 (dk_at dksX0_enter_0 3 rfl rfl)
theorem dX0_enter_4 : decode cX0_enter 4 = .ok (.istore_n 2, 1) := dk_61 (dk_at dksX0_enter_0 4 rfl rfl)
theorem dX0_enter_5 : decode cX0_enter 5 = .ok (.aload_n 0, 1) := dk_42 (dk_at dksX0_enter_0 5 rfl rfl)
theorem dX0_enter_6 : decode cX0_enter 6 = .ok (.getfield 13, 3) := dk_180 0 13 (dk_at dksX0_enter_0 6 rfl rfl)
theorem dX0_enter_9 : decode cX0_enter 9 = .ok (.iload_n 2, 1) := dk_28 (dk_at dksX0_enter_0 9 rfl rfl)
theorem dX0_enter_10 : decode cX0_enter 10 = .ok (.baload, 1) := dk_51 (dk_at dksX0_enter_0 10 rfl rfl)
theorem dX0_enter_11 : decode cX0_enter 11 = .ok (.ifCond .eq 5, 3) := dk_153 0 5 (dk_at dksX0_enter_0 11 rfl rfl)
theorem dX0_enter_14 : decode cX0_enter 14 = .ok (.iconst 0, 1) := dk_3 (dk_at dksX0_enter_0 14 rfl rfl)
theorem dX0_enter_15 : decode cX0_enter 15 = .ok (.ireturn, 1) := dk_172 (dk_at dksX0_enter_0 15 rfl rfl)
theorem dX0_enter_16 : decode cX0_enter 16 = .ok (.aload_n 0, 1) := dk_42 (dk_at dksX0_enter_0 16 rfl rfl)
theorem dX0_enter_17 : decode cX0_enter 17 = .ok (.getfield 13, 3) := dk_180 0 13 (dk_at dksX0_enter_0 17 rfl rfl)
theorem dX0_enter_20 : decode cX0_enter 20 = .ok (.iload_n 2, 1) := dk_28 (dk_at dksX0_enter_0 20 rfl rfl)
theorem dX0_enter_21 : decode cX0_enter 21 = .ok (.iconst 1, 1) := dk_4 (dk_at dksX0_enter_0 21 rfl rfl)
theorem dX0_enter_22 : decode cX0_enter 22 = .ok (.bastore, 1) := dk_84 (dk_at dksX0_enter_0 22 rfl rfl)
theorem dX0_enter_23 : decode cX0_enter 23 = .ok (.aload_n 0, 1) := dk_42 (dk_at dksX0_enter_0 23 rfl rfl)
theorem dX0_enter_24 : decode cX0_enter 24 = .ok (.getfield 22, 3) := dk_180 0 22 (dk_at dksX0_enter_1 0 rfl rfl)
theorem dX0_enter_27 : decode cX0_enter 27 = .ok (.iload_n 2, 1) := dk_28 (dk_at dksX0_enter_1 3 rfl rfl)
theorem dX0_enter_28 : decode cX0_enter 28 = .ok (.invokevirtual 26, 3) := dk_182 0 26 (dk_at dksX0_enter_1 4 rfl rfl)
theorem dX0_enter_31 : decode cX0_enter 31 = .ok (.iconst 1, 1) := dk_4 (dk_at dksX0_enter_1 7 rfl rfl)
theorem dX0_enter_32 : decode cX0_enter 32 = .ok (.ireturn, 1) := dk_172 (dk_at dksX0_enter_1 8 rfl rfl)
abbrev cX0_least : ByteArray := prog_6_method_4_code
def yX0_least : MethodName := ⟨RX0, "least", "()I"⟩
def dkwX0_least_0 : List UInt8 := [42, 180, 0, 22, 182, 0, 30, 154, 0, 7, 2, 167, 0, 10, 42, 180, 0, 22, 182, 0, 34, 172]
abbrev dktX0_least_0 : List UInt8 := dkwX0_least_0 ++ []
theorem dksX0_least_0 : cX0_least.data.toList.drop 0 = dktX0_least_0 := by decide +kernel
theorem dX0_least_0 : decode cX0_least 0 = .ok (.aload_n 0, 1) := dk_42 (dk_at dksX0_least_0 0 rfl rfl)
theorem dX0_least_1 : decode cX0_least 1 = .ok (.getfield 22, 3) := dk_180 0 22 (dk_at dksX0_least_0 1 rfl rfl)
theorem dX0_least_4 : decode cX0_least 4 = .ok (.invokevirtual 30, 3) := dk_182 0 30 (dk_at dksX0_least_0 4 rfl rfl)
theorem dX0_least_7 : decode cX0_least 7 = .ok (.ifCond .ne 7, 3) := dk_154 0 7 (dk_at dksX0_least_0 7 rfl rfl)
theorem dX0_least_10 : decode cX0_least 10 = .ok (.iconst (-1), 1) := dk_2 (dk_at dksX0_least_0 10 rfl rfl)
theorem dX0_least_11 : decode cX0_least 11 = .ok (.goto 10, 3) := dk_167 0 10 (dk_at dksX0_least_0 11 rfl rfl)
theorem dX0_least_14 : decode cX0_least 14 = .ok (.aload_n 0, 1) := dk_42 (dk_at dksX0_least_0 14 rfl rfl)
theorem dX0_least_15 : decode cX0_least 15 = .ok (.getfield 22, 3) := dk_180 0 22 (dk_at dksX0_least_0 15 rfl rfl)
theorem dX0_least_18 : decode cX0_least 18 = .ok (.invokevirtual 34, 3) := dk_182 0 34 (dk_at dksX0_least_0 18 rfl rfl)
theorem dX0_least_21 : decode cX0_least 21 = .ok (.ireturn, 1) := dk_172 (dk_at dksX0_least_0 21 rfl rfl)
abbrev cX0_take : ByteArray := prog_6_method_5_code
def yX0_take : MethodName := ⟨RX0, "take", "()I"⟩
def dkwX0_take_1 : List UInt8 := [27, 3, 84, 27, 172]
abbrev dktX0_take_1 : List UInt8 := dkwX0_take_1 ++ []
def dkwX0_take_0 : List UInt8 := [42, 180, 0, 22, 182, 0, 30, 154, 0, 5, 2, 172, 42, 180, 0, 22, 182, 0, 37, 60, 42, 180, 0, 13]
abbrev dktX0_take_0 : List UInt8 := dkwX0_take_0 ++ dktX0_take_1
theorem dksX0_take_0 : cX0_take.data.toList.drop 0 = dktX0_take_0 := by decide +kernel
theorem dksX0_take_1 : cX0_take.data.toList.drop 24 = dktX0_take_1 := dk_seg dksX0_take_0 24 rfl rfl
theorem dX0_take_0 : decode cX0_take 0 = .ok (.aload_n 0, 1) := dk_42 (dk_at dksX0_take_0 0 rfl rfl)
theorem dX0_take_1 : decode cX0_take 1 = .ok (.getfield 22, 3) := dk_180 0 22 (dk_at dksX0_take_0 1 rfl rfl)
theorem dX0_take_4 : decode cX0_take 4 = .ok (.invokevirtual 30, 3) := dk_182 0 30 (dk_at dksX0_take_0 4 rfl rfl)
theorem dX0_take_7 : decode cX0_take 7 = .ok (.ifCond .ne 5, 3) := dk_154 0 5 (dk_at dksX0_take_0 7 rfl rfl)
theorem dX0_take_10 : decode cX0_take 10 = .ok (.iconst (-1), 1) := dk_2 (dk_at dksX0_take_0 10 rfl rfl)
theorem dX0_take_11 : decode cX0_take 11 = .ok (.ireturn, 1) := dk_172 (dk_at dksX0_take_0 11 rfl rfl)
theorem dX0_take_12 : decode cX0_take 12 = .ok (.aload_n 0, 1) := dk_42 (dk_at dksX0_take_0 12 rfl rfl)
theorem dX0_take_13 : decode cX0_take 13 = .ok (.getfield 22, 3) := dk_180 0 22 (dk_at dksX0_take_0 13 rfl rfl)
theorem dX0_take_16 : decode cX0_take 16 = .ok (.invokevirtual 37, 3) := dk_182 0 37 (dk_at dksX0_take_0 16 rfl rfl)
theorem dX0_take_19 : decode cX0_take 19 = .ok (.istore_n 1, 1) := dk_60 (dk_at dksX0_take_0 19 rfl rfl)
theorem dX0_take_20 : decode cX0_take 20 = .ok (.aload_n 0, 1) := dk_42 (dk_at dksX0_take_0 20 rfl rfl)
theorem dX0_take_21 : decode cX0_take 21 = .ok (.getfield 13, 3) := dk_180 0 13 (dk_at dksX0_take_0 21 rfl rfl)
theorem dX0_take_24 : decode cX0_take 24 = .ok (.iload_n 1, 1) := dk_27 (dk_at dksX0_take_1 0 rfl rfl)
theorem dX0_take_25 : decode cX0_take 25 = .ok (.iconst 0, 1) := dk_3 (dk_at dksX0_take_1 1 rfl rfl)
theorem dX0_take_26 : decode cX0_take 26 = .ok (.bastore, 1) := dk_84 (dk_at dksX0_take_1 2 rfl rfl)
theorem dX0_take_27 : decode cX0_take 27 = .ok (.iload_n 1, 1) := dk_27 (dk_at dksX0_take_1 3 rfl rfl)
theorem dX0_take_28 : decode cX0_take 28 = .ok (.ireturn, 1) := dk_172 (dk_at dksX0_take_1 4 rfl rfl)
abbrev cX0_headChanged : ByteArray := prog_6_method_6_code
def yX0_headChanged : MethodName := ⟨RX0, "headChanged", "(I)Z"⟩
def dkwX0_headChanged_1 : List UInt8 := [28, 27, 16, 192, 126, 28, 128, 79, 42, 180, 0, 22, 182, 0, 40, 4, 172]
abbrev dktX0_headChanged_1 : List UInt8 := dkwX0_headChanged_1 ++ []
def dkwX0_headChanged_0 : List UInt8 := [42, 180, 0, 22, 182, 0, 30, 154, 0, 5, 3, 172, 42, 180, 0, 22, 182, 0, 34, 61, 42, 180, 0, 7]
abbrev dktX0_headChanged_0 : List UInt8 := dkwX0_headChanged_0 ++ dktX0_headChanged_1
theorem dksX0_headChanged_0 : cX0_headChanged.data.toList.drop 0 = dktX0_headChanged_0 := by decide +kernel
theorem dksX0_headChanged_1 : cX0_headChanged.data.toList.drop 24 = dktX0_headChanged_1 := dk_seg dksX0_headChanged_0 24 rfl rfl
theorem dX0_headChanged_0 : decode cX0_headChanged 0 = .ok (.aload_n 0, 1) := dk_42 (dk_at dksX0_headChanged_0 0 rfl rfl)
theorem dX0_headChanged_1 : decode cX0_headChanged 1 = .ok (.getfield 22, 3) := dk_180 0 22 (dk_at dksX0_headChanged_0 1 rfl rfl)
theorem dX0_headChanged_4 : decode cX0_headChanged 4 = .ok (.invokevirtual 30, 3) := dk_182 0 30 (dk_at dksX0_headChanged_0 4 rfl rfl)
theorem dX0_headChanged_7 : decode cX0_headChanged 7 = .ok (.ifCond .ne 5, 3) := dk_154 0 5 (dk_at dksX0_headChanged_0 7 rfl rfl)
theorem dX0_headChanged_10 : decode cX0_headChanged 10 = .ok (.iconst 0, 1) := dk_3 (dk_at dksX0_headChanged_0 10 rfl rfl)
theorem dX0_headChanged_11 : decode cX0_headChanged 11 = .ok (.ireturn, 1) := dk_172 (dk_at dksX0_headChanged_0 11 rfl rfl)
theorem dX0_headChanged_12 : decode cX0_headChanged 12 = .ok (.aload_n 0, 1) := dk_42 (dk_at dksX0_headChanged_0 12 rfl rfl)
theorem dX0_headChanged_13 : decode cX0_headChanged 13 = .ok (.getfield 22, 3) := dk_180 0 22 (dk_at dksX0_headChanged_0 13 rfl rfl)
theorem dX0_headChanged_16 : decode cX0_headChanged 16 = .ok (.invokevirtual 34, 3) := dk_182 0 34 (dk_at dksX0_headChanged_0 16 rfl rfl)
theorem dX0_headChanged_19 : decode cX0_headChanged 19 = .ok (.istore_n 2, 1) := dk_61 (dk_at dksX0_headChanged_0 19 rfl rfl)
theorem dX0_headChanged_20 : decode cX0_headChanged 20 = .ok (.aload_n 0, 1) := dk_42 (dk_at dksX0_headChanged_0 20 rfl rfl)
theorem dX0_headChanged_21 : decode cX0_headChanged 21 = .ok (.getfield 7, 3) := dk_180 0 7 (dk_at dksX0_headChanged_0 21 rfl rfl)
theorem dX0_headChanged_24 : decode cX0_headChanged 24 = .ok (.iload_n 2, 1) := dk_28 (dk_at dksX0_headChanged_1 0 rfl rfl)
theorem dX0_headChanged_25 : decode cX0_headChanged 25 = .ok (.iload_n 1, 1) := dk_27 (dk_at dksX0_headChanged_1 1 rfl rfl)
theorem dX0_headChanged_26 : decode cX0_headChanged 26 = .ok (.bipush (-64), 2) := dk_16 192 (dk_at dksX0_headChanged_1 2 rfl rfl)
theorem dX0_headChanged_28 : decode cX0_headChanged 28 = .ok (.iand, 1) := dk_126 (dk_at dksX0_headChanged_1 4 rfl rfl)
theorem dX0_headChanged_29 : decode cX0_headChanged 29 = .ok (.iload_n 2, 1) := dk_28 (dk_at dksX0_headChanged_1 5 rfl rfl)
theorem dX0_headChanged_30 : decode cX0_headChanged 30 = .ok (.ior, 1) := dk_128 (dk_at dksX0_headChanged_1 6 rfl rfl)
theorem dX0_headChanged_31 : decode cX0_headChanged 31 = .ok (.iastore, 1) := dk_79 (dk_at dksX0_headChanged_1 7 rfl rfl)
theorem dX0_headChanged_32 : decode cX0_headChanged 32 = .ok (.aload_n 0, 1) := dk_42 (dk_at dksX0_headChanged_1 8 rfl rfl)
theorem dX0_headChanged_33 : decode cX0_headChanged 33 = .ok (.getfield 22, 3) := dk_180 0 22 (dk_at dksX0_headChanged_1 9 rfl rfl)
theorem dX0_headChanged_36 : decode cX0_headChanged 36 = .ok (.invokevirtual 40, 3) := dk_182 0 40 (dk_at dksX0_headChanged_1 12 rfl rfl)
theorem dX0_headChanged_39 : decode cX0_headChanged 39 = .ok (.iconst 1, 1) := dk_4 (dk_at dksX0_headChanged_1 15 rfl rfl)
theorem dX0_headChanged_40 : decode cX0_headChanged 40 = .ok (.ireturn, 1) := dk_172 (dk_at dksX0_headChanged_1 16 rfl rfl)
abbrev cX0_all : ByteArray := prog_6_method_7_code
def yX0_all : MethodName := ⟨RX0, "all", "(I)V"⟩
def dkwX0_all_1 : List UInt8 := [104, 96, 16, 192, 126, 28, 128, 79, 132, 2, 1, 167, 255, 223, 42, 180, 0, 22, 182, 0, 43, 177]
abbrev dktX0_all_1 : List UInt8 := dkwX0_all_1 ++ []
def dkwX0_all_0 : List UInt8 := [3, 61, 28, 16, 64, 162, 0, 33, 42, 180, 0, 7, 28, 42, 180, 0, 7, 28, 46, 27, 28, 104, 16, 64]
abbrev dktX0_all_0 : List UInt8 := dkwX0_all_0 ++ dktX0_all_1
theorem dksX0_all_0 : cX0_all.data.toList.drop 0 = dktX0_all_0 := by decide +kernel
theorem dksX0_all_1 : cX0_all.data.toList.drop 24 = dktX0_all_1 := dk_seg dksX0_all_0 24 rfl rfl
theorem dX0_all_0 : decode cX0_all 0 = .ok (.iconst 0, 1) := dk_3 (dk_at dksX0_all_0 0 rfl rfl)
theorem dX0_all_1 : decode cX0_all 1 = .ok (.istore_n 2, 1) := dk_61 (dk_at dksX0_all_0 1 rfl rfl)
theorem dX0_all_2 : decode cX0_all 2 = .ok (.iload_n 2, 1) := dk_28 (dk_at dksX0_all_0 2 rfl rfl)
theorem dX0_all_3 : decode cX0_all 3 = .ok (.bipush 64, 2) := dk_16 64 (dk_at dksX0_all_0 3 rfl rfl)
theorem dX0_all_5 : decode cX0_all 5 = .ok (.if_icmp .ge 33, 3) := dk_162 0 33 (dk_at dksX0_all_0 5 rfl rfl)
theorem dX0_all_8 : decode cX0_all 8 = .ok (.aload_n 0, 1) := dk_42 (dk_at dksX0_all_0 8 rfl rfl)
theorem dX0_all_9 : decode cX0_all 9 = .ok (.getfield 7, 3) := dk_180 0 7 (dk_at dksX0_all_0 9 rfl rfl)
theorem dX0_all_12 : decode cX0_all 12 = .ok (.iload_n 2, 1) := dk_28 (dk_at dksX0_all_0 12 rfl rfl)
theorem dX0_all_13 : decode cX0_all 13 = .ok (.aload_n 0, 1) := dk_42 (dk_at dksX0_all_0 13 rfl rfl)
theorem dX0_all_14 : decode cX0_all 14 = .ok (.getfield 7, 3) := dk_180 0 7 (dk_at dksX0_all_0 14 rfl rfl)
theorem dX0_all_17 : decode cX0_all 17 = .ok (.iload_n 2, 1) := dk_28 (dk_at dksX0_all_0 17 rfl rfl)
theorem dX0_all_18 : decode cX0_all 18 = .ok (.iaload, 1) := dk_46 (dk_at dksX0_all_0 18 rfl rfl)
theorem dX0_all_19 : decode cX0_all 19 = .ok (.iload_n 1, 1) := dk_27 (dk_at dksX0_all_0 19 rfl rfl)
theorem dX0_all_20 : decode cX0_all 20 = .ok (.iload_n 2, 1) := dk_28 (dk_at dksX0_all_0 20 rfl rfl)
theorem dX0_all_21 : decode cX0_all 21 = .ok (.imul, 1) := dk_104 (dk_at dksX0_all_0 21 rfl rfl)
theorem dX0_all_22 : decode cX0_all 22 = .ok (.bipush 64, 2) := dk_16 64 (dk_at dksX0_all_0 22 rfl rfl)
theorem dX0_all_24 : decode cX0_all 24 = .ok (.imul, 1) := dk_104 (dk_at dksX0_all_1 0 rfl rfl)
theorem dX0_all_25 : decode cX0_all 25 = .ok (.iadd, 1) := dk_96 (dk_at dksX0_all_1 1 rfl rfl)
theorem dX0_all_26 : decode cX0_all 26 = .ok (.bipush (-64), 2) := dk_16 192 (dk_at dksX0_all_1 2 rfl rfl)
theorem dX0_all_28 : decode cX0_all 28 = .ok (.iand, 1) := dk_126 (dk_at dksX0_all_1 4 rfl rfl)
theorem dX0_all_29 : decode cX0_all 29 = .ok (.iload_n 2, 1) := dk_28 (dk_at dksX0_all_1 5 rfl rfl)
theorem dX0_all_30 : decode cX0_all 30 = .ok (.ior, 1) := dk_128 (dk_at dksX0_all_1 6 rfl rfl)
theorem dX0_all_31 : decode cX0_all 31 = .ok (.iastore, 1) := dk_79 (dk_at dksX0_all_1 7 rfl rfl)
theorem dX0_all_32 : decode cX0_all 32 = .ok (.iinc 2 1, 3) := dk_132 2 1 (dk_at dksX0_all_1 8 rfl rfl)
theorem dX0_all_35 : decode cX0_all 35 = .ok (.goto (-33), 3) := dk_167 255 223 (dk_at dksX0_all_1 11 rfl rfl)
theorem dX0_all_38 : decode cX0_all 38 = .ok (.aload_n 0, 1) := dk_42 (dk_at dksX0_all_1 14 rfl rfl)
theorem dX0_all_39 : decode cX0_all 39 = .ok (.getfield 22, 3) := dk_180 0 22 (dk_at dksX0_all_1 15 rfl rfl)
theorem dX0_all_42 : decode cX0_all 42 = .ok (.invokevirtual 43, 3) := dk_182 0 43 (dk_at dksX0_all_1 18 rfl rfl)
theorem dX0_all_45 : decode cX0_all 45 = .ok (.return_, 1) := dk_177 (dk_at dksX0_all_1 21 rfl rfl)
abbrev cX0_front : ByteArray := prog_6_method_8_code
def yX0_front : MethodName := ⟨RX0, "front", "()I"⟩
def dkwX0_front_1 : List UInt8 := [182, 0, 46, 61, 16, 100, 28, 104, 43, 3, 46, 96, 172]
abbrev dktX0_front_1 : List UInt8 := dkwX0_front_1 ++ []
def dkwX0_front_0 : List UInt8 := [42, 180, 0, 22, 182, 0, 30, 154, 0, 5, 3, 172, 16, 64, 188, 10, 76, 42, 180, 0, 22, 43]
abbrev dktX0_front_0 : List UInt8 := dkwX0_front_0 ++ dktX0_front_1
theorem dksX0_front_0 : cX0_front.data.toList.drop 0 = dktX0_front_0 := by decide +kernel
theorem dksX0_front_1 : cX0_front.data.toList.drop 22 = dktX0_front_1 := dk_seg dksX0_front_0 22 rfl rfl
theorem dX0_front_0 : decode cX0_front 0 = .ok (.aload_n 0, 1) := dk_42 (dk_at dksX0_front_0 0 rfl rfl)
theorem dX0_front_1 : decode cX0_front 1 = .ok (.getfield 22, 3) := dk_180 0 22 (dk_at dksX0_front_0 1 rfl rfl)
theorem dX0_front_4 : decode cX0_front 4 = .ok (.invokevirtual 30, 3) := dk_182 0 30 (dk_at dksX0_front_0 4 rfl rfl)
theorem dX0_front_7 : decode cX0_front 7 = .ok (.ifCond .ne 5, 3) := dk_154 0 5 (dk_at dksX0_front_0 7 rfl rfl)
theorem dX0_front_10 : decode cX0_front 10 = .ok (.iconst 0, 1) := dk_3 (dk_at dksX0_front_0 10 rfl rfl)
theorem dX0_front_11 : decode cX0_front 11 = .ok (.ireturn, 1) := dk_172 (dk_at dksX0_front_0 11 rfl rfl)
theorem dX0_front_12 : decode cX0_front 12 = .ok (.bipush 64, 2) := dk_16 64 (dk_at dksX0_front_0 12 rfl rfl)
theorem dX0_front_14 : decode cX0_front 14 = .ok (.newarray .int, 2) := dk_188_10 (dk_at dksX0_front_0 14 rfl rfl)
theorem dX0_front_16 : decode cX0_front 16 = .ok (.astore_n 1, 1) := dk_76 (dk_at dksX0_front_0 16 rfl rfl)
theorem dX0_front_17 : decode cX0_front 17 = .ok (.aload_n 0, 1) := dk_42 (dk_at dksX0_front_0 17 rfl rfl)
theorem dX0_front_18 : decode cX0_front 18 = .ok (.getfield 22, 3) := dk_180 0 22 (dk_at dksX0_front_0 18 rfl rfl)
theorem dX0_front_21 : decode cX0_front 21 = .ok (.aload_n 1, 1) := dk_43 (dk_at dksX0_front_0 21 rfl rfl)
theorem dX0_front_22 : decode cX0_front 22 = .ok (.invokevirtual 46, 3) := dk_182 0 46 (dk_at dksX0_front_1 0 rfl rfl)
theorem dX0_front_25 : decode cX0_front 25 = .ok (.istore_n 2, 1) := dk_61 (dk_at dksX0_front_1 3 rfl rfl)
theorem dX0_front_26 : decode cX0_front 26 = .ok (.bipush 100, 2) := dk_16 100 (dk_at dksX0_front_1 4 rfl rfl)
theorem dX0_front_28 : decode cX0_front 28 = .ok (.iload_n 2, 1) := dk_28 (dk_at dksX0_front_1 6 rfl rfl)
theorem dX0_front_29 : decode cX0_front 29 = .ok (.imul, 1) := dk_104 (dk_at dksX0_front_1 7 rfl rfl)
theorem dX0_front_30 : decode cX0_front 30 = .ok (.aload_n 1, 1) := dk_43 (dk_at dksX0_front_1 8 rfl rfl)
theorem dX0_front_31 : decode cX0_front 31 = .ok (.iconst 0, 1) := dk_3 (dk_at dksX0_front_1 9 rfl rfl)
theorem dX0_front_32 : decode cX0_front 32 = .ok (.iaload, 1) := dk_46 (dk_at dksX0_front_1 10 rfl rfl)
theorem dX0_front_33 : decode cX0_front 33 = .ok (.iadd, 1) := dk_96 (dk_at dksX0_front_1 11 rfl rfl)
theorem dX0_front_34 : decode cX0_front 34 = .ok (.ireturn, 1) := dk_172 (dk_at dksX0_front_1 12 rfl rfl)
abbrev cX0_waiting : ByteArray := prog_6_method_9_code
def yX0_waiting : MethodName := ⟨RX0, "waiting", "()I"⟩
def dkwX0_waiting_0 : List UInt8 := [42, 180, 0, 22, 182, 0, 30, 172]
abbrev dktX0_waiting_0 : List UInt8 := dkwX0_waiting_0 ++ []
theorem dksX0_waiting_0 : cX0_waiting.data.toList.drop 0 = dktX0_waiting_0 := by decide +kernel
theorem dX0_waiting_0 : decode cX0_waiting 0 = .ok (.aload_n 0, 1) := dk_42 (dk_at dksX0_waiting_0 0 rfl rfl)
theorem dX0_waiting_1 : decode cX0_waiting 1 = .ok (.getfield 22, 3) := dk_180 0 22 (dk_at dksX0_waiting_0 1 rfl rfl)
theorem dX0_waiting_4 : decode cX0_waiting 4 = .ok (.invokevirtual 30, 3) := dk_182 0 30 (dk_at dksX0_waiting_0 4 rfl rfl)
theorem dX0_waiting_7 : decode cX0_waiting 7 = .ok (.ireturn, 1) := dk_172 (dk_at dksX0_waiting_0 7 rfl rfl)
abbrev cX0_value : ByteArray := prog_6_method_10_code
def yX0_value : MethodName := ⟨RX0, "value", "(I)I"⟩
def dkwX0_value_0 : List UInt8 := [42, 180, 0, 7, 27, 16, 63, 126, 46, 172]
abbrev dktX0_value_0 : List UInt8 := dkwX0_value_0 ++ []
theorem dksX0_value_0 : cX0_value.data.toList.drop 0 = dktX0_value_0 := by decide +kernel
theorem dX0_value_0 : decode cX0_value 0 = .ok (.aload_n 0, 1) := dk_42 (dk_at dksX0_value_0 0 rfl rfl)
theorem dX0_value_1 : decode cX0_value 1 = .ok (.getfield 7, 3) := dk_180 0 7 (dk_at dksX0_value_0 1 rfl rfl)
theorem dX0_value_4 : decode cX0_value 4 = .ok (.iload_n 1, 1) := dk_27 (dk_at dksX0_value_0 4 rfl rfl)
theorem dX0_value_5 : decode cX0_value 5 = .ok (.bipush 63, 2) := dk_16 63 (dk_at dksX0_value_0 5 rfl rfl)
theorem dX0_value_7 : decode cX0_value 7 = .ok (.iand, 1) := dk_126 (dk_at dksX0_value_0 7 rfl rfl)
theorem dX0_value_8 : decode cX0_value 8 = .ok (.iaload, 1) := dk_46 (dk_at dksX0_value_0 8 rfl rfl)
theorem dX0_value_9 : decode cX0_value 9 = .ok (.ireturn, 1) := dk_172 (dk_at dksX0_value_0 9 rfl rfl)
abbrev cX0_drain : ByteArray := prog_6_method_11_code
def yX0_drain : MethodName := ⟨RX0, "drain", "()V"⟩
def dkwX0_drain_1 : List UInt8 := [132, 1, 1, 167, 255, 240, 177]
abbrev dktX0_drain_1 : List UInt8 := dkwX0_drain_1 ++ []
def dkwX0_drain_0 : List UInt8 := [42, 180, 0, 22, 182, 0, 50, 3, 60, 27, 16, 64, 162, 0, 16, 42, 180, 0, 13, 27, 3, 84]
abbrev dktX0_drain_0 : List UInt8 := dkwX0_drain_0 ++ dktX0_drain_1
theorem dksX0_drain_0 : cX0_drain.data.toList.drop 0 = dktX0_drain_0 := by decide +kernel
theorem dksX0_drain_1 : cX0_drain.data.toList.drop 22 = dktX0_drain_1 := dk_seg dksX0_drain_0 22 rfl rfl
theorem dX0_drain_0 : decode cX0_drain 0 = .ok (.aload_n 0, 1) := dk_42 (dk_at dksX0_drain_0 0 rfl rfl)
theorem dX0_drain_1 : decode cX0_drain 1 = .ok (.getfield 22, 3) := dk_180 0 22 (dk_at dksX0_drain_0 1 rfl rfl)
theorem dX0_drain_4 : decode cX0_drain 4 = .ok (.invokevirtual 50, 3) := dk_182 0 50 (dk_at dksX0_drain_0 4 rfl rfl)
theorem dX0_drain_7 : decode cX0_drain 7 = .ok (.iconst 0, 1) := dk_3 (dk_at dksX0_drain_0 7 rfl rfl)
theorem dX0_drain_8 : decode cX0_drain 8 = .ok (.istore_n 1, 1) := dk_60 (dk_at dksX0_drain_0 8 rfl rfl)
theorem dX0_drain_9 : decode cX0_drain 9 = .ok (.iload_n 1, 1) := dk_27 (dk_at dksX0_drain_0 9 rfl rfl)
theorem dX0_drain_10 : decode cX0_drain 10 = .ok (.bipush 64, 2) := dk_16 64 (dk_at dksX0_drain_0 10 rfl rfl)
theorem dX0_drain_12 : decode cX0_drain 12 = .ok (.if_icmp .ge 16, 3) := dk_162 0 16 (dk_at dksX0_drain_0 12 rfl rfl)
theorem dX0_drain_15 : decode cX0_drain 15 = .ok (.aload_n 0, 1) := dk_42 (dk_at dksX0_drain_0 15 rfl rfl)
theorem dX0_drain_16 : decode cX0_drain 16 = .ok (.getfield 13, 3) := dk_180 0 13 (dk_at dksX0_drain_0 16 rfl rfl)
theorem dX0_drain_19 : decode cX0_drain 19 = .ok (.iload_n 1, 1) := dk_27 (dk_at dksX0_drain_0 19 rfl rfl)
theorem dX0_drain_20 : decode cX0_drain 20 = .ok (.iconst 0, 1) := dk_3 (dk_at dksX0_drain_0 20 rfl rfl)
theorem dX0_drain_21 : decode cX0_drain 21 = .ok (.bastore, 1) := dk_84 (dk_at dksX0_drain_0 21 rfl rfl)
theorem dX0_drain_22 : decode cX0_drain 22 = .ok (.iinc 1 1, 3) := dk_132 1 1 (dk_at dksX0_drain_1 0 rfl rfl)
theorem dX0_drain_25 : decode cX0_drain 25 = .ok (.goto (-16), 3) := dk_167 255 240 (dk_at dksX0_drain_1 3 rfl rfl)
theorem dX0_drain_28 : decode cX0_drain 28 = .ok (.return_, 1) := dk_177 (dk_at dksX0_drain_1 6 rfl rfl)
theorem q3 : (Jvm.Cond.initialized "SemiHeapDesk") ∈ lw_all := lw_g (lw_at lw_m1 1 rfl) rfl
theorem q16 : (Jvm.Cond.instantiable "SemiHeapDesk" (3 : Nat)) ∈ lw_all := lw_g (lw_at lw_m1 14 rfl) rfl
theorem q18 : (Jvm.Cond.instanceMethod ({ cls := "SemiHeapDesk", name := "<init>", desc := "()V" } : Jvm.MethodName)) ∈ lw_all := lw_g (lw_at lw_m1 16 rfl) rfl
theorem q19 : (Jvm.Cond.code ({ cls := "SemiHeapDesk", name := "<init>", desc := "()V" } : Jvm.MethodName) prog_6_method_1_code (2 : Nat) (Option.none : Option Jvm.ClassFile.FieldType)) ∈ lw_all := lw_g (lw_at lw_m1 17 rfl) rfl
theorem q20 : (Jvm.Cond.methodLink "SemiHeapDesk" (1 : Nat) ({ cls := "java/lang/Object", name := "<init>", desc := "()V" } : Jvm.MethodName)) ∈ lw_all := lw_g (lw_at lw_m1 18 rfl) rfl
theorem q23 : (Jvm.Cond.classLink "SemiHeapDesk" (17 : Nat) "IntHeapSemiIndirectPriorityQueue") ∈ lw_all := lw_g (lw_at lw_m1 21 rfl) rfl
theorem q25 : (Jvm.Cond.methodLink "SemiHeapDesk" (19 : Nat) ({ cls := "IntHeapSemiIndirectPriorityQueue", name := "<init>", desc := "([I)V" } : Jvm.MethodName)) ∈ lw_all := lw_g (lw_at lw_m1 23 rfl) rfl
theorem q49 : (Jvm.Cond.fieldLink "SemiHeapDesk" (7 : Nat) "SemiHeapDesk" "value" "[I") ∈ lw_all := lw_g (lw_at lw_m1 47 rfl) rfl
theorem q50 : (Jvm.Cond.fieldLink "SemiHeapDesk" (13 : Nat) "SemiHeapDesk" "inside" "[Z") ∈ lw_all := lw_g (lw_at lw_m1 48 rfl) rfl
theorem q51 : (Jvm.Cond.fieldLink "SemiHeapDesk" (22 : Nat) "SemiHeapDesk" "heap" "LIntHeapSemiIndirectPriorityQueue;") ∈ lw_all := lw_g (lw_at lw_m1 49 rfl) rfl
theorem q52 : (Jvm.Cond.laysFinal "SemiHeapDesk" "SemiHeapDesk" "value" "[I") ∈ lw_all := lw_g (lw_at lw_m1 50 rfl) rfl
theorem q53 : (Jvm.Cond.soleField "SemiHeapDesk" "value") ∈ lw_all := lw_g (lw_at lw_m1 51 rfl) rfl
theorem q54 : (Jvm.Cond.laysFinal "SemiHeapDesk" "SemiHeapDesk" "inside" "[Z") ∈ lw_all := lw_g (lw_at lw_m1 52 rfl) rfl
theorem q55 : (Jvm.Cond.soleField "SemiHeapDesk" "inside") ∈ lw_all := lw_g (lw_at lw_m1 53 rfl) rfl
theorem q56 : (Jvm.Cond.laysFinal "SemiHeapDesk" "SemiHeapDesk" "heap" "LIntHeapSemiIndirectPriorityQueue;") ∈ lw_all := lw_g (lw_at lw_m1 54 rfl) rfl
theorem q57 : (Jvm.Cond.soleField "SemiHeapDesk" "heap") ∈ lw_all := lw_g (lw_at lw_m1 55 rfl) rfl
theorem q58 : (Jvm.Cond.superclass "SemiHeapDesk" "java/lang/Object") ∈ lw_all := lw_g (lw_at lw_m1 56 rfl) rfl
theorem q60 : (Jvm.Cond.instanceMethod ({ cls := "SemiHeapDesk", name := "change", desc := "(II)Z" } : Jvm.MethodName)) ∈ lw_all := lw_g (lw_at lw_m1 58 rfl) rfl
theorem q61 : (Jvm.Cond.selects "SemiHeapDesk" ({ cls := "SemiHeapDesk", name := "change", desc := "(II)Z" } : Jvm.MethodName) ({ cls := "SemiHeapDesk", name := "change", desc := "(II)Z" } : Jvm.MethodName)) ∈ lw_all := lw_g (lw_at lw_m1 59 rfl) rfl
theorem q62 : (Jvm.Cond.code ({ cls := "SemiHeapDesk", name := "change", desc := "(II)Z" } : Jvm.MethodName) prog_6_method_2_code (4 : Nat) (Option.some Jvm.ClassFile.FieldType.boolean)) ∈ lw_all := lw_g (lw_at lw_m1 60 rfl) rfl
theorem q64 : (Jvm.Cond.instanceMethod ({ cls := "SemiHeapDesk", name := "enter", desc := "(I)Z" } : Jvm.MethodName)) ∈ lw_all := lw_g (lw_at lw_m1 62 rfl) rfl
theorem q65 : (Jvm.Cond.selects "SemiHeapDesk" ({ cls := "SemiHeapDesk", name := "enter", desc := "(I)Z" } : Jvm.MethodName) ({ cls := "SemiHeapDesk", name := "enter", desc := "(I)Z" } : Jvm.MethodName)) ∈ lw_all := lw_g (lw_at lw_m1 63 rfl) rfl
theorem q66 : (Jvm.Cond.code ({ cls := "SemiHeapDesk", name := "enter", desc := "(I)Z" } : Jvm.MethodName) prog_6_method_3_code (3 : Nat) (Option.some Jvm.ClassFile.FieldType.boolean)) ∈ lw_all := lw_g (lw_at lw_m1 64 rfl) rfl
theorem q67 : (Jvm.Cond.methodLink "SemiHeapDesk" (26 : Nat) ({ cls := "IntHeapSemiIndirectPriorityQueue", name := "enqueue", desc := "(I)V" } : Jvm.MethodName)) ∈ lw_all := lw_g (lw_at lw_m1 65 rfl) rfl
theorem q162 : (Jvm.Cond.instanceMethod ({ cls := "SemiHeapDesk", name := "least", desc := "()I" } : Jvm.MethodName)) ∈ lw_all := lw_g (lw_at lw_m1 160 rfl) rfl
theorem q163 : (Jvm.Cond.selects "SemiHeapDesk" ({ cls := "SemiHeapDesk", name := "least", desc := "()I" } : Jvm.MethodName) ({ cls := "SemiHeapDesk", name := "least", desc := "()I" } : Jvm.MethodName)) ∈ lw_all := lw_g (lw_at lw_m1 161 rfl) rfl
theorem q164 : (Jvm.Cond.code ({ cls := "SemiHeapDesk", name := "least", desc := "()I" } : Jvm.MethodName) prog_6_method_4_code (1 : Nat) (Option.some Jvm.ClassFile.FieldType.int)) ∈ lw_all := lw_g (lw_at lw_m1 162 rfl) rfl
theorem q165 : (Jvm.Cond.methodLink "SemiHeapDesk" (30 : Nat) ({ cls := "IntHeapSemiIndirectPriorityQueue", name := "size", desc := "()I" } : Jvm.MethodName)) ∈ lw_all := lw_g (lw_at lw_m1 163 rfl) rfl
theorem q169 : (Jvm.Cond.methodLink "SemiHeapDesk" (34 : Nat) ({ cls := "IntHeapSemiIndirectPriorityQueue", name := "first", desc := "()I" } : Jvm.MethodName)) ∈ lw_all := lw_g (lw_at lw_m1 167 rfl) rfl
theorem q195 : (Jvm.Cond.instanceMethod ({ cls := "SemiHeapDesk", name := "take", desc := "()I" } : Jvm.MethodName)) ∈ lw_all := lw_g (lw_at lw_m1 193 rfl) rfl
theorem q196 : (Jvm.Cond.selects "SemiHeapDesk" ({ cls := "SemiHeapDesk", name := "take", desc := "()I" } : Jvm.MethodName) ({ cls := "SemiHeapDesk", name := "take", desc := "()I" } : Jvm.MethodName)) ∈ lw_all := lw_g (lw_at lw_m1 194 rfl) rfl
theorem q197 : (Jvm.Cond.code ({ cls := "SemiHeapDesk", name := "take", desc := "()I" } : Jvm.MethodName) prog_6_method_5_code (2 : Nat) (Option.some Jvm.ClassFile.FieldType.int)) ∈ lw_all := lw_g (lw_at lw_m1 195 rfl) rfl
theorem q198 : (Jvm.Cond.methodLink "SemiHeapDesk" (37 : Nat) ({ cls := "IntHeapSemiIndirectPriorityQueue", name := "dequeue", desc := "()I" } : Jvm.MethodName)) ∈ lw_all := lw_g (lw_at lw_m1 196 rfl) rfl
theorem q206 : (Jvm.Cond.instanceMethod ({ cls := "SemiHeapDesk", name := "headChanged", desc := "(I)Z" } : Jvm.MethodName)) ∈ lw_all := lw_g (lw_at lw_m1 204 rfl) rfl
theorem q207 : (Jvm.Cond.selects "SemiHeapDesk" ({ cls := "SemiHeapDesk", name := "headChanged", desc := "(I)Z" } : Jvm.MethodName) ({ cls := "SemiHeapDesk", name := "headChanged", desc := "(I)Z" } : Jvm.MethodName)) ∈ lw_all := lw_g (lw_at lw_m1 205 rfl) rfl
theorem q208 : (Jvm.Cond.code ({ cls := "SemiHeapDesk", name := "headChanged", desc := "(I)Z" } : Jvm.MethodName) prog_6_method_6_code (3 : Nat) (Option.some Jvm.ClassFile.FieldType.boolean)) ∈ lw_all := lw_g (lw_at lw_m1 206 rfl) rfl
theorem q209 : (Jvm.Cond.methodLink "SemiHeapDesk" (40 : Nat) ({ cls := "IntHeapSemiIndirectPriorityQueue", name := "changed", desc := "()V" } : Jvm.MethodName)) ∈ lw_all := lw_g (lw_at lw_m1 207 rfl) rfl
theorem q214 : (Jvm.Cond.instanceMethod ({ cls := "SemiHeapDesk", name := "all", desc := "(I)V" } : Jvm.MethodName)) ∈ lw_all := lw_g (lw_at lw_m1 212 rfl) rfl
theorem q215 : (Jvm.Cond.selects "SemiHeapDesk" ({ cls := "SemiHeapDesk", name := "all", desc := "(I)V" } : Jvm.MethodName) ({ cls := "SemiHeapDesk", name := "all", desc := "(I)V" } : Jvm.MethodName)) ∈ lw_all := lw_g (lw_at lw_m1 213 rfl) rfl
theorem q216 : (Jvm.Cond.code ({ cls := "SemiHeapDesk", name := "all", desc := "(I)V" } : Jvm.MethodName) prog_6_method_7_code (3 : Nat) (Option.none : Option Jvm.ClassFile.FieldType)) ∈ lw_all := lw_g (lw_at lw_m1 214 rfl) rfl
theorem q217 : (Jvm.Cond.methodLink "SemiHeapDesk" (43 : Nat) ({ cls := "IntHeapSemiIndirectPriorityQueue", name := "allChanged", desc := "()V" } : Jvm.MethodName)) ∈ lw_all := lw_g (lw_at lw_m1 215 rfl) rfl
theorem q226 : (Jvm.Cond.instanceMethod ({ cls := "SemiHeapDesk", name := "front", desc := "()I" } : Jvm.MethodName)) ∈ lw_all := lw_g (lw_at lw_m1 224 rfl) rfl
theorem q227 : (Jvm.Cond.selects "SemiHeapDesk" ({ cls := "SemiHeapDesk", name := "front", desc := "()I" } : Jvm.MethodName) ({ cls := "SemiHeapDesk", name := "front", desc := "()I" } : Jvm.MethodName)) ∈ lw_all := lw_g (lw_at lw_m1 225 rfl) rfl
theorem q228 : (Jvm.Cond.code ({ cls := "SemiHeapDesk", name := "front", desc := "()I" } : Jvm.MethodName) prog_6_method_8_code (3 : Nat) (Option.some Jvm.ClassFile.FieldType.int)) ∈ lw_all := lw_g (lw_at lw_m1 226 rfl) rfl
theorem q229 : (Jvm.Cond.methodLink "SemiHeapDesk" (46 : Nat) ({ cls := "IntHeapSemiIndirectPriorityQueue", name := "front", desc := "([I)I" } : Jvm.MethodName)) ∈ lw_all := lw_g (lw_at lw_m1 227 rfl) rfl
theorem q243 : (Jvm.Cond.instanceMethod ({ cls := "SemiHeapDesk", name := "waiting", desc := "()I" } : Jvm.MethodName)) ∈ lw_all := lw_g (lw_at lw_m2 1 rfl) rfl
theorem q244 : (Jvm.Cond.selects "SemiHeapDesk" ({ cls := "SemiHeapDesk", name := "waiting", desc := "()I" } : Jvm.MethodName) ({ cls := "SemiHeapDesk", name := "waiting", desc := "()I" } : Jvm.MethodName)) ∈ lw_all := lw_g (lw_at lw_m2 2 rfl) rfl
theorem q245 : (Jvm.Cond.code ({ cls := "SemiHeapDesk", name := "waiting", desc := "()I" } : Jvm.MethodName) prog_6_method_9_code (1 : Nat) (Option.some Jvm.ClassFile.FieldType.int)) ∈ lw_all := lw_g (lw_at lw_m2 3 rfl) rfl
theorem q247 : (Jvm.Cond.instanceMethod ({ cls := "SemiHeapDesk", name := "value", desc := "(I)I" } : Jvm.MethodName)) ∈ lw_all := lw_g (lw_at lw_m2 5 rfl) rfl
theorem q248 : (Jvm.Cond.selects "SemiHeapDesk" ({ cls := "SemiHeapDesk", name := "value", desc := "(I)I" } : Jvm.MethodName) ({ cls := "SemiHeapDesk", name := "value", desc := "(I)I" } : Jvm.MethodName)) ∈ lw_all := lw_g (lw_at lw_m2 6 rfl) rfl
theorem q249 : (Jvm.Cond.code ({ cls := "SemiHeapDesk", name := "value", desc := "(I)I" } : Jvm.MethodName) prog_6_method_10_code (2 : Nat) (Option.some Jvm.ClassFile.FieldType.int)) ∈ lw_all := lw_g (lw_at lw_m2 7 rfl) rfl
theorem q251 : (Jvm.Cond.instanceMethod ({ cls := "SemiHeapDesk", name := "drain", desc := "()V" } : Jvm.MethodName)) ∈ lw_all := lw_g (lw_at lw_m2 9 rfl) rfl
theorem q252 : (Jvm.Cond.selects "SemiHeapDesk" ({ cls := "SemiHeapDesk", name := "drain", desc := "()V" } : Jvm.MethodName) ({ cls := "SemiHeapDesk", name := "drain", desc := "()V" } : Jvm.MethodName)) ∈ lw_all := lw_g (lw_at lw_m2 10 rfl) rfl
theorem q253 : (Jvm.Cond.code ({ cls := "SemiHeapDesk", name := "drain", desc := "()V" } : Jvm.MethodName) prog_6_method_11_code (2 : Nat) (Option.none : Option Jvm.ClassFile.FieldType)) ∈ lw_all := lw_g (lw_at lw_m2 11 rfl) rfl
theorem q254 : (Jvm.Cond.methodLink "SemiHeapDesk" (50 : Nat) ({ cls := "IntHeapSemiIndirectPriorityQueue", name := "clear", desc := "()V" } : Jvm.MethodName)) ∈ lw_all := lw_g (lw_at lw_m2 12 rfl) rfl
theorem q319 : (Jvm.Cond.castable "SemiHeapDesk" "java/lang/Object") ∈ lw_tbl := lw_at lw_m2 77 rfl
theorem in_X0 : ∀ w ∈ wsX00, w ∈ lw_all := lw_in wsX00 [52, 54, 56] (by decide +kernel) (by decide +kernel)
/-! SemiHeapDeskModel -/
set_option maxRecDepth 100000
def RX3 : String := "SemiHeapDeskModel"
def TX3 : u_T := fun k => match k with
  | 0 => ("SemiHeapDeskModel", "value", "[I", true)
  | _ => ("SemiHeapDeskModel", "waits", "[Z", true)
def tyX3 : Nat → FieldType := fun k => match k with
  | 0 => .array .int
  | _ => .array .boolean
abbrev wsX30 : List Cond := u_ws RX3 TX3 2
theorem nmX3 : ∀ a, a < 2 → ∀ b, b < 2 → a ≠ b → (TX3 a).2.1 ≠ (TX3 b).2.1 := by decide +kernel
theorem tyX3_ok : ∀ k, k < 2 → parseFieldDescriptor (TX3 k).2.2.1 = some (tyX3 k) := by decide +kernel
abbrev cX3_init : ByteArray := prog_8_method_1_code
def yX3_init : MethodName := ⟨RX3, "<init>", "()V"⟩
def dkwX3_init_1 : List UInt8 := [16, 64, 162, 0, 16, 42, 180, 0, 7, 27, 27, 79, 132, 1, 1, 167, 255, 240, 177]
abbrev dktX3_init_1 : List UInt8 := dkwX3_init_1 ++ []
def dkwX3_init_0 : List UInt8 := [42, 183, 0, 1, 42, 16, 64, 188, 10, 181, 0, 7, 42, 16, 64, 188, 4, 181, 0, 13, 3, 60, 27]
abbrev dktX3_init_0 : List UInt8 := dkwX3_init_0 ++ dktX3_init_1
theorem dksX3_init_0 : cX3_init.data.toList.drop 0 = dktX3_init_0 := by decide +kernel
theorem dksX3_init_1 : cX3_init.data.toList.drop 23 = dktX3_init_1 := dk_seg dksX3_init_0 23 rfl rfl
theorem dX3_init_0 : decode cX3_init 0 = .ok (.aload_n 0, 1) := dk_42 (dk_at dksX3_init_0 0 rfl rfl)
theorem dX3_init_1 : decode cX3_init 1 = .ok (.invokespecial 1, 3) := dk_183 0 1 (dk_at dksX3_init_0 1 rfl rfl)
theorem dX3_init_4 : decode cX3_init 4 = .ok (.aload_n 0, 1) := dk_42 (dk_at dksX3_init_0 4 rfl rfl)
theorem dX3_init_5 : decode cX3_init 5 = .ok (.bipush 64, 2) := dk_16 64 (dk_at dksX3_init_0 5 rfl rfl)
theorem dX3_init_7 : decode cX3_init 7 = .ok (.newarray .int, 2) := dk_188_10 (dk_at dksX3_init_0 7 rfl rfl)
theorem dX3_init_9 : decode cX3_init 9 = .ok (.putfield 7, 3) := dk_181 0 7 (dk_at dksX3_init_0 9 rfl rfl)
theorem dX3_init_12 : decode cX3_init 12 = .ok (.aload_n 0, 1) := dk_42 (dk_at dksX3_init_0 12 rfl rfl)
theorem dX3_init_13 : decode cX3_init 13 = .ok (.bipush 64, 2) := dk_16 64 (dk_at dksX3_init_0 13 rfl rfl)
theorem dX3_init_15 : decode cX3_init 15 = .ok (.newarray .boolean, 2) := dk_188_4 (dk_at dksX3_init_0 15 rfl rfl)
theorem dX3_init_17 : decode cX3_init 17 = .ok (.putfield 13, 3) := dk_181 0 13 (dk_at dksX3_init_0 17 rfl rfl)
theorem dX3_init_20 : decode cX3_init 20 = .ok (.iconst 0, 1) := dk_3 (dk_at dksX3_init_0 20 rfl rfl)
theorem dX3_init_21 : decode cX3_init 21 = .ok (.istore_n 1, 1) := dk_60 (dk_at dksX3_init_0 21 rfl rfl)
theorem dX3_init_22 : decode cX3_init 22 = .ok (.iload_n 1, 1) := dk_27 (dk_at dksX3_init_0 22 rfl rfl)
theorem dX3_init_23 : decode cX3_init 23 = .ok (.bipush 64, 2) := dk_16 64 (dk_at dksX3_init_1 0 rfl rfl)
theorem dX3_init_25 : decode cX3_init 25 = .ok (.if_icmp .ge 16, 3) := dk_162 0 16 (dk_at dksX3_init_1 2 rfl rfl)
theorem dX3_init_28 : decode cX3_init 28 = .ok (.aload_n 0, 1) := dk_42 (dk_at dksX3_init_1 5 rfl rfl)
theorem dX3_init_29 : decode cX3_init 29 = .ok (.getfield 7, 3) := dk_180 0 7 (dk_at dksX3_init_1 6 rfl rfl)
theorem dX3_init_32 : decode cX3_init 32 = .ok (.iload_n 1, 1) := dk_27 (dk_at dksX3_init_1 9 rfl rfl)
theorem dX3_init_33 : decode cX3_init 33 = .ok (.iload_n 1, 1) := dk_27 (dk_at dksX3_init_1 10 rfl rfl)
theorem dX3_init_34 : decode cX3_init 34 = .ok (.iastore, 1) := dk_79 (dk_at dksX3_init_1 11 rfl rfl)
theorem dX3_init_35 : decode cX3_init 35 = .ok (.iinc 1 1, 3) := dk_132 1 1 (dk_at dksX3_init_1 12 rfl rfl)
theorem dX3_init_38 : decode cX3_init 38 = .ok (.goto (-16), 3) := dk_167 255 240 (dk_at dksX3_init_1 15 rfl rfl)
theorem dX3_init_41 : decode cX3_init 41 = .ok (.return_, 1) := dk_177 (dk_at dksX3_init_1 18 rfl rfl)
abbrev cX3_change : ByteArray := prog_8_method_4_code
def yX3_change : MethodName := ⟨RX3, "change", "(II)Z"⟩
def dkwX3_change_1 : List UInt8 := [184, 0, 17, 79, 4, 172]
abbrev dktX3_change_1 : List UInt8 := dkwX3_change_1 ++ []
def dkwX3_change_0 : List UInt8 := [27, 16, 63, 126, 62, 42, 180, 0, 13, 29, 51, 153, 0, 5, 3, 172, 42, 180, 0, 7, 29, 28, 29]
abbrev dktX3_change_0 : List UInt8 := dkwX3_change_0 ++ dktX3_change_1
theorem dksX3_change_0 : cX3_change.data.toList.drop 0 = dktX3_change_0 := by decide +kernel
theorem dksX3_change_1 : cX3_change.data.toList.drop 23 = dktX3_change_1 := dk_seg dksX3_change_0 23 rfl rfl
theorem dX3_change_0 : decode cX3_change 0 = .ok (.iload_n 1, 1) := dk_27 (dk_at dksX3_change_0 0 rfl rfl)
theorem dX3_change_1 : decode cX3_change 1 = .ok (.bipush 63, 2) := dk_16 63 (dk_at dksX3_change_0 1 rfl rfl)
theorem dX3_change_3 : decode cX3_change 3 = .ok (.iand, 1) := dk_126 (dk_at dksX3_change_0 3 rfl rfl)
theorem dX3_change_4 : decode cX3_change 4 = .ok (.istore_n 3, 1) := dk_62 (dk_at dksX3_change_0 4 rfl rfl)
theorem dX3_change_5 : decode cX3_change 5 = .ok (.aload_n 0, 1) := dk_42 (dk_at dksX3_change_0 5 rfl rfl)
theorem dX3_change_6 : decode cX3_change 6 = .ok (.getfield 13, 3) := dk_180 0 13 (dk_at dksX3_change_0 6 rfl rfl)
theorem dX3_change_9 : decode cX3_change 9 = .ok (.iload_n 3, 1) := dk_29 (dk_at dksX3_change_0 9 rfl rfl)
theorem dX3_change_10 : decode cX3_change 10 = .ok (.baload, 1) := dk_51 (dk_at dksX3_change_0 10 rfl rfl)
theorem dX3_change_11 : decode cX3_change 11 = .ok (.ifCond .eq 5, 3) := dk_153 0 5 (dk_at dksX3_change_0 11 rfl rfl)
theorem dX3_change_14 : decode cX3_change 14 = .ok (.iconst 0, 1) := dk_3 (dk_at dksX3_change_0 14 rfl rfl)
theorem dX3_change_15 : decode cX3_change 15 = .ok (.ireturn, 1) := dk_172 (dk_at dksX3_change_0 15 rfl rfl)
theorem dX3_change_16 : decode cX3_change 16 = .ok (.aload_n 0, 1) := dk_42 (dk_at dksX3_change_0 16 rfl rfl)
theorem dX3_change_17 : decode cX3_change 17 = .ok (.getfield 7, 3) := dk_180 0 7 (dk_at dksX3_change_0 17 rfl rfl)
theorem dX3_change_20 : decode cX3_change 20 = .ok (.iload_n 3, 1) := dk_29 (dk_at dksX3_change_0 20 rfl rfl)
theorem dX3_change_21 : decode cX3_change 21 = .ok (.iload_n 2, 1) := dk_28 (dk_at dksX3_change_0 21 rfl rfl)
theorem dX3_change_22 : decode cX3_change 22 = .ok (.iload_n 3, 1) := dk_29 (dk_at dksX3_change_0 22 rfl rfl)
theorem dX3_change_23 : decode cX3_change 23 = .ok (.invokestatic 17, 3) := dk_184 0 17 (dk_at dksX3_change_1 0 rfl rfl)
theorem dX3_change_26 : decode cX3_change 26 = .ok (.iastore, 1) := dk_79 (dk_at dksX3_change_1 3 rfl rfl)
theorem dX3_change_27 : decode cX3_change 27 = .ok (.iconst 1, 1) := dk_4 (dk_at dksX3_change_1 4 rfl rfl)
theorem dX3_change_28 : decode cX3_change 28 = .ok (.ireturn, 1) := dk_172 (dk_at dksX3_change_1 5 rfl rfl)
abbrev cX3_marked : ByteArray := prog_8_method_3_code
def yX3_marked : MethodName := ⟨RX3, "marked", "(II)I"⟩
def dkwX3_marked_0 : List UInt8 := [26, 16, 192, 126, 27, 128, 172]
abbrev dktX3_marked_0 : List UInt8 := dkwX3_marked_0 ++ []
theorem dksX3_marked_0 : cX3_marked.data.toList.drop 0 = dktX3_marked_0 := by decide +kernel
theorem dX3_marked_0 : decode cX3_marked 0 = .ok (.iload_n 0, 1) := dk_26 (dk_at dksX3_marked_0 0 rfl rfl)
theorem dX3_marked_1 : decode cX3_marked 1 = .ok (.bipush (-64), 2) := dk_16 192 (dk_at dksX3_marked_0 1 rfl rfl)
theorem dX3_marked_3 : decode cX3_marked 3 = .ok (.iand, 1) := dk_126 (dk_at dksX3_marked_0 3 rfl rfl)
theorem dX3_marked_4 : decode cX3_marked 4 = .ok (.iload_n 1, 1) := dk_27 (dk_at dksX3_marked_0 4 rfl rfl)
theorem dX3_marked_5 : decode cX3_marked 5 = .ok (.ior, 1) := dk_128 (dk_at dksX3_marked_0 5 rfl rfl)
theorem dX3_marked_6 : decode cX3_marked 6 = .ok (.ireturn, 1) := dk_172 (dk_at dksX3_marked_0 6 rfl rfl)
abbrev cX3_enter : ByteArray := prog_8_method_5_code
def yX3_enter : MethodName := ⟨RX3, "enter", "(I)Z"⟩
def dkwX3_enter_1 : List UInt8 := [172]
abbrev dktX3_enter_1 : List UInt8 := dkwX3_enter_1 ++ []
def dkwX3_enter_0 : List UInt8 := [27, 16, 63, 126, 61, 42, 180, 0, 13, 28, 51, 153, 0, 5, 3, 172, 42, 180, 0, 13, 28, 4, 84, 4]
abbrev dktX3_enter_0 : List UInt8 := dkwX3_enter_0 ++ dktX3_enter_1
theorem dksX3_enter_0 : cX3_enter.data.toList.drop 0 = dktX3_enter_0 := by decide +kernel
theorem dksX3_enter_1 : cX3_enter.data.toList.drop 24 = dktX3_enter_1 := dk_seg dksX3_enter_0 24 rfl rfl
theorem dX3_enter_0 : decode cX3_enter 0 = .ok (.iload_n 1, 1) := dk_27 (dk_at dksX3_enter_0 0 rfl rfl)
theorem dX3_enter_1 : decode cX3_enter 1 = .ok (.bipush 63, 2) := dk_16 63 (dk_at dksX3_enter_0 1 rfl rfl)
theorem dX3_enter_3 : decode cX3_enter 3 = .ok (.iand, 1) := dk_126 (dk_at dksX3_enter_0 3 rfl rfl)
theorem dX3_enter_4 : decode cX3_enter 4 = .ok (.istore_n 2, 1) := dk_61 (dk_at dksX3_enter_0 4 rfl rfl)
theorem dX3_enter_5 : decode cX3_enter 5 = .ok (.aload_n 0, 1) := dk_42 (dk_at dksX3_enter_0 5 rfl rfl)
theorem dX3_enter_6 : decode cX3_enter 6 = .ok (.getfield 13, 3) := dk_180 0 13 (dk_at dksX3_enter_0 6 rfl rfl)
theorem dX3_enter_9 : decode cX3_enter 9 = .ok (.iload_n 2, 1) := dk_28 (dk_at dksX3_enter_0 9 rfl rfl)
theorem dX3_enter_10 : decode cX3_enter 10 = .ok (.baload, 1) := dk_51 (dk_at dksX3_enter_0 10 rfl rfl)
theorem dX3_enter_11 : decode cX3_enter 11 = .ok (.ifCond .eq 5, 3) := dk_153 0 5 (dk_at dksX3_enter_0 11 rfl rfl)
theorem dX3_enter_14 : decode cX3_enter 14 = .ok (.iconst 0, 1) := dk_3 (dk_at dksX3_enter_0 14 rfl rfl)
theorem dX3_enter_15 : decode cX3_enter 15 = .ok (.ireturn, 1) := dk_172 (dk_at dksX3_enter_0 15 rfl rfl)
theorem dX3_enter_16 : decode cX3_enter 16 = .ok (.aload_n 0, 1) := dk_42 (dk_at dksX3_enter_0 16 rfl rfl)
theorem dX3_enter_17 : decode cX3_enter 17 = .ok (.getfield 13, 3) := dk_180 0 13 (dk_at dksX3_enter_0 17 rfl rfl)
theorem dX3_enter_20 : decode cX3_enter 20 = .ok (.iload_n 2, 1) := dk_28 (dk_at dksX3_enter_0 20 rfl rfl)
theorem dX3_enter_21 : decode cX3_enter 21 = .ok (.iconst 1, 1) := dk_4 (dk_at dksX3_enter_0 21 rfl rfl)
theorem dX3_enter_22 : decode cX3_enter 22 = .ok (.bastore, 1) := dk_84 (dk_at dksX3_enter_0 22 rfl rfl)
theorem dX3_enter_23 : decode cX3_enter 23 = .ok (.iconst 1, 1) := dk_4 (dk_at dksX3_enter_0 23 rfl rfl)
theorem dX3_enter_24 : decode cX3_enter 24 = .ok (.ireturn, 1) := dk_172 (dk_at dksX3_enter_1 0 rfl rfl)
abbrev cX3_least : ByteArray := prog_8_method_6_code
def yX3_least : MethodName := ⟨RX3, "least", "()I"⟩
theorem dX3_least_0 : decode cX3_least 0 = .ok (.aload_n 0, 1) := by decide +kernel
theorem dX3_least_1 : decode cX3_least 1 = .ok (.invokevirtual 21, 3) := by decide +kernel
theorem dX3_least_4 : decode cX3_least 4 = .ok (.ireturn, 1) := by decide +kernel
abbrev cX3_leastPlace : ByteArray := prog_8_method_2_code
def yX3_leastPlace : MethodName := ⟨RX3, "leastPlace", "()I"⟩
def dkwX3_leastPlace_1 : List UInt8 := [180, 0, 7, 28, 46, 42, 180, 0, 7, 27, 46, 162, 0, 5, 28, 60, 132, 2, 1, 167, 255, 217, 27, 172]
abbrev dktX3_leastPlace_1 : List UInt8 := dkwX3_leastPlace_1 ++ []
def dkwX3_leastPlace_0 : List UInt8 := [2, 60, 3, 61, 28, 16, 64, 162, 0, 39, 42, 180, 0, 13, 28, 51, 153, 0, 24, 27, 155, 0, 18, 42]
abbrev dktX3_leastPlace_0 : List UInt8 := dkwX3_leastPlace_0 ++ dktX3_leastPlace_1
theorem dksX3_leastPlace_0 : cX3_leastPlace.data.toList.drop 0 = dktX3_leastPlace_0 := by decide +kernel
theorem dksX3_leastPlace_1 : cX3_leastPlace.data.toList.drop 24 = dktX3_leastPlace_1 := dk_seg dksX3_leastPlace_0 24 rfl rfl
theorem dX3_leastPlace_0 : decode cX3_leastPlace 0 = .ok (.iconst (-1), 1) := dk_2 (dk_at dksX3_leastPlace_0 0 rfl rfl)
theorem dX3_leastPlace_1 : decode cX3_leastPlace 1 = .ok (.istore_n 1, 1) := dk_60 (dk_at dksX3_leastPlace_0 1 rfl rfl)
theorem dX3_leastPlace_2 : decode cX3_leastPlace 2 = .ok (.iconst 0, 1) := dk_3 (dk_at dksX3_leastPlace_0 2 rfl rfl)
theorem dX3_leastPlace_3 : decode cX3_leastPlace 3 = .ok (.istore_n 2, 1) := dk_61 (dk_at dksX3_leastPlace_0 3 rfl rfl)
theorem dX3_leastPlace_4 : decode cX3_leastPlace 4 = .ok (.iload_n 2, 1) := dk_28 (dk_at dksX3_leastPlace_0 4 rfl rfl)
theorem dX3_leastPlace_5 : decode cX3_leastPlace 5 = .ok (.bipush 64, 2) := dk_16 64 (dk_at dksX3_leastPlace_0 5 rfl rfl)
theorem dX3_leastPlace_7 : decode cX3_leastPlace 7 = .ok (.if_icmp .ge 39, 3) := dk_162 0 39 (dk_at dksX3_leastPlace_0 7 rfl rfl)
theorem dX3_leastPlace_10 : decode cX3_leastPlace 10 = .ok (.aload_n 0, 1) := dk_42 (dk_at dksX3_leastPlace_0 10 rfl rfl)
theorem dX3_leastPlace_11 : decode cX3_leastPlace 11 = .ok (.getfield 13, 3) := dk_180 0 13 (dk_at dksX3_leastPlace_0 11 rfl rfl)
theorem dX3_leastPlace_14 : decode cX3_leastPlace 14 = .ok (.iload_n 2, 1) := dk_28 (dk_at dksX3_leastPlace_0 14 rfl rfl)
theorem dX3_leastPlace_15 : decode cX3_leastPlace 15 = .ok (.baload, 1) := dk_51 (dk_at dksX3_leastPlace_0 15 rfl rfl)
theorem dX3_leastPlace_16 : decode cX3_leastPlace 16 = .ok (.ifCond .eq 24, 3) := dk_153 0 24 (dk_at dksX3_leastPlace_0 16 rfl rfl)
theorem dX3_leastPlace_19 : decode cX3_leastPlace 19 = .ok (.iload_n 1, 1) := dk_27 (dk_at dksX3_leastPlace_0 19 rfl rfl)
theorem dX3_leastPlace_20 : decode cX3_leastPlace 20 = .ok (.ifCond .lt 18, 3) := dk_155 0 18 (dk_at dksX3_leastPlace_0 20 rfl rfl)
theorem dX3_leastPlace_23 : decode cX3_leastPlace 23 = .ok (.aload_n 0, 1) := dk_42 (dk_at dksX3_leastPlace_0 23 rfl rfl)
theorem dX3_leastPlace_24 : decode cX3_leastPlace 24 = .ok (.getfield 7, 3) := dk_180 0 7 (dk_at dksX3_leastPlace_1 0 rfl rfl)
theorem dX3_leastPlace_27 : decode cX3_leastPlace 27 = .ok (.iload_n 2, 1) := dk_28 (dk_at dksX3_leastPlace_1 3 rfl rfl)
theorem dX3_leastPlace_28 : decode cX3_leastPlace 28 = .ok (.iaload, 1) := dk_46 (dk_at dksX3_leastPlace_1 4 rfl rfl)
theorem dX3_leastPlace_29 : decode cX3_leastPlace 29 = .ok (.aload_n 0, 1) := dk_42 (dk_at dksX3_leastPlace_1 5 rfl rfl)
theorem dX3_leastPlace_30 : decode cX3_leastPlace 30 = .ok (.getfield 7, 3) := dk_180 0 7 (dk_at dksX3_leastPlace_1 6 rfl rfl)
theorem dX3_leastPlace_33 : decode cX3_leastPlace 33 = .ok (.iload_n 1, 1) := dk_27 (dk_at dksX3_leastPlace_1 9 rfl rfl)
theorem dX3_leastPlace_34 : decode cX3_leastPlace 34 = .ok (.iaload, 1) := dk_46 (dk_at dksX3_leastPlace_1 10 rfl rfl)
theorem dX3_leastPlace_35 : decode cX3_leastPlace 35 = .ok (.if_icmp .ge 5, 3) := dk_162 0 5 (dk_at dksX3_leastPlace_1 11 rfl rfl)
theorem dX3_leastPlace_38 : decode cX3_leastPlace 38 = .ok (.iload_n 2, 1) := dk_28 (dk_at dksX3_leastPlace_1 14 rfl rfl)
theorem dX3_leastPlace_39 : decode cX3_leastPlace 39 = .ok (.istore_n 1, 1) := dk_60 (dk_at dksX3_leastPlace_1 15 rfl rfl)
theorem dX3_leastPlace_40 : decode cX3_leastPlace 40 = .ok (.iinc 2 1, 3) := dk_132 2 1 (dk_at dksX3_leastPlace_1 16 rfl rfl)
theorem dX3_leastPlace_43 : decode cX3_leastPlace 43 = .ok (.goto (-39), 3) := dk_167 255 217 (dk_at dksX3_leastPlace_1 19 rfl rfl)
theorem dX3_leastPlace_46 : decode cX3_leastPlace 46 = .ok (.iload_n 1, 1) := dk_27 (dk_at dksX3_leastPlace_1 22 rfl rfl)
theorem dX3_leastPlace_47 : decode cX3_leastPlace 47 = .ok (.ireturn, 1) := dk_172 (dk_at dksX3_leastPlace_1 23 rfl rfl)
abbrev cX3_take : ByteArray := prog_8_method_7_code
def yX3_take : MethodName := ⟨RX3, "take", "()I"⟩
def dkwX3_take_0 : List UInt8 := [42, 182, 0, 21, 60, 27, 155, 0, 10, 42, 180, 0, 13, 27, 3, 84, 27, 172]
abbrev dktX3_take_0 : List UInt8 := dkwX3_take_0 ++ []
theorem dksX3_take_0 : cX3_take.data.toList.drop 0 = dktX3_take_0 := by decide +kernel
theorem dX3_take_0 : decode cX3_take 0 = .ok (.aload_n 0, 1) := dk_42 (dk_at dksX3_take_0 0 rfl rfl)
theorem dX3_take_1 : decode cX3_take 1 = .ok (.invokevirtual 21, 3) := dk_182 0 21 (dk_at dksX3_take_0 1 rfl rfl)
theorem dX3_take_4 : decode cX3_take 4 = .ok (.istore_n 1, 1) := dk_60 (dk_at dksX3_take_0 4 rfl rfl)
theorem dX3_take_5 : decode cX3_take 5 = .ok (.iload_n 1, 1) := dk_27 (dk_at dksX3_take_0 5 rfl rfl)
theorem dX3_take_6 : decode cX3_take 6 = .ok (.ifCond .lt 10, 3) := dk_155 0 10 (dk_at dksX3_take_0 6 rfl rfl)
theorem dX3_take_9 : decode cX3_take 9 = .ok (.aload_n 0, 1) := dk_42 (dk_at dksX3_take_0 9 rfl rfl)
theorem dX3_take_10 : decode cX3_take 10 = .ok (.getfield 13, 3) := dk_180 0 13 (dk_at dksX3_take_0 10 rfl rfl)
theorem dX3_take_13 : decode cX3_take 13 = .ok (.iload_n 1, 1) := dk_27 (dk_at dksX3_take_0 13 rfl rfl)
theorem dX3_take_14 : decode cX3_take 14 = .ok (.iconst 0, 1) := dk_3 (dk_at dksX3_take_0 14 rfl rfl)
theorem dX3_take_15 : decode cX3_take 15 = .ok (.bastore, 1) := dk_84 (dk_at dksX3_take_0 15 rfl rfl)
theorem dX3_take_16 : decode cX3_take 16 = .ok (.iload_n 1, 1) := dk_27 (dk_at dksX3_take_0 16 rfl rfl)
theorem dX3_take_17 : decode cX3_take 17 = .ok (.ireturn, 1) := dk_172 (dk_at dksX3_take_0 17 rfl rfl)
abbrev cX3_headChanged : ByteArray := prog_8_method_8_code
def yX3_headChanged : MethodName := ⟨RX3, "headChanged", "(I)Z"⟩
def dkwX3_headChanged_0 : List UInt8 := [42, 182, 0, 21, 61, 28, 156, 0, 5, 3, 172, 42, 180, 0, 7, 28, 27, 28, 184, 0, 17, 79, 4, 172]
abbrev dktX3_headChanged_0 : List UInt8 := dkwX3_headChanged_0 ++ []
theorem dksX3_headChanged_0 : cX3_headChanged.data.toList.drop 0 = dktX3_headChanged_0 := by decide +kernel
theorem dX3_headChanged_0 : decode cX3_headChanged 0 = .ok (.aload_n 0, 1) := dk_42 (dk_at dksX3_headChanged_0 0 rfl rfl)
theorem dX3_headChanged_1 : decode cX3_headChanged 1 = .ok (.invokevirtual 21, 3) := dk_182 0 21 (dk_at dksX3_headChanged_0 1 rfl rfl)
theorem dX3_headChanged_4 : decode cX3_headChanged 4 = .ok (.istore_n 2, 1) := dk_61 (dk_at dksX3_headChanged_0 4 rfl rfl)
theorem dX3_headChanged_5 : decode cX3_headChanged 5 = .ok (.iload_n 2, 1) := dk_28 (dk_at dksX3_headChanged_0 5 rfl rfl)
theorem dX3_headChanged_6 : decode cX3_headChanged 6 = .ok (.ifCond .ge 5, 3) := dk_156 0 5 (dk_at dksX3_headChanged_0 6 rfl rfl)
theorem dX3_headChanged_9 : decode cX3_headChanged 9 = .ok (.iconst 0, 1) := dk_3 (dk_at dksX3_headChanged_0 9 rfl rfl)
theorem dX3_headChanged_10 : decode cX3_headChanged 10 = .ok (.ireturn, 1) := dk_172 (dk_at dksX3_headChanged_0 10 rfl rfl)
theorem dX3_headChanged_11 : decode cX3_headChanged 11 = .ok (.aload_n 0, 1) := dk_42 (dk_at dksX3_headChanged_0 11 rfl rfl)
theorem dX3_headChanged_12 : decode cX3_headChanged 12 = .ok (.getfield 7, 3) := dk_180 0 7 (dk_at dksX3_headChanged_0 12 rfl rfl)
theorem dX3_headChanged_15 : decode cX3_headChanged 15 = .ok (.iload_n 2, 1) := dk_28 (dk_at dksX3_headChanged_0 15 rfl rfl)
theorem dX3_headChanged_16 : decode cX3_headChanged 16 = .ok (.iload_n 1, 1) := dk_27 (dk_at dksX3_headChanged_0 16 rfl rfl)
theorem dX3_headChanged_17 : decode cX3_headChanged 17 = .ok (.iload_n 2, 1) := dk_28 (dk_at dksX3_headChanged_0 17 rfl rfl)
theorem dX3_headChanged_18 : decode cX3_headChanged 18 = .ok (.invokestatic 17, 3) := dk_184 0 17 (dk_at dksX3_headChanged_0 18 rfl rfl)
theorem dX3_headChanged_21 : decode cX3_headChanged 21 = .ok (.iastore, 1) := dk_79 (dk_at dksX3_headChanged_0 21 rfl rfl)
theorem dX3_headChanged_22 : decode cX3_headChanged 22 = .ok (.iconst 1, 1) := dk_4 (dk_at dksX3_headChanged_0 22 rfl rfl)
theorem dX3_headChanged_23 : decode cX3_headChanged 23 = .ok (.ireturn, 1) := dk_172 (dk_at dksX3_headChanged_0 23 rfl rfl)
abbrev cX3_all : ByteArray := prog_8_method_9_code
def yX3_all : MethodName := ⟨RX3, "all", "(I)V"⟩
def dkwX3_all_1 : List UInt8 := [104, 96, 28, 184, 0, 17, 79, 132, 2, 1, 167, 255, 224, 177]
abbrev dktX3_all_1 : List UInt8 := dkwX3_all_1 ++ []
def dkwX3_all_0 : List UInt8 := [3, 61, 28, 16, 64, 162, 0, 32, 42, 180, 0, 7, 28, 42, 180, 0, 7, 28, 46, 27, 28, 104, 16, 64]
abbrev dktX3_all_0 : List UInt8 := dkwX3_all_0 ++ dktX3_all_1
theorem dksX3_all_0 : cX3_all.data.toList.drop 0 = dktX3_all_0 := by decide +kernel
theorem dksX3_all_1 : cX3_all.data.toList.drop 24 = dktX3_all_1 := dk_seg dksX3_all_0 24 rfl rfl
theorem dX3_all_0 : decode cX3_all 0 = .ok (.iconst 0, 1) := dk_3 (dk_at dksX3_all_0 0 rfl rfl)
theorem dX3_all_1 : decode cX3_all 1 = .ok (.istore_n 2, 1) := dk_61 (dk_at dksX3_all_0 1 rfl rfl)
theorem dX3_all_2 : decode cX3_all 2 = .ok (.iload_n 2, 1) := dk_28 (dk_at dksX3_all_0 2 rfl rfl)
theorem dX3_all_3 : decode cX3_all 3 = .ok (.bipush 64, 2) := dk_16 64 (dk_at dksX3_all_0 3 rfl rfl)
theorem dX3_all_5 : decode cX3_all 5 = .ok (.if_icmp .ge 32, 3) := dk_162 0 32 (dk_at dksX3_all_0 5 rfl rfl)
theorem dX3_all_8 : decode cX3_all 8 = .ok (.aload_n 0, 1) := dk_42 (dk_at dksX3_all_0 8 rfl rfl)
theorem dX3_all_9 : decode cX3_all 9 = .ok (.getfield 7, 3) := dk_180 0 7 (dk_at dksX3_all_0 9 rfl rfl)
theorem dX3_all_12 : decode cX3_all 12 = .ok (.iload_n 2, 1) := dk_28 (dk_at dksX3_all_0 12 rfl rfl)
theorem dX3_all_13 : decode cX3_all 13 = .ok (.aload_n 0, 1) := dk_42 (dk_at dksX3_all_0 13 rfl rfl)
theorem dX3_all_14 : decode cX3_all 14 = .ok (.getfield 7, 3) := dk_180 0 7 (dk_at dksX3_all_0 14 rfl rfl)
theorem dX3_all_17 : decode cX3_all 17 = .ok (.iload_n 2, 1) := dk_28 (dk_at dksX3_all_0 17 rfl rfl)
theorem dX3_all_18 : decode cX3_all 18 = .ok (.iaload, 1) := dk_46 (dk_at dksX3_all_0 18 rfl rfl)
theorem dX3_all_19 : decode cX3_all 19 = .ok (.iload_n 1, 1) := dk_27 (dk_at dksX3_all_0 19 rfl rfl)
theorem dX3_all_20 : decode cX3_all 20 = .ok (.iload_n 2, 1) := dk_28 (dk_at dksX3_all_0 20 rfl rfl)
theorem dX3_all_21 : decode cX3_all 21 = .ok (.imul, 1) := dk_104 (dk_at dksX3_all_0 21 rfl rfl)
theorem dX3_all_22 : decode cX3_all 22 = .ok (.bipush 64, 2) := dk_16 64 (dk_at dksX3_all_0 22 rfl rfl)
theorem dX3_all_24 : decode cX3_all 24 = .ok (.imul, 1) := dk_104 (dk_at dksX3_all_1 0 rfl rfl)
theorem dX3_all_25 : decode cX3_all 25 = .ok (.iadd, 1) := dk_96 (dk_at dksX3_all_1 1 rfl rfl)
theorem dX3_all_26 : decode cX3_all 26 = .ok (.iload_n 2, 1) := dk_28 (dk_at dksX3_all_1 2 rfl rfl)
theorem dX3_all_27 : decode cX3_all 27 = .ok (.invokestatic 17, 3) := dk_184 0 17 (dk_at dksX3_all_1 3 rfl rfl)
theorem dX3_all_30 : decode cX3_all 30 = .ok (.iastore, 1) := dk_79 (dk_at dksX3_all_1 6 rfl rfl)
theorem dX3_all_31 : decode cX3_all 31 = .ok (.iinc 2 1, 3) := dk_132 2 1 (dk_at dksX3_all_1 7 rfl rfl)
theorem dX3_all_34 : decode cX3_all 34 = .ok (.goto (-32), 3) := dk_167 255 224 (dk_at dksX3_all_1 10 rfl rfl)
theorem dX3_all_37 : decode cX3_all 37 = .ok (.return_, 1) := dk_177 (dk_at dksX3_all_1 13 rfl rfl)
abbrev cX3_front : ByteArray := prog_8_method_10_code
def yX3_front : MethodName := ⟨RX3, "front", "()I"⟩
def dkwX3_front_2 : List UInt8 := [132, 2, 1, 132, 3, 1, 167, 255, 220, 16, 100, 28, 104, 27, 96, 172]
abbrev dktX3_front_2 : List UInt8 := dkwX3_front_2 ++ []
def dkwX3_front_1 : List UInt8 := [180, 0, 13, 29, 51, 153, 0, 21, 42, 180, 0, 7, 29, 46, 42, 180, 0, 7, 27, 46, 160, 0, 6]
abbrev dktX3_front_1 : List UInt8 := dkwX3_front_1 ++ dktX3_front_2
def dkwX3_front_0 : List UInt8 := [42, 182, 0, 21, 60, 27, 156, 0, 5, 3, 172, 3, 61, 3, 62, 29, 16, 64, 162, 0, 36, 42]
abbrev dktX3_front_0 : List UInt8 := dkwX3_front_0 ++ dktX3_front_1
theorem dksX3_front_0 : cX3_front.data.toList.drop 0 = dktX3_front_0 := by decide +kernel
theorem dksX3_front_1 : cX3_front.data.toList.drop 22 = dktX3_front_1 := dk_seg dksX3_front_0 22 rfl rfl
theorem dksX3_front_2 : cX3_front.data.toList.drop 45 = dktX3_front_2 := dk_seg dksX3_front_1 23 rfl rfl
theorem dX3_front_0 : decode cX3_front 0 = .ok (.aload_n 0, 1) := dk_42 (dk_at dksX3_front_0 0 rfl rfl)
theorem dX3_front_1 : decode cX3_front 1 = .ok (.invokevirtual 21, 3) := dk_182 0 21 (dk_at dksX3_front_0 1 rfl rfl)
theorem dX3_front_4 : decode cX3_front 4 = .ok (.istore_n 1, 1) := dk_60 (dk_at dksX3_front_0 4 rfl rfl)
theorem dX3_front_5 : decode cX3_front 5 = .ok (.iload_n 1, 1) := dk_27 (dk_at dksX3_front_0 5 rfl rfl)
theorem dX3_front_6 : decode cX3_front 6 = .ok (.ifCond .ge 5, 3) := dk_156 0 5 (dk_at dksX3_front_0 6 rfl rfl)
theorem dX3_front_9 : decode cX3_front 9 = .ok (.iconst 0, 1) := dk_3 (dk_at dksX3_front_0 9 rfl rfl)
theorem dX3_front_10 : decode cX3_front 10 = .ok (.ireturn, 1) := dk_172 (dk_at dksX3_front_0 10 rfl rfl)
theorem dX3_front_11 : decode cX3_front 11 = .ok (.iconst 0, 1) := dk_3 (dk_at dksX3_front_0 11 rfl rfl)
theorem dX3_front_12 : decode cX3_front 12 = .ok (.istore_n 2, 1) := dk_61 (dk_at dksX3_front_0 12 rfl rfl)
theorem dX3_front_13 : decode cX3_front 13 = .ok (.iconst 0, 1) := dk_3 (dk_at dksX3_front_0 13 rfl rfl)
theorem dX3_front_14 : decode cX3_front 14 = .ok (.istore_n 3, 1) := dk_62 (dk_at dksX3_front_0 14 rfl rfl)
theorem dX3_front_15 : decode cX3_front 15 = .ok (.iload_n 3, 1) := dk_29 (dk_at dksX3_front_0 15 rfl rfl)
theorem dX3_front_16 : decode cX3_front 16 = .ok (.bipush 64, 2) := dk_16 64 (dk_at dksX3_front_0 16 rfl rfl)
theorem dX3_front_18 : decode cX3_front 18 = .ok (.if_icmp .ge 36, 3) := dk_162 0 36 (dk_at dksX3_front_0 18 rfl rfl)
theorem dX3_front_21 : decode cX3_front 21 = .ok (.aload_n 0, 1) := dk_42 (dk_at dksX3_front_0 21 rfl rfl)
theorem dX3_front_22 : decode cX3_front 22 = .ok (.getfield 13, 3) := dk_180 0 13 (dk_at dksX3_front_1 0 rfl rfl)
theorem dX3_front_25 : decode cX3_front 25 = .ok (.iload_n 3, 1) := dk_29 (dk_at dksX3_front_1 3 rfl rfl)
theorem dX3_front_26 : decode cX3_front 26 = .ok (.baload, 1) := dk_51 (dk_at dksX3_front_1 4 rfl rfl)
theorem dX3_front_27 : decode cX3_front 27 = .ok (.ifCond .eq 21, 3) := dk_153 0 21 (dk_at dksX3_front_1 5 rfl rfl)
theorem dX3_front_30 : decode cX3_front 30 = .ok (.aload_n 0, 1) := dk_42 (dk_at dksX3_front_1 8 rfl rfl)
theorem dX3_front_31 : decode cX3_front 31 = .ok (.getfield 7, 3) := dk_180 0 7 (dk_at dksX3_front_1 9 rfl rfl)
theorem dX3_front_34 : decode cX3_front 34 = .ok (.iload_n 3, 1) := dk_29 (dk_at dksX3_front_1 12 rfl rfl)
theorem dX3_front_35 : decode cX3_front 35 = .ok (.iaload, 1) := dk_46 (dk_at dksX3_front_1 13 rfl rfl)
theorem dX3_front_36 : decode cX3_front 36 = .ok (.aload_n 0, 1) := dk_42 (dk_at dksX3_front_1 14 rfl rfl)
theorem dX3_front_37 : decode cX3_front 37 = .ok (.getfield 7, 3) := dk_180 0 7 (dk_at dksX3_front_1 15 rfl rfl)
theorem dX3_front_40 : decode cX3_front 40 = .ok (.iload_n 1, 1) := dk_27 (dk_at dksX3_front_1 18 rfl rfl)
theorem dX3_front_41 : decode cX3_front 41 = .ok (.iaload, 1) := dk_46 (dk_at dksX3_front_1 19 rfl rfl)
theorem dX3_front_42 : decode cX3_front 42 = .ok (.if_icmp .ne 6, 3) := dk_160 0 6 (dk_at dksX3_front_1 20 rfl rfl)
theorem dX3_front_45 : decode cX3_front 45 = .ok (.iinc 2 1, 3) := dk_132 2 1 (dk_at dksX3_front_2 0 rfl rfl)
theorem dX3_front_48 : decode cX3_front 48 = .ok (.iinc 3 1, 3) := dk_132 3 1 (dk_at dksX3_front_2 3 rfl rfl)
theorem dX3_front_51 : decode cX3_front 51 = .ok (.goto (-36), 3) := dk_167 255 220 (dk_at dksX3_front_2 6 rfl rfl)
theorem dX3_front_54 : decode cX3_front 54 = .ok (.bipush 100, 2) := dk_16 100 (dk_at dksX3_front_2 9 rfl rfl)
theorem dX3_front_56 : decode cX3_front 56 = .ok (.iload_n 2, 1) := dk_28 (dk_at dksX3_front_2 11 rfl rfl)
theorem dX3_front_57 : decode cX3_front 57 = .ok (.imul, 1) := dk_104 (dk_at dksX3_front_2 12 rfl rfl)
theorem dX3_front_58 : decode cX3_front 58 = .ok (.iload_n 1, 1) := dk_27 (dk_at dksX3_front_2 13 rfl rfl)
theorem dX3_front_59 : decode cX3_front 59 = .ok (.iadd, 1) := dk_96 (dk_at dksX3_front_2 14 rfl rfl)
theorem dX3_front_60 : decode cX3_front 60 = .ok (.ireturn, 1) := dk_172 (dk_at dksX3_front_2 15 rfl rfl)
abbrev cX3_waiting : ByteArray := prog_8_method_11_code
def yX3_waiting : MethodName := ⟨RX3, "waiting", "()I"⟩
def dkwX3_waiting_1 : List UInt8 := [132, 2, 1, 167, 255, 235, 27, 172]
abbrev dktX3_waiting_1 : List UInt8 := dkwX3_waiting_1 ++ []
def dkwX3_waiting_0 : List UInt8 := [3, 60, 3, 61, 28, 16, 64, 162, 0, 21, 42, 180, 0, 13, 28, 51, 153, 0, 6, 132, 1, 1]
abbrev dktX3_waiting_0 : List UInt8 := dkwX3_waiting_0 ++ dktX3_waiting_1
theorem dksX3_waiting_0 : cX3_waiting.data.toList.drop 0 = dktX3_waiting_0 := by decide +kernel
theorem dksX3_waiting_1 : cX3_waiting.data.toList.drop 22 = dktX3_waiting_1 := dk_seg dksX3_waiting_0 22 rfl rfl
theorem dX3_waiting_0 : decode cX3_waiting 0 = .ok (.iconst 0, 1) := dk_3 (dk_at dksX3_waiting_0 0 rfl rfl)
theorem dX3_waiting_1 : decode cX3_waiting 1 = .ok (.istore_n 1, 1) := dk_60 (dk_at dksX3_waiting_0 1 rfl rfl)
theorem dX3_waiting_2 : decode cX3_waiting 2 = .ok (.iconst 0, 1) := dk_3 (dk_at dksX3_waiting_0 2 rfl rfl)
theorem dX3_waiting_3 : decode cX3_waiting 3 = .ok (.istore_n 2, 1) := dk_61 (dk_at dksX3_waiting_0 3 rfl rfl)
theorem dX3_waiting_4 : decode cX3_waiting 4 = .ok (.iload_n 2, 1) := dk_28 (dk_at dksX3_waiting_0 4 rfl rfl)
theorem dX3_waiting_5 : decode cX3_waiting 5 = .ok (.bipush 64, 2) := dk_16 64 (dk_at dksX3_waiting_0 5 rfl rfl)
theorem dX3_waiting_7 : decode cX3_waiting 7 = .ok (.if_icmp .ge 21, 3) := dk_162 0 21 (dk_at dksX3_waiting_0 7 rfl rfl)
theorem dX3_waiting_10 : decode cX3_waiting 10 = .ok (.aload_n 0, 1) := dk_42 (dk_at dksX3_waiting_0 10 rfl rfl)
theorem dX3_waiting_11 : decode cX3_waiting 11 = .ok (.getfield 13, 3) := dk_180 0 13 (dk_at dksX3_waiting_0 11 rfl rfl)
theorem dX3_waiting_14 : decode cX3_waiting 14 = .ok (.iload_n 2, 1) := dk_28 (dk_at dksX3_waiting_0 14 rfl rfl)
theorem dX3_waiting_15 : decode cX3_waiting 15 = .ok (.baload, 1) := dk_51 (dk_at dksX3_waiting_0 15 rfl rfl)
theorem dX3_waiting_16 : decode cX3_waiting 16 = .ok (.ifCond .eq 6, 3) := dk_153 0 6 (dk_at dksX3_waiting_0 16 rfl rfl)
theorem dX3_waiting_19 : decode cX3_waiting 19 = .ok (.iinc 1 1, 3) := dk_132 1 1 (dk_at dksX3_waiting_0 19 rfl rfl)
theorem dX3_waiting_22 : decode cX3_waiting 22 = .ok (.iinc 2 1, 3) := dk_132 2 1 (dk_at dksX3_waiting_1 0 rfl rfl)
theorem dX3_waiting_25 : decode cX3_waiting 25 = .ok (.goto (-21), 3) := dk_167 255 235 (dk_at dksX3_waiting_1 3 rfl rfl)
theorem dX3_waiting_28 : decode cX3_waiting 28 = .ok (.iload_n 1, 1) := dk_27 (dk_at dksX3_waiting_1 6 rfl rfl)
theorem dX3_waiting_29 : decode cX3_waiting 29 = .ok (.ireturn, 1) := dk_172 (dk_at dksX3_waiting_1 7 rfl rfl)
abbrev cX3_value : ByteArray := prog_8_method_12_code
def yX3_value : MethodName := ⟨RX3, "value", "(I)I"⟩
def dkwX3_value_0 : List UInt8 := [42, 180, 0, 7, 27, 16, 63, 126, 46, 172]
abbrev dktX3_value_0 : List UInt8 := dkwX3_value_0 ++ []
theorem dksX3_value_0 : cX3_value.data.toList.drop 0 = dktX3_value_0 := by decide +kernel
theorem dX3_value_0 : decode cX3_value 0 = .ok (.aload_n 0, 1) := dk_42 (dk_at dksX3_value_0 0 rfl rfl)
theorem dX3_value_1 : decode cX3_value 1 = .ok (.getfield 7, 3) := dk_180 0 7 (dk_at dksX3_value_0 1 rfl rfl)
theorem dX3_value_4 : decode cX3_value 4 = .ok (.iload_n 1, 1) := dk_27 (dk_at dksX3_value_0 4 rfl rfl)
theorem dX3_value_5 : decode cX3_value 5 = .ok (.bipush 63, 2) := dk_16 63 (dk_at dksX3_value_0 5 rfl rfl)
theorem dX3_value_7 : decode cX3_value 7 = .ok (.iand, 1) := dk_126 (dk_at dksX3_value_0 7 rfl rfl)
theorem dX3_value_8 : decode cX3_value 8 = .ok (.iaload, 1) := dk_46 (dk_at dksX3_value_0 8 rfl rfl)
theorem dX3_value_9 : decode cX3_value 9 = .ok (.ireturn, 1) := dk_172 (dk_at dksX3_value_0 9 rfl rfl)
abbrev cX3_drain : ByteArray := prog_8_method_13_code
def yX3_drain : MethodName := ⟨RX3, "drain", "()V"⟩
def dkwX3_drain_0 : List UInt8 := [3, 60, 27, 16, 64, 162, 0, 16, 42, 180, 0, 13, 27, 3, 84, 132, 1, 1, 167, 255, 240, 177]
abbrev dktX3_drain_0 : List UInt8 := dkwX3_drain_0 ++ []
theorem dksX3_drain_0 : cX3_drain.data.toList.drop 0 = dktX3_drain_0 := by decide +kernel
theorem dX3_drain_0 : decode cX3_drain 0 = .ok (.iconst 0, 1) := dk_3 (dk_at dksX3_drain_0 0 rfl rfl)
theorem dX3_drain_1 : decode cX3_drain 1 = .ok (.istore_n 1, 1) := dk_60 (dk_at dksX3_drain_0 1 rfl rfl)
theorem dX3_drain_2 : decode cX3_drain 2 = .ok (.iload_n 1, 1) := dk_27 (dk_at dksX3_drain_0 2 rfl rfl)
theorem dX3_drain_3 : decode cX3_drain 3 = .ok (.bipush 64, 2) := dk_16 64 (dk_at dksX3_drain_0 3 rfl rfl)
theorem dX3_drain_5 : decode cX3_drain 5 = .ok (.if_icmp .ge 16, 3) := dk_162 0 16 (dk_at dksX3_drain_0 5 rfl rfl)
theorem dX3_drain_8 : decode cX3_drain 8 = .ok (.aload_n 0, 1) := dk_42 (dk_at dksX3_drain_0 8 rfl rfl)
theorem dX3_drain_9 : decode cX3_drain 9 = .ok (.getfield 13, 3) := dk_180 0 13 (dk_at dksX3_drain_0 9 rfl rfl)
theorem dX3_drain_12 : decode cX3_drain 12 = .ok (.iload_n 1, 1) := dk_27 (dk_at dksX3_drain_0 12 rfl rfl)
theorem dX3_drain_13 : decode cX3_drain 13 = .ok (.iconst 0, 1) := dk_3 (dk_at dksX3_drain_0 13 rfl rfl)
theorem dX3_drain_14 : decode cX3_drain 14 = .ok (.bastore, 1) := dk_84 (dk_at dksX3_drain_0 14 rfl rfl)
theorem dX3_drain_15 : decode cX3_drain 15 = .ok (.iinc 1 1, 3) := dk_132 1 1 (dk_at dksX3_drain_0 15 rfl rfl)
theorem dX3_drain_18 : decode cX3_drain 18 = .ok (.goto (-16), 3) := dk_167 255 240 (dk_at dksX3_drain_0 18 rfl rfl)
theorem dX3_drain_21 : decode cX3_drain 21 = .ok (.return_, 1) := dk_177 (dk_at dksX3_drain_0 21 rfl rfl)
theorem q6 : (Jvm.Cond.initialized "SemiHeapDeskModel") ∈ lw_all := lw_g (lw_at lw_m1 4 rfl) rfl
theorem q259 : (Jvm.Cond.instantiable "SemiHeapDeskModel" (2 : Nat)) ∈ lw_all := lw_g (lw_at lw_m2 17 rfl) rfl
theorem q261 : (Jvm.Cond.instanceMethod ({ cls := "SemiHeapDeskModel", name := "<init>", desc := "()V" } : Jvm.MethodName)) ∈ lw_all := lw_g (lw_at lw_m2 19 rfl) rfl
theorem q262 : (Jvm.Cond.code ({ cls := "SemiHeapDeskModel", name := "<init>", desc := "()V" } : Jvm.MethodName) prog_8_method_1_code (2 : Nat) (Option.none : Option Jvm.ClassFile.FieldType)) ∈ lw_all := lw_g (lw_at lw_m2 20 rfl) rfl
theorem q263 : (Jvm.Cond.methodLink "SemiHeapDeskModel" (1 : Nat) ({ cls := "java/lang/Object", name := "<init>", desc := "()V" } : Jvm.MethodName)) ∈ lw_all := lw_g (lw_at lw_m2 21 rfl) rfl
theorem q264 : (Jvm.Cond.fieldLink "SemiHeapDeskModel" (7 : Nat) "SemiHeapDeskModel" "value" "[I") ∈ lw_all := lw_g (lw_at lw_m2 22 rfl) rfl
theorem q265 : (Jvm.Cond.fieldLink "SemiHeapDeskModel" (13 : Nat) "SemiHeapDeskModel" "waits" "[Z") ∈ lw_all := lw_g (lw_at lw_m2 23 rfl) rfl
theorem q266 : (Jvm.Cond.laysFinal "SemiHeapDeskModel" "SemiHeapDeskModel" "value" "[I") ∈ lw_all := lw_g (lw_at lw_m2 24 rfl) rfl
theorem q267 : (Jvm.Cond.soleField "SemiHeapDeskModel" "value") ∈ lw_all := lw_g (lw_at lw_m2 25 rfl) rfl
theorem q268 : (Jvm.Cond.laysFinal "SemiHeapDeskModel" "SemiHeapDeskModel" "waits" "[Z") ∈ lw_all := lw_g (lw_at lw_m2 26 rfl) rfl
theorem q269 : (Jvm.Cond.soleField "SemiHeapDeskModel" "waits") ∈ lw_all := lw_g (lw_at lw_m2 27 rfl) rfl
theorem q270 : (Jvm.Cond.superclass "SemiHeapDeskModel" "java/lang/Object") ∈ lw_all := lw_g (lw_at lw_m2 28 rfl) rfl
theorem q272 : (Jvm.Cond.instanceMethod ({ cls := "SemiHeapDeskModel", name := "change", desc := "(II)Z" } : Jvm.MethodName)) ∈ lw_all := lw_g (lw_at lw_m2 30 rfl) rfl
theorem q273 : (Jvm.Cond.selects "SemiHeapDeskModel" ({ cls := "SemiHeapDeskModel", name := "change", desc := "(II)Z" } : Jvm.MethodName) ({ cls := "SemiHeapDeskModel", name := "change", desc := "(II)Z" } : Jvm.MethodName)) ∈ lw_all := lw_g (lw_at lw_m2 31 rfl) rfl
theorem q274 : (Jvm.Cond.code ({ cls := "SemiHeapDeskModel", name := "change", desc := "(II)Z" } : Jvm.MethodName) prog_8_method_4_code (4 : Nat) (Option.some Jvm.ClassFile.FieldType.boolean)) ∈ lw_all := lw_g (lw_at lw_m2 32 rfl) rfl
theorem q275 : (Jvm.Cond.methodLink "SemiHeapDeskModel" (17 : Nat) ({ cls := "SemiHeapDeskModel", name := "marked", desc := "(II)I" } : Jvm.MethodName)) ∈ lw_all := lw_g (lw_at lw_m2 33 rfl) rfl
theorem q276 : (Jvm.Cond.static ({ cls := "SemiHeapDeskModel", name := "marked", desc := "(II)I" } : Jvm.MethodName)) ∈ lw_all := lw_g (lw_at lw_m2 34 rfl) rfl
theorem q277 : (Jvm.Cond.code ({ cls := "SemiHeapDeskModel", name := "marked", desc := "(II)I" } : Jvm.MethodName) prog_8_method_3_code (2 : Nat) (Option.some Jvm.ClassFile.FieldType.int)) ∈ lw_all := lw_g (lw_at lw_m2 35 rfl) rfl
theorem q279 : (Jvm.Cond.instanceMethod ({ cls := "SemiHeapDeskModel", name := "enter", desc := "(I)Z" } : Jvm.MethodName)) ∈ lw_all := lw_g (lw_at lw_m2 37 rfl) rfl
theorem q280 : (Jvm.Cond.selects "SemiHeapDeskModel" ({ cls := "SemiHeapDeskModel", name := "enter", desc := "(I)Z" } : Jvm.MethodName) ({ cls := "SemiHeapDeskModel", name := "enter", desc := "(I)Z" } : Jvm.MethodName)) ∈ lw_all := lw_g (lw_at lw_m2 38 rfl) rfl
theorem q281 : (Jvm.Cond.code ({ cls := "SemiHeapDeskModel", name := "enter", desc := "(I)Z" } : Jvm.MethodName) prog_8_method_5_code (3 : Nat) (Option.some Jvm.ClassFile.FieldType.boolean)) ∈ lw_all := lw_g (lw_at lw_m2 39 rfl) rfl
theorem q283 : (Jvm.Cond.instanceMethod ({ cls := "SemiHeapDeskModel", name := "least", desc := "()I" } : Jvm.MethodName)) ∈ lw_all := lw_g (lw_at lw_m2 41 rfl) rfl
theorem q284 : (Jvm.Cond.selects "SemiHeapDeskModel" ({ cls := "SemiHeapDeskModel", name := "least", desc := "()I" } : Jvm.MethodName) ({ cls := "SemiHeapDeskModel", name := "least", desc := "()I" } : Jvm.MethodName)) ∈ lw_all := lw_g (lw_at lw_m2 42 rfl) rfl
theorem q285 : (Jvm.Cond.code ({ cls := "SemiHeapDeskModel", name := "least", desc := "()I" } : Jvm.MethodName) prog_8_method_6_code (1 : Nat) (Option.some Jvm.ClassFile.FieldType.int)) ∈ lw_all := lw_g (lw_at lw_m2 43 rfl) rfl
theorem q286 : (Jvm.Cond.methodLink "SemiHeapDeskModel" (21 : Nat) ({ cls := "SemiHeapDeskModel", name := "leastPlace", desc := "()I" } : Jvm.MethodName)) ∈ lw_all := lw_g (lw_at lw_m2 44 rfl) rfl
theorem q287 : (Jvm.Cond.privateMethod ({ cls := "SemiHeapDeskModel", name := "leastPlace", desc := "()I" } : Jvm.MethodName)) ∈ lw_tbl := lw_at lw_m2 45 rfl
theorem q288 : (Jvm.Cond.instanceMethod ({ cls := "SemiHeapDeskModel", name := "leastPlace", desc := "()I" } : Jvm.MethodName)) ∈ lw_all := lw_g (lw_at lw_m2 46 rfl) rfl
theorem q289 : (Jvm.Cond.code ({ cls := "SemiHeapDeskModel", name := "leastPlace", desc := "()I" } : Jvm.MethodName) prog_8_method_2_code (3 : Nat) (Option.some Jvm.ClassFile.FieldType.int)) ∈ lw_all := lw_g (lw_at lw_m2 47 rfl) rfl
theorem q291 : (Jvm.Cond.instanceMethod ({ cls := "SemiHeapDeskModel", name := "take", desc := "()I" } : Jvm.MethodName)) ∈ lw_all := lw_g (lw_at lw_m2 49 rfl) rfl
theorem q292 : (Jvm.Cond.selects "SemiHeapDeskModel" ({ cls := "SemiHeapDeskModel", name := "take", desc := "()I" } : Jvm.MethodName) ({ cls := "SemiHeapDeskModel", name := "take", desc := "()I" } : Jvm.MethodName)) ∈ lw_all := lw_g (lw_at lw_m2 50 rfl) rfl
theorem q293 : (Jvm.Cond.code ({ cls := "SemiHeapDeskModel", name := "take", desc := "()I" } : Jvm.MethodName) prog_8_method_7_code (2 : Nat) (Option.some Jvm.ClassFile.FieldType.int)) ∈ lw_all := lw_g (lw_at lw_m2 51 rfl) rfl
theorem q295 : (Jvm.Cond.instanceMethod ({ cls := "SemiHeapDeskModel", name := "headChanged", desc := "(I)Z" } : Jvm.MethodName)) ∈ lw_all := lw_g (lw_at lw_m2 53 rfl) rfl
theorem q296 : (Jvm.Cond.selects "SemiHeapDeskModel" ({ cls := "SemiHeapDeskModel", name := "headChanged", desc := "(I)Z" } : Jvm.MethodName) ({ cls := "SemiHeapDeskModel", name := "headChanged", desc := "(I)Z" } : Jvm.MethodName)) ∈ lw_all := lw_g (lw_at lw_m2 54 rfl) rfl
theorem q297 : (Jvm.Cond.code ({ cls := "SemiHeapDeskModel", name := "headChanged", desc := "(I)Z" } : Jvm.MethodName) prog_8_method_8_code (3 : Nat) (Option.some Jvm.ClassFile.FieldType.boolean)) ∈ lw_all := lw_g (lw_at lw_m2 55 rfl) rfl
theorem q299 : (Jvm.Cond.instanceMethod ({ cls := "SemiHeapDeskModel", name := "all", desc := "(I)V" } : Jvm.MethodName)) ∈ lw_all := lw_g (lw_at lw_m2 57 rfl) rfl
theorem q300 : (Jvm.Cond.selects "SemiHeapDeskModel" ({ cls := "SemiHeapDeskModel", name := "all", desc := "(I)V" } : Jvm.MethodName) ({ cls := "SemiHeapDeskModel", name := "all", desc := "(I)V" } : Jvm.MethodName)) ∈ lw_all := lw_g (lw_at lw_m2 58 rfl) rfl
theorem q301 : (Jvm.Cond.code ({ cls := "SemiHeapDeskModel", name := "all", desc := "(I)V" } : Jvm.MethodName) prog_8_method_9_code (3 : Nat) (Option.none : Option Jvm.ClassFile.FieldType)) ∈ lw_all := lw_g (lw_at lw_m2 59 rfl) rfl
theorem q303 : (Jvm.Cond.instanceMethod ({ cls := "SemiHeapDeskModel", name := "front", desc := "()I" } : Jvm.MethodName)) ∈ lw_all := lw_g (lw_at lw_m2 61 rfl) rfl
theorem q304 : (Jvm.Cond.selects "SemiHeapDeskModel" ({ cls := "SemiHeapDeskModel", name := "front", desc := "()I" } : Jvm.MethodName) ({ cls := "SemiHeapDeskModel", name := "front", desc := "()I" } : Jvm.MethodName)) ∈ lw_all := lw_g (lw_at lw_m2 62 rfl) rfl
theorem q305 : (Jvm.Cond.code ({ cls := "SemiHeapDeskModel", name := "front", desc := "()I" } : Jvm.MethodName) prog_8_method_10_code (4 : Nat) (Option.some Jvm.ClassFile.FieldType.int)) ∈ lw_all := lw_g (lw_at lw_m2 63 rfl) rfl
theorem q307 : (Jvm.Cond.instanceMethod ({ cls := "SemiHeapDeskModel", name := "waiting", desc := "()I" } : Jvm.MethodName)) ∈ lw_all := lw_g (lw_at lw_m2 65 rfl) rfl
theorem q308 : (Jvm.Cond.selects "SemiHeapDeskModel" ({ cls := "SemiHeapDeskModel", name := "waiting", desc := "()I" } : Jvm.MethodName) ({ cls := "SemiHeapDeskModel", name := "waiting", desc := "()I" } : Jvm.MethodName)) ∈ lw_all := lw_g (lw_at lw_m2 66 rfl) rfl
theorem q309 : (Jvm.Cond.code ({ cls := "SemiHeapDeskModel", name := "waiting", desc := "()I" } : Jvm.MethodName) prog_8_method_11_code (3 : Nat) (Option.some Jvm.ClassFile.FieldType.int)) ∈ lw_all := lw_g (lw_at lw_m2 67 rfl) rfl
theorem q311 : (Jvm.Cond.instanceMethod ({ cls := "SemiHeapDeskModel", name := "value", desc := "(I)I" } : Jvm.MethodName)) ∈ lw_all := lw_g (lw_at lw_m2 69 rfl) rfl
theorem q312 : (Jvm.Cond.selects "SemiHeapDeskModel" ({ cls := "SemiHeapDeskModel", name := "value", desc := "(I)I" } : Jvm.MethodName) ({ cls := "SemiHeapDeskModel", name := "value", desc := "(I)I" } : Jvm.MethodName)) ∈ lw_all := lw_g (lw_at lw_m2 70 rfl) rfl
theorem q313 : (Jvm.Cond.code ({ cls := "SemiHeapDeskModel", name := "value", desc := "(I)I" } : Jvm.MethodName) prog_8_method_12_code (2 : Nat) (Option.some Jvm.ClassFile.FieldType.int)) ∈ lw_all := lw_g (lw_at lw_m2 71 rfl) rfl
theorem q315 : (Jvm.Cond.instanceMethod ({ cls := "SemiHeapDeskModel", name := "drain", desc := "()V" } : Jvm.MethodName)) ∈ lw_all := lw_g (lw_at lw_m2 73 rfl) rfl
theorem q316 : (Jvm.Cond.selects "SemiHeapDeskModel" ({ cls := "SemiHeapDeskModel", name := "drain", desc := "()V" } : Jvm.MethodName) ({ cls := "SemiHeapDeskModel", name := "drain", desc := "()V" } : Jvm.MethodName)) ∈ lw_all := lw_g (lw_at lw_m2 74 rfl) rfl
theorem q317 : (Jvm.Cond.code ({ cls := "SemiHeapDeskModel", name := "drain", desc := "()V" } : Jvm.MethodName) prog_8_method_13_code (2 : Nat) (Option.none : Option Jvm.ClassFile.FieldType)) ∈ lw_all := lw_g (lw_at lw_m2 75 rfl) rfl
theorem q321 : (Jvm.Cond.castable "SemiHeapDeskModel" "java/lang/Object") ∈ lw_tbl := lw_at lw_m2 79 rfl
theorem in_X3 : ∀ w ∈ wsX30, w ∈ lw_all := lw_in wsX30 [266, 268] (by decide +kernel) (by decide +kernel)
/-! the law's own entry -/
set_option maxRecDepth 100000
abbrev cL_law : ByteArray := code
def dkwL_law_11 : List UInt8 := [132, 3, 6, 167, 254, 253, 4, 172]
abbrev dktL_law_11 : List UInt8 := dkwL_law_11 ++ []
def dkwL_law_10 : List UInt8 := [4, 96, 46, 182, 0, 53, 159, 0, 16, 3, 172, 43, 182, 0, 54, 44, 182, 0, 57, 167, 0, 3]
abbrev dktL_law_10 : List UInt8 := dkwL_law_10 ++ dktL_law_11
def dkwL_law_9 : List UInt8 := [182, 0, 45, 44, 182, 0, 48, 159, 0, 39, 3, 172, 43, 42, 29, 4, 96, 46, 182, 0, 49, 44, 42, 29]
abbrev dktL_law_9 : List UInt8 := dkwL_law_9 ++ dktL_law_10
def dkwL_law_8 : List UInt8 := [96, 46, 182, 0, 40, 167, 0, 63, 43, 182, 0, 41, 44, 182, 0, 44, 159, 0, 52, 3, 172, 43]
abbrev dktL_law_8 : List UInt8 := dkwL_law_8 ++ dktL_law_9
def dkwL_law_7 : List UInt8 := [4, 96, 46, 182, 0, 35, 159, 0, 86, 3, 172, 43, 42, 29, 4, 96, 46, 182, 0, 36, 44, 42, 29, 4]
abbrev dktL_law_7 : List UInt8 := dkwL_law_7 ++ dktL_law_8
def dkwL_law_6 : List UInt8 := [182, 0, 28, 44, 182, 0, 31, 159, 0, 109, 3, 172, 43, 42, 29, 4, 96, 46, 182, 0, 32, 44, 42, 29]
abbrev dktL_law_6 : List UInt8 := dkwL_law_6 ++ dktL_law_7
def dkwL_law_5 : List UInt8 := [182, 0, 22, 159, 0, 135, 3, 172, 43, 182, 0, 23, 44, 182, 0, 27, 159, 0, 122, 3, 172, 43]
abbrev dktL_law_5 : List UInt8 := dkwL_law_5 ++ dktL_law_6
def dkwL_law_4 : List UInt8 := [46, 182, 0, 17, 159, 0, 158, 3, 172, 43, 42, 29, 4, 96, 46, 182, 0, 18, 44, 42, 29, 4, 96, 46]
abbrev dktL_law_4 : List UInt8 := dkwL_law_4 ++ dktL_law_5
def dkwL_law_3 : List UInt8 := [43, 42, 29, 4, 96, 46, 42, 29, 5, 96, 46, 182, 0, 13, 44, 42, 29, 4, 96, 46, 42, 29, 5, 96]
abbrev dktL_law_3 : List UInt8 := dkwL_law_3 ++ dktL_law_4
def dkwL_law_2 : List UInt8 := [170, 0, 0, 0, 0, 0, 241, 0, 0, 0, 0, 0, 0, 0, 9, 0, 0, 0, 55, 0, 0, 0, 88, 0, 0, 0, 111, 0, 0, 0, 124, 0, 0, 0, 137, 0, 0, 0, 160, 0, 0, 0, 181, 0, 0, 0, 194, 0, 0, 0, 207, 0, 0, 0, 230]
abbrev dktL_law_2 : List UInt8 := dkwL_law_2 ++ dktL_law_3
def dkwL_law_1 : List UInt8 := [163, 1, 0, 42, 29, 46, 16, 15, 126]
abbrev dktL_law_1 : List UInt8 := dkwL_law_1 ++ dktL_law_2
def dkwL_law_0 : List UInt8 := [187, 0, 7, 89, 183, 0, 9, 76, 187, 0, 10, 89, 183, 0, 12, 77, 3, 62, 29, 42, 190, 16, 6, 100]
abbrev dktL_law_0 : List UInt8 := dkwL_law_0 ++ dktL_law_1
theorem dksL_law_0 : cL_law.data.toList.drop 0 = dktL_law_0 := by decide +kernel
theorem dksL_law_1 : cL_law.data.toList.drop 24 = dktL_law_1 := dk_seg dksL_law_0 24 rfl rfl
theorem dksL_law_2 : cL_law.data.toList.drop 33 = dktL_law_2 := dk_seg dksL_law_1 9 rfl rfl
theorem dksL_law_3 : cL_law.data.toList.drop 88 = dktL_law_3 := dk_seg dksL_law_2 55 rfl rfl
theorem dksL_law_4 : cL_law.data.toList.drop 112 = dktL_law_4 := dk_seg dksL_law_3 24 rfl rfl
theorem dksL_law_5 : cL_law.data.toList.drop 136 = dktL_law_5 := dk_seg dksL_law_4 24 rfl rfl
theorem dksL_law_6 : cL_law.data.toList.drop 158 = dktL_law_6 := dk_seg dksL_law_5 22 rfl rfl
theorem dksL_law_7 : cL_law.data.toList.drop 182 = dktL_law_7 := dk_seg dksL_law_6 24 rfl rfl
theorem dksL_law_8 : cL_law.data.toList.drop 206 = dktL_law_8 := dk_seg dksL_law_7 24 rfl rfl
theorem dksL_law_9 : cL_law.data.toList.drop 228 = dktL_law_9 := dk_seg dksL_law_8 22 rfl rfl
theorem dksL_law_10 : cL_law.data.toList.drop 252 = dktL_law_10 := dk_seg dksL_law_9 24 rfl rfl
theorem dksL_law_11 : cL_law.data.toList.drop 274 = dktL_law_11 := dk_seg dksL_law_10 22 rfl rfl
theorem dL_law_0 : decode cL_law 0 = .ok (.new 7, 3) := dk_187 0 7 (dk_at dksL_law_0 0 rfl rfl)
theorem dL_law_3 : decode cL_law 3 = .ok (.dup, 1) := dk_89 (dk_at dksL_law_0 3 rfl rfl)
theorem dL_law_4 : decode cL_law 4 = .ok (.invokespecial 9, 3) := dk_183 0 9 (dk_at dksL_law_0 4 rfl rfl)
theorem dL_law_7 : decode cL_law 7 = .ok (.astore_n 1, 1) := dk_76 (dk_at dksL_law_0 7 rfl rfl)
theorem dL_law_8 : decode cL_law 8 = .ok (.new 10, 3) := dk_187 0 10 (dk_at dksL_law_0 8 rfl rfl)
theorem dL_law_11 : decode cL_law 11 = .ok (.dup, 1) := dk_89 (dk_at dksL_law_0 11 rfl rfl)
theorem dL_law_12 : decode cL_law 12 = .ok (.invokespecial 12, 3) := dk_183 0 12 (dk_at dksL_law_0 12 rfl rfl)
theorem dL_law_15 : decode cL_law 15 = .ok (.astore_n 2, 1) := dk_77 (dk_at dksL_law_0 15 rfl rfl)
theorem dL_law_16 : decode cL_law 16 = .ok (.iconst 0, 1) := dk_3 (dk_at dksL_law_0 16 rfl rfl)
theorem dL_law_17 : decode cL_law 17 = .ok (.istore_n 3, 1) := dk_62 (dk_at dksL_law_0 17 rfl rfl)
theorem dL_law_18 : decode cL_law 18 = .ok (.iload_n 3, 1) := dk_29 (dk_at dksL_law_0 18 rfl rfl)
theorem dL_law_19 : decode cL_law 19 = .ok (.aload_n 0, 1) := dk_42 (dk_at dksL_law_0 19 rfl rfl)
theorem dL_law_20 : decode cL_law 20 = .ok (.arraylength, 1) := dk_190 (dk_at dksL_law_0 20 rfl rfl)
theorem dL_law_21 : decode cL_law 21 = .ok (.bipush 6, 2) := dk_16 6 (dk_at dksL_law_0 21 rfl rfl)
theorem dL_law_23 : decode cL_law 23 = .ok (.isub, 1) := dk_100 (dk_at dksL_law_0 23 rfl rfl)
theorem dL_law_24 : decode cL_law 24 = .ok (.if_icmp .gt 256, 3) := dk_163 1 0 (dk_at dksL_law_1 0 rfl rfl)
theorem dL_law_27 : decode cL_law 27 = .ok (.aload_n 0, 1) := dk_42 (dk_at dksL_law_1 3 rfl rfl)
theorem dL_law_28 : decode cL_law 28 = .ok (.iload_n 3, 1) := dk_29 (dk_at dksL_law_1 4 rfl rfl)
theorem dL_law_29 : decode cL_law 29 = .ok (.iaload, 1) := dk_46 (dk_at dksL_law_1 5 rfl rfl)
theorem dL_law_30 : decode cL_law 30 = .ok (.bipush 15, 2) := dk_16 15 (dk_at dksL_law_1 6 rfl rfl)
theorem dL_law_32 : decode cL_law 32 = .ok (.iand, 1) := dk_126 (dk_at dksL_law_1 8 rfl rfl)
theorem dL_law_33 : decode cL_law 33 = .ok (.tableswitch 241 0 9 #[55, 88, 111, 124, 137, 160, 181, 194, 207, 230], 55) := by decide +kernel
theorem dL_law_88 : decode cL_law 88 = .ok (.aload_n 1, 1) := dk_43 (dk_at dksL_law_3 0 rfl rfl)
theorem dL_law_89 : decode cL_law 89 = .ok (.aload_n 0, 1) := dk_42 (dk_at dksL_law_3 1 rfl rfl)
theorem dL_law_90 : decode cL_law 90 = .ok (.iload_n 3, 1) := dk_29 (dk_at dksL_law_3 2 rfl rfl)
theorem dL_law_91 : decode cL_law 91 = .ok (.iconst 1, 1) := dk_4 (dk_at dksL_law_3 3 rfl rfl)
theorem dL_law_92 : decode cL_law 92 = .ok (.iadd, 1) := dk_96 (dk_at dksL_law_3 4 rfl rfl)
theorem dL_law_93 : decode cL_law 93 = .ok (.iaload, 1) := dk_46 (dk_at dksL_law_3 5 rfl rfl)
theorem dL_law_94 : decode cL_law 94 = .ok (.aload_n 0, 1) := dk_42 (dk_at dksL_law_3 6 rfl rfl)
theorem dL_law_95 : decode cL_law 95 = .ok (.iload_n 3, 1) := dk_29 (dk_at dksL_law_3 7 rfl rfl)
theorem dL_law_96 : decode cL_law 96 = .ok (.iconst 2, 1) := dk_5 (dk_at dksL_law_3 8 rfl rfl)
theorem dL_law_97 : decode cL_law 97 = .ok (.iadd, 1) := dk_96 (dk_at dksL_law_3 9 rfl rfl)
theorem dL_law_98 : decode cL_law 98 = .ok (.iaload, 1) := dk_46 (dk_at dksL_law_3 10 rfl rfl)
theorem dL_law_99 : decode cL_law 99 = .ok (.invokevirtual 13, 3) := dk_182 0 13 (dk_at dksL_law_3 11 rfl rfl)
theorem dL_law_102 : decode cL_law 102 = .ok (.aload_n 2, 1) := dk_44 (dk_at dksL_law_3 14 rfl rfl)
theorem dL_law_103 : decode cL_law 103 = .ok (.aload_n 0, 1) := dk_42 (dk_at dksL_law_3 15 rfl rfl)
theorem dL_law_104 : decode cL_law 104 = .ok (.iload_n 3, 1) := dk_29 (dk_at dksL_law_3 16 rfl rfl)
theorem dL_law_105 : decode cL_law 105 = .ok (.iconst 1, 1) := dk_4 (dk_at dksL_law_3 17 rfl rfl)
theorem dL_law_106 : decode cL_law 106 = .ok (.iadd, 1) := dk_96 (dk_at dksL_law_3 18 rfl rfl)
theorem dL_law_107 : decode cL_law 107 = .ok (.iaload, 1) := dk_46 (dk_at dksL_law_3 19 rfl rfl)
theorem dL_law_108 : decode cL_law 108 = .ok (.aload_n 0, 1) := dk_42 (dk_at dksL_law_3 20 rfl rfl)
theorem dL_law_109 : decode cL_law 109 = .ok (.iload_n 3, 1) := dk_29 (dk_at dksL_law_3 21 rfl rfl)
theorem dL_law_110 : decode cL_law 110 = .ok (.iconst 2, 1) := dk_5 (dk_at dksL_law_3 22 rfl rfl)
theorem dL_law_111 : decode cL_law 111 = .ok (.iadd, 1) := dk_96 (dk_at dksL_law_3 23 rfl rfl)
theorem dL_law_112 : decode cL_law 112 = .ok (.iaload, 1) := dk_46 (dk_at dksL_law_4 0 rfl rfl)
theorem dL_law_113 : decode cL_law 113 = .ok (.invokevirtual 17, 3) := dk_182 0 17 (dk_at dksL_law_4 1 rfl rfl)
theorem dL_law_116 : decode cL_law 116 = .ok (.if_icmp .eq 158, 3) := dk_159 0 158 (dk_at dksL_law_4 4 rfl rfl)
theorem dL_law_119 : decode cL_law 119 = .ok (.iconst 0, 1) := dk_3 (dk_at dksL_law_4 7 rfl rfl)
theorem dL_law_120 : decode cL_law 120 = .ok (.ireturn, 1) := dk_172 (dk_at dksL_law_4 8 rfl rfl)
theorem dL_law_121 : decode cL_law 121 = .ok (.aload_n 1, 1) := dk_43 (dk_at dksL_law_4 9 rfl rfl)
theorem dL_law_122 : decode cL_law 122 = .ok (.aload_n 0, 1) := dk_42 (dk_at dksL_law_4 10 rfl rfl)
theorem dL_law_123 : decode cL_law 123 = .ok (.iload_n 3, 1) := dk_29 (dk_at dksL_law_4 11 rfl rfl)
theorem dL_law_124 : decode cL_law 124 = .ok (.iconst 1, 1) := dk_4 (dk_at dksL_law_4 12 rfl rfl)
theorem dL_law_125 : decode cL_law 125 = .ok (.iadd, 1) := dk_96 (dk_at dksL_law_4 13 rfl rfl)
theorem dL_law_126 : decode cL_law 126 = .ok (.iaload, 1) := dk_46 (dk_at dksL_law_4 14 rfl rfl)
theorem dL_law_127 : decode cL_law 127 = .ok (.invokevirtual 18, 3) := dk_182 0 18 (dk_at dksL_law_4 15 rfl rfl)
theorem dL_law_130 : decode cL_law 130 = .ok (.aload_n 2, 1) := dk_44 (dk_at dksL_law_4 18 rfl rfl)
theorem dL_law_131 : decode cL_law 131 = .ok (.aload_n 0, 1) := dk_42 (dk_at dksL_law_4 19 rfl rfl)
theorem dL_law_132 : decode cL_law 132 = .ok (.iload_n 3, 1) := dk_29 (dk_at dksL_law_4 20 rfl rfl)
theorem dL_law_133 : decode cL_law 133 = .ok (.iconst 1, 1) := dk_4 (dk_at dksL_law_4 21 rfl rfl)
theorem dL_law_134 : decode cL_law 134 = .ok (.iadd, 1) := dk_96 (dk_at dksL_law_4 22 rfl rfl)
theorem dL_law_135 : decode cL_law 135 = .ok (.iaload, 1) := dk_46 (dk_at dksL_law_4 23 rfl rfl)
theorem dL_law_136 : decode cL_law 136 = .ok (.invokevirtual 22, 3) := dk_182 0 22 (dk_at dksL_law_5 0 rfl rfl)
theorem dL_law_139 : decode cL_law 139 = .ok (.if_icmp .eq 135, 3) := dk_159 0 135 (dk_at dksL_law_5 3 rfl rfl)
theorem dL_law_142 : decode cL_law 142 = .ok (.iconst 0, 1) := dk_3 (dk_at dksL_law_5 6 rfl rfl)
theorem dL_law_143 : decode cL_law 143 = .ok (.ireturn, 1) := dk_172 (dk_at dksL_law_5 7 rfl rfl)
theorem dL_law_144 : decode cL_law 144 = .ok (.aload_n 1, 1) := dk_43 (dk_at dksL_law_5 8 rfl rfl)
theorem dL_law_145 : decode cL_law 145 = .ok (.invokevirtual 23, 3) := dk_182 0 23 (dk_at dksL_law_5 9 rfl rfl)
theorem dL_law_148 : decode cL_law 148 = .ok (.aload_n 2, 1) := dk_44 (dk_at dksL_law_5 12 rfl rfl)
theorem dL_law_149 : decode cL_law 149 = .ok (.invokevirtual 27, 3) := dk_182 0 27 (dk_at dksL_law_5 13 rfl rfl)
theorem dL_law_152 : decode cL_law 152 = .ok (.if_icmp .eq 122, 3) := dk_159 0 122 (dk_at dksL_law_5 16 rfl rfl)
theorem dL_law_155 : decode cL_law 155 = .ok (.iconst 0, 1) := dk_3 (dk_at dksL_law_5 19 rfl rfl)
theorem dL_law_156 : decode cL_law 156 = .ok (.ireturn, 1) := dk_172 (dk_at dksL_law_5 20 rfl rfl)
theorem dL_law_157 : decode cL_law 157 = .ok (.aload_n 1, 1) := dk_43 (dk_at dksL_law_5 21 rfl rfl)
theorem dL_law_158 : decode cL_law 158 = .ok (.invokevirtual 28, 3) := dk_182 0 28 (dk_at dksL_law_6 0 rfl rfl)
theorem dL_law_161 : decode cL_law 161 = .ok (.aload_n 2, 1) := dk_44 (dk_at dksL_law_6 3 rfl rfl)
theorem dL_law_162 : decode cL_law 162 = .ok (.invokevirtual 31, 3) := dk_182 0 31 (dk_at dksL_law_6 4 rfl rfl)
theorem dL_law_165 : decode cL_law 165 = .ok (.if_icmp .eq 109, 3) := dk_159 0 109 (dk_at dksL_law_6 7 rfl rfl)
theorem dL_law_168 : decode cL_law 168 = .ok (.iconst 0, 1) := dk_3 (dk_at dksL_law_6 10 rfl rfl)
theorem dL_law_169 : decode cL_law 169 = .ok (.ireturn, 1) := dk_172 (dk_at dksL_law_6 11 rfl rfl)
theorem dL_law_170 : decode cL_law 170 = .ok (.aload_n 1, 1) := dk_43 (dk_at dksL_law_6 12 rfl rfl)
theorem dL_law_171 : decode cL_law 171 = .ok (.aload_n 0, 1) := dk_42 (dk_at dksL_law_6 13 rfl rfl)
theorem dL_law_172 : decode cL_law 172 = .ok (.iload_n 3, 1) := dk_29 (dk_at dksL_law_6 14 rfl rfl)
theorem dL_law_173 : decode cL_law 173 = .ok (.iconst 1, 1) := dk_4 (dk_at dksL_law_6 15 rfl rfl)
theorem dL_law_174 : decode cL_law 174 = .ok (.iadd, 1) := dk_96 (dk_at dksL_law_6 16 rfl rfl)
theorem dL_law_175 : decode cL_law 175 = .ok (.iaload, 1) := dk_46 (dk_at dksL_law_6 17 rfl rfl)
theorem dL_law_176 : decode cL_law 176 = .ok (.invokevirtual 32, 3) := dk_182 0 32 (dk_at dksL_law_6 18 rfl rfl)
theorem dL_law_179 : decode cL_law 179 = .ok (.aload_n 2, 1) := dk_44 (dk_at dksL_law_6 21 rfl rfl)
theorem dL_law_180 : decode cL_law 180 = .ok (.aload_n 0, 1) := dk_42 (dk_at dksL_law_6 22 rfl rfl)
theorem dL_law_181 : decode cL_law 181 = .ok (.iload_n 3, 1) := dk_29 (dk_at dksL_law_6 23 rfl rfl)
theorem dL_law_182 : decode cL_law 182 = .ok (.iconst 1, 1) := dk_4 (dk_at dksL_law_7 0 rfl rfl)
theorem dL_law_183 : decode cL_law 183 = .ok (.iadd, 1) := dk_96 (dk_at dksL_law_7 1 rfl rfl)
theorem dL_law_184 : decode cL_law 184 = .ok (.iaload, 1) := dk_46 (dk_at dksL_law_7 2 rfl rfl)
theorem dL_law_185 : decode cL_law 185 = .ok (.invokevirtual 35, 3) := dk_182 0 35 (dk_at dksL_law_7 3 rfl rfl)
theorem dL_law_188 : decode cL_law 188 = .ok (.if_icmp .eq 86, 3) := dk_159 0 86 (dk_at dksL_law_7 6 rfl rfl)
theorem dL_law_191 : decode cL_law 191 = .ok (.iconst 0, 1) := dk_3 (dk_at dksL_law_7 9 rfl rfl)
theorem dL_law_192 : decode cL_law 192 = .ok (.ireturn, 1) := dk_172 (dk_at dksL_law_7 10 rfl rfl)
theorem dL_law_193 : decode cL_law 193 = .ok (.aload_n 1, 1) := dk_43 (dk_at dksL_law_7 11 rfl rfl)
theorem dL_law_194 : decode cL_law 194 = .ok (.aload_n 0, 1) := dk_42 (dk_at dksL_law_7 12 rfl rfl)
theorem dL_law_195 : decode cL_law 195 = .ok (.iload_n 3, 1) := dk_29 (dk_at dksL_law_7 13 rfl rfl)
theorem dL_law_196 : decode cL_law 196 = .ok (.iconst 1, 1) := dk_4 (dk_at dksL_law_7 14 rfl rfl)
theorem dL_law_197 : decode cL_law 197 = .ok (.iadd, 1) := dk_96 (dk_at dksL_law_7 15 rfl rfl)
theorem dL_law_198 : decode cL_law 198 = .ok (.iaload, 1) := dk_46 (dk_at dksL_law_7 16 rfl rfl)
theorem dL_law_199 : decode cL_law 199 = .ok (.invokevirtual 36, 3) := dk_182 0 36 (dk_at dksL_law_7 17 rfl rfl)
theorem dL_law_202 : decode cL_law 202 = .ok (.aload_n 2, 1) := dk_44 (dk_at dksL_law_7 20 rfl rfl)
theorem dL_law_203 : decode cL_law 203 = .ok (.aload_n 0, 1) := dk_42 (dk_at dksL_law_7 21 rfl rfl)
theorem dL_law_204 : decode cL_law 204 = .ok (.iload_n 3, 1) := dk_29 (dk_at dksL_law_7 22 rfl rfl)
theorem dL_law_205 : decode cL_law 205 = .ok (.iconst 1, 1) := dk_4 (dk_at dksL_law_7 23 rfl rfl)
theorem dL_law_206 : decode cL_law 206 = .ok (.iadd, 1) := dk_96 (dk_at dksL_law_8 0 rfl rfl)
theorem dL_law_207 : decode cL_law 207 = .ok (.iaload, 1) := dk_46 (dk_at dksL_law_8 1 rfl rfl)
theorem dL_law_208 : decode cL_law 208 = .ok (.invokevirtual 40, 3) := dk_182 0 40 (dk_at dksL_law_8 2 rfl rfl)
theorem dL_law_211 : decode cL_law 211 = .ok (.goto 63, 3) := dk_167 0 63 (dk_at dksL_law_8 5 rfl rfl)
theorem dL_law_214 : decode cL_law 214 = .ok (.aload_n 1, 1) := dk_43 (dk_at dksL_law_8 8 rfl rfl)
theorem dL_law_215 : decode cL_law 215 = .ok (.invokevirtual 41, 3) := dk_182 0 41 (dk_at dksL_law_8 9 rfl rfl)
theorem dL_law_218 : decode cL_law 218 = .ok (.aload_n 2, 1) := dk_44 (dk_at dksL_law_8 12 rfl rfl)
theorem dL_law_219 : decode cL_law 219 = .ok (.invokevirtual 44, 3) := dk_182 0 44 (dk_at dksL_law_8 13 rfl rfl)
theorem dL_law_222 : decode cL_law 222 = .ok (.if_icmp .eq 52, 3) := dk_159 0 52 (dk_at dksL_law_8 16 rfl rfl)
theorem dL_law_225 : decode cL_law 225 = .ok (.iconst 0, 1) := dk_3 (dk_at dksL_law_8 19 rfl rfl)
theorem dL_law_226 : decode cL_law 226 = .ok (.ireturn, 1) := dk_172 (dk_at dksL_law_8 20 rfl rfl)
theorem dL_law_227 : decode cL_law 227 = .ok (.aload_n 1, 1) := dk_43 (dk_at dksL_law_8 21 rfl rfl)
theorem dL_law_228 : decode cL_law 228 = .ok (.invokevirtual 45, 3) := dk_182 0 45 (dk_at dksL_law_9 0 rfl rfl)
theorem dL_law_231 : decode cL_law 231 = .ok (.aload_n 2, 1) := dk_44 (dk_at dksL_law_9 3 rfl rfl)
theorem dL_law_232 : decode cL_law 232 = .ok (.invokevirtual 48, 3) := dk_182 0 48 (dk_at dksL_law_9 4 rfl rfl)
theorem dL_law_235 : decode cL_law 235 = .ok (.if_icmp .eq 39, 3) := dk_159 0 39 (dk_at dksL_law_9 7 rfl rfl)
theorem dL_law_238 : decode cL_law 238 = .ok (.iconst 0, 1) := dk_3 (dk_at dksL_law_9 10 rfl rfl)
theorem dL_law_239 : decode cL_law 239 = .ok (.ireturn, 1) := dk_172 (dk_at dksL_law_9 11 rfl rfl)
theorem dL_law_240 : decode cL_law 240 = .ok (.aload_n 1, 1) := dk_43 (dk_at dksL_law_9 12 rfl rfl)
theorem dL_law_241 : decode cL_law 241 = .ok (.aload_n 0, 1) := dk_42 (dk_at dksL_law_9 13 rfl rfl)
theorem dL_law_242 : decode cL_law 242 = .ok (.iload_n 3, 1) := dk_29 (dk_at dksL_law_9 14 rfl rfl)
theorem dL_law_243 : decode cL_law 243 = .ok (.iconst 1, 1) := dk_4 (dk_at dksL_law_9 15 rfl rfl)
theorem dL_law_244 : decode cL_law 244 = .ok (.iadd, 1) := dk_96 (dk_at dksL_law_9 16 rfl rfl)
theorem dL_law_245 : decode cL_law 245 = .ok (.iaload, 1) := dk_46 (dk_at dksL_law_9 17 rfl rfl)
theorem dL_law_246 : decode cL_law 246 = .ok (.invokevirtual 49, 3) := dk_182 0 49 (dk_at dksL_law_9 18 rfl rfl)
theorem dL_law_249 : decode cL_law 249 = .ok (.aload_n 2, 1) := dk_44 (dk_at dksL_law_9 21 rfl rfl)
theorem dL_law_250 : decode cL_law 250 = .ok (.aload_n 0, 1) := dk_42 (dk_at dksL_law_9 22 rfl rfl)
theorem dL_law_251 : decode cL_law 251 = .ok (.iload_n 3, 1) := dk_29 (dk_at dksL_law_9 23 rfl rfl)
theorem dL_law_252 : decode cL_law 252 = .ok (.iconst 1, 1) := dk_4 (dk_at dksL_law_10 0 rfl rfl)
theorem dL_law_253 : decode cL_law 253 = .ok (.iadd, 1) := dk_96 (dk_at dksL_law_10 1 rfl rfl)
theorem dL_law_254 : decode cL_law 254 = .ok (.iaload, 1) := dk_46 (dk_at dksL_law_10 2 rfl rfl)
theorem dL_law_255 : decode cL_law 255 = .ok (.invokevirtual 53, 3) := dk_182 0 53 (dk_at dksL_law_10 3 rfl rfl)
theorem dL_law_258 : decode cL_law 258 = .ok (.if_icmp .eq 16, 3) := dk_159 0 16 (dk_at dksL_law_10 6 rfl rfl)
theorem dL_law_261 : decode cL_law 261 = .ok (.iconst 0, 1) := dk_3 (dk_at dksL_law_10 9 rfl rfl)
theorem dL_law_262 : decode cL_law 262 = .ok (.ireturn, 1) := dk_172 (dk_at dksL_law_10 10 rfl rfl)
theorem dL_law_263 : decode cL_law 263 = .ok (.aload_n 1, 1) := dk_43 (dk_at dksL_law_10 11 rfl rfl)
theorem dL_law_264 : decode cL_law 264 = .ok (.invokevirtual 54, 3) := dk_182 0 54 (dk_at dksL_law_10 12 rfl rfl)
theorem dL_law_267 : decode cL_law 267 = .ok (.aload_n 2, 1) := dk_44 (dk_at dksL_law_10 15 rfl rfl)
theorem dL_law_268 : decode cL_law 268 = .ok (.invokevirtual 57, 3) := dk_182 0 57 (dk_at dksL_law_10 16 rfl rfl)
theorem dL_law_271 : decode cL_law 271 = .ok (.goto 3, 3) := dk_167 0 3 (dk_at dksL_law_10 19 rfl rfl)
theorem dL_law_274 : decode cL_law 274 = .ok (.iinc 3 6, 3) := dk_132 3 6 (dk_at dksL_law_11 0 rfl rfl)
theorem dL_law_277 : decode cL_law 277 = .ok (.goto (-259), 3) := dk_167 254 253 (dk_at dksL_law_11 3 rfl rfl)
theorem dL_law_280 : decode cL_law 280 = .ok (.iconst 1, 1) := dk_4 (dk_at dksL_law_11 6 rfl rfl)
theorem dL_law_281 : decode cL_law 281 = .ok (.ireturn, 1) := dk_172 (dk_at dksL_law_11 7 rfl rfl)
/-- the classes whose objects the worlds hold -/
abbrev vwCl : List vw_C := [(RX0, TX0, 3), (RX1, TX1, 4), (RX3, TX3, 2)]
end
section
/-! PURE LAWS: a heap of places ordered by their values; the desk's invariant. No program here. -/
set_option maxRecDepth 100000
/-- the key of the heap's place j -/
def hp_k (v f : Nat → Int32) (j : Nat) : Int := (v (f j).toNatClampNeg).toInt
def hp_ok (f : Nat → Int32) (n : Nat) : Prop := ∀ j, j < n → vp_in (f j) 64
/-- g is f rearranged on the first n places -/
def hp_pm (f g : Nat → Int32) (n : Nat) : Prop := (∀ j, j < n → ∃ i, i < n ∧ g j = f i) ∧ (∀ i, i < n → ∃ j, j < n ∧ g j = f i) ∧ ((∀ i j, i < n → j < n → f i = f j → i = j) → ∀ i j, i < n → j < n → g i = g j → i = j)
/-- heap order below the places from lo on -/
def hp_or (v f : Nat → Int32) (n lo : Nat) : Prop := ∀ j, 0 < j → j < n → lo ≤ (j - 1) / 2 → hp_k v f ((j - 1) / 2) ≤ hp_k v f j
def hp_dn (v f : Nat → Int32) (n lo i : Nat) : Prop := (∀ j, 0 < j → j < n → lo ≤ (j - 1) / 2 → (j - 1) / 2 ≠ i → hp_k v f ((j - 1) / 2) ≤ hp_k v f j) ∧ ∀ j, 0 < j → j < n → (j - 1) / 2 = i → 0 < i → lo ≤ (i - 1) / 2 → hp_k v f ((i - 1) / 2) ≤ hp_k v f j
def hp_up (v f : Nat → Int32) (n i : Nat) : Prop := (∀ j, 0 < j → j < n → j ≠ i → hp_k v f ((j - 1) / 2) ≤ hp_k v f j) ∧ ∀ j, 0 < j → j < n → (j - 1) / 2 = i → 0 < i → hp_k v f ((i - 1) / 2) ≤ hp_k v f j
def hp_s (i c j : Nat) : Nat := if j = i then c else if j = c then i else j
def hp_sw (f : Nat → Int32) (i c : Nat) : Nat → Int32 := fun j => f (hp_s i c j)
theorem hp_s_i (i c : Nat) : hp_s i c i = c := if_pos rfl
theorem hp_s_c (i c : Nat) : hp_s i c c = i := by
  unfold hp_s
  by_cases h : c = i
  · rw [if_pos h, h]
  · rw [if_neg h, if_pos rfl]
theorem hp_s_o {i c j : Nat} (h1 : j ≠ i) (h2 : j ≠ c) : hp_s i c j = j := by
  unfold hp_s
  rw [if_neg h1, if_neg h2]
theorem hp_s_lt {n i c j : Nat} (hi : i < n) (hc : c < n) (hj : j < n) : hp_s i c j < n := by
  unfold hp_s
  by_cases h1 : j = i
  · rw [if_pos h1]; exact hc
  · rw [if_neg h1]
    by_cases h2 : j = c
    · rw [if_pos h2]; exact hi
    · rw [if_neg h2]; exact hj
theorem hp_s_s (i c j : Nat) : hp_s i c (hp_s i c j) = j := by
  by_cases h1 : j = i
  · rw [h1, hp_s_i, hp_s_c]
  · by_cases h2 : j = c
    · rw [h2, hp_s_c, hp_s_i]
    · rw [hp_s_o h1 h2, hp_s_o h1 h2]
theorem hp_pm_rf (f : Nat → Int32) (n : Nat) : hp_pm f f n := ⟨fun j h => ⟨j, h, rfl⟩, fun i h => ⟨i, h, rfl⟩, fun h => h⟩
theorem hp_pm_tr {f g k : Nat → Int32} {n : Nat} (h1 : hp_pm f g n) (h2 : hp_pm g k n) : hp_pm f k n := by
  refine ⟨fun j hj => ?_, fun i hi => ?_, fun h => h2.2.2 (h1.2.2 h)⟩
  · obtain ⟨i, hi, e⟩ := h2.1 j hj
    obtain ⟨i2, hi2, e2⟩ := h1.1 i hi
    exact ⟨i2, hi2, e.trans e2⟩
  · obtain ⟨j, hj, e⟩ := h1.2.1 i hi
    obtain ⟨j2, hj2, e2⟩ := h2.2.1 j hj
    exact ⟨j2, hj2, e2.trans e⟩
theorem hp_pm_sw {f : Nat → Int32} {n i c : Nat} (hi : i < n) (hc : c < n) : hp_pm f (hp_sw f i c) n := by
  refine ⟨fun j hj => ⟨hp_s i c j, hp_s_lt hi hc hj, rfl⟩, fun j hj => ⟨hp_s i c j, hp_s_lt hi hc hj, congrArg f (hp_s_s i c j)⟩, fun h a b ha hb e => ?_⟩
  have e1 := h _ _ (hp_s_lt hi hc ha) (hp_s_lt hi hc hb) e
  rw [← hp_s_s i c a, e1, hp_s_s]
theorem hp_self (f : Nat → Int32) (i : Nat) : upd f i (f i) = f := by
  funext j
  unfold upd
  by_cases h : j = i
  · rw [if_pos h, h]
  · rw [if_neg h]
theorem hp_sw_eq {a : Nat → Int32} {j c : Nat} {e : Int32} (h : c ≠ j) : upd (upd a j (a c)) c e = hp_sw (upd a j e) j c := by
  funext x
  show upd (upd a j (a c)) c e x = upd a j e (hp_s j c x)
  by_cases h1 : x = j
  · rw [h1, hp_s_i, pk_un (Ne.symm h), pk_us, pk_un h]
  · by_cases h2 : x = c
    · rw [h2, hp_s_c, pk_us, pk_us]
    · rw [hp_s_o h1 h2, pk_un h2, pk_un h1, pk_un h1]
theorem hp_k_s {v a : Nat → Int32} {j : Nat} {e : Int32} : hp_k v (upd a j e) j = (v e.toNatClampNeg).toInt := by
  unfold hp_k
  rw [pk_us]
theorem hp_k_o {v a : Nat → Int32} {j c : Nat} {e : Int32} (h : c ≠ j) : hp_k v (upd a j e) c = (v (a c).toNatClampNeg).toInt := by
  unfold hp_k
  rw [pk_un h]
theorem hp_ok_pm {f g : Nat → Int32} {n : Nat} (h : hp_ok f n) (hp : hp_pm f g n) : hp_ok g n := by
  intro j hj
  obtain ⟨i, hi, e⟩ := hp.1 j hj
  rw [e]
  exact h i hi
theorem hp_in {f a : Nat → Int32} {n j c : Nat} {e : Int32} (h : hp_ok f n) (hp : hp_pm f (upd a j e) n) (hc : c < n) (hne : c ≠ j) : vp_in (a c) 64 := by
  have h1 := hp_ok_pm h hp c hc
  rw [pk_un hne] at h1
  exact h1
theorem hp_dn_sw {v g : Nat → Int32} {n lo i c : Nat} (hlo : lo ≤ i) (h : hp_dn v g n lo i) (h0 : 0 < c) (hc : c < n) (hci : (c - 1) / 2 = i) (hlt : hp_k v g c < hp_k v g i) (hmin : ∀ d, 0 < d → d < n → (d - 1) / 2 = i → hp_k v g c ≤ hp_k v g d) : hp_dn v (hp_sw g i c) n lo c := by
  refine ⟨fun j j0 jn jl jp => ?_, fun j j0 jn jp c0 cl => ?_⟩
  · show hp_k v g (hp_s i c ((j - 1) / 2)) ≤ hp_k v g (hp_s i c j)
    by_cases j1 : j = i
    · rw [j1, hp_s_i, hp_s_o (by omega) (by omega)]
      exact h.2 c h0 hc hci (by omega) (by omega)
    · by_cases j2 : j = c
      · rw [j2, hp_s_c, hci, hp_s_i]
        exact Int.le_of_lt hlt
      · rw [hp_s_o j1 j2]
        by_cases j3 : (j - 1) / 2 = i
        · rw [j3, hp_s_i]
          exact hmin j j0 jn j3
        · rw [hp_s_o j3 jp]
          exact h.1 j j0 jn jl j3
  · show hp_k v g (hp_s i c ((c - 1) / 2)) ≤ hp_k v g (hp_s i c j)
    rw [hci, hp_s_i, hp_s_o (by omega) (by omega)]
    have h1 := h.1 j j0 jn (by omega) (by omega)
    rw [jp] at h1
    exact h1
theorem hp_up_sw {v g : Nat → Int32} {n i p : Nat} (hi0 : 0 < i) (hin : i < n) (hp : (i - 1) / 2 = p) (h : hp_up v g n i) (hlt : hp_k v g i < hp_k v g p) : hp_up v (hp_sw g i p) n p := by
  refine ⟨fun j j0 jn jp => ?_, fun j j0 jn jp p0 => ?_⟩
  · show hp_k v g (hp_s i p ((j - 1) / 2)) ≤ hp_k v g (hp_s i p j)
    by_cases j1 : j = i
    · rw [j1, hp_s_i, hp, hp_s_c]
      exact Int.le_of_lt hlt
    · rw [hp_s_o j1 jp]
      have h1 := h.1 j j0 jn j1
      by_cases j2 : (j - 1) / 2 = i
      · rw [j2, hp_s_i]
        have h2 := h.2 j j0 jn j2 hi0
        rw [hp] at h2
        exact h2
      · by_cases j3 : (j - 1) / 2 = p
        · rw [j3, hp_s_c]
          rw [j3] at h1
          omega
        · rw [hp_s_o j2 j3]
          exact h1
  · show hp_k v g (hp_s i p ((p - 1) / 2)) ≤ hp_k v g (hp_s i p j)
    have h1 := h.1 p p0 (by omega) (by omega)
    rw [hp_s_o (by omega) (by omega)]
    by_cases j1 : j = i
    · rw [j1, hp_s_i]
      exact h1
    · rw [hp_s_o j1 (by omega)]
      have h2 := h.1 j j0 jn j1
      rw [jp] at h2
      omega
/-- the hole at j, the value e on its way down: one step -/
theorem hp_dstep {v f a : Nat → Int32} {n lo j c : Nat} {e : Int32} (hj : j < n) (hlo : lo ≤ j) (hpm : hp_pm f (upd a j e) n) (hdn : hp_dn v (upd a j e) n lo j) (h0 : 0 < c) (hc : c < n) (hcj : (c - 1) / 2 = j) (hlt : v (a c).toNatClampNeg < v e.toNatClampNeg) (hmin : ∀ d, 0 < d → d < n → (d - 1) / 2 = j → v (a c).toNatClampNeg ≤ v (a d).toNatClampNeg) : hp_pm f (upd (upd a j (a c)) c e) n ∧ hp_dn v (upd (upd a j (a c)) c e) n lo c := by
  have hne : c ≠ j := by omega
  rw [hp_sw_eq hne]
  refine ⟨hp_pm_tr hpm (hp_pm_sw hj hc), hp_dn_sw hlo hdn h0 hc hcj ?_ ?_⟩
  · rw [hp_k_o hne, hp_k_s]
    exact Int32.lt_iff_toInt_lt.mp hlt
  · intro d d0 dn dj
    rw [hp_k_o hne, hp_k_o (by omega)]
    exact Int32.le_iff_toInt_le.mp (hmin d d0 dn dj)
theorem hp_dend {v a : Nat → Int32} {n lo j : Nat} {e : Int32} (hdn : hp_dn v (upd a j e) n lo j) (hmin : ∀ d, 0 < d → d < n → (d - 1) / 2 = j → v e.toNatClampNeg ≤ v (a d).toNatClampNeg) : hp_or v (upd a j e) n lo := by
  intro d d0 dn dl
  by_cases h : (d - 1) / 2 = j
  · rw [h, hp_k_s, hp_k_o (by omega)]
    exact Int32.le_iff_toInt_le.mp (hmin d d0 dn h)
  · exact hdn.1 d d0 dn dl h
theorem hp_ustep {v f a : Nat → Int32} {n j p : Nat} {e : Int32} (h0 : 0 < j) (hj : j < n) (hp : (j - 1) / 2 = p) (hpm : hp_pm f (upd a j e) n) (hup : hp_up v (upd a j e) n j) (hlt : v e.toNatClampNeg < v (a p).toNatClampNeg) : hp_pm f (upd (upd a j (a p)) p e) n ∧ hp_up v (upd (upd a j (a p)) p e) n p := by
  have hne : p ≠ j := by omega
  rw [hp_sw_eq hne]
  refine ⟨hp_pm_tr hpm (hp_pm_sw hj (by omega)), hp_up_sw h0 hj hp hup ?_⟩
  rw [hp_k_o hne, hp_k_s]
  exact Int32.lt_iff_toInt_lt.mp hlt
theorem hp_uend {v a : Nat → Int32} {n j : Nat} {e : Int32} (hup : hp_up v (upd a j e) n j) (h : j = 0 ∨ v (a ((j - 1) / 2)).toNatClampNeg ≤ v e.toNatClampNeg) : hp_or v (upd a j e) n 0 := by
  intro d d0 dn _
  by_cases hd : d = j
  · subst hd
    rcases h with h | h
    · exact absurd d0 (by omega)
    · rw [hp_k_s, hp_k_o (by omega)]
      exact Int32.le_iff_toInt_le.mp h
  · exact hup.1 d d0 dn hd
theorem hp_ch0 {n j : Nat} {P : Nat → Prop} (h : n ≤ j * 2 + 1) : ∀ d, 0 < d → d < n → (d - 1) / 2 = j → P d := fun d d0 dn dj => absurd dn (by omega)
theorem hp_ch1 {n j : Nat} {P : Nat → Prop} (h : n ≤ j * 2 + 1 + 1) (h1 : P (j * 2 + 1)) : ∀ d, 0 < d → d < n → (d - 1) / 2 = j → P d := fun d d0 dn dj => by
  have e : d = j * 2 + 1 := by omega
  rw [e]; exact h1
theorem hp_ch2 {n j : Nat} {P : Nat → Prop} (h1 : P (j * 2 + 1)) (h2 : P (j * 2 + 1 + 1)) : ∀ d, 0 < d → d < n → (d - 1) / 2 = j → P d := fun d d0 dn dj => by
  rcases (show d = j * 2 + 1 ∨ d = j * 2 + 1 + 1 by omega) with e | e
  · rw [e]; exact h1
  · rw [e]; exact h2
theorem hp_i_le {a b : Int32} (h : ¬ a ≤ b) : b ≤ a := by
  rw [Int32.le_iff_toInt_le] at h ⊢
  omega
theorem hp_i_nlt {a b : Int32} (h : ¬ a < b) : b ≤ a := by
  rw [Int32.lt_iff_toInt_lt] at h
  rw [Int32.le_iff_toInt_le]
  omega
theorem hp_i_lt {a b : Int32} (h : ¬ a ≤ b) : b < a := by
  rw [Int32.le_iff_toInt_le] at h
  rw [Int32.lt_iff_toInt_lt]
  omega
theorem hp_i_tr {a b c : Int32} (h : a ≤ b) (h2 : b ≤ c) : a ≤ c := by
  rw [Int32.le_iff_toInt_le] at h h2 ⊢
  omega
theorem hp_i_ltle {a b : Int32} (h : a < b) : a ≤ b := by
  rw [Int32.lt_iff_toInt_lt] at h
  rw [Int32.le_iff_toInt_le]
  omega
theorem hp_i_rf (a : Int32) : a ≤ a := by
  rw [Int32.le_iff_toInt_le]
  omega
/-- the starts -/
theorem hp_dn_of {v f : Nat → Int32} {n i : Nat} (h : hp_or v f n (i + 1)) : hp_dn v f n i i := ⟨fun j j0 jn jl jp => h j j0 jn (by omega), fun j j0 jn jp i0 il => absurd il (by omega)⟩
theorem hp_or_big (v f : Nat → Int32) (n : Nat) : hp_or v f n (n / 2) := fun j j0 jn jl => absurd jn (by omega)
theorem hp_up_of {v f : Nat → Int32} {n : Nat} {x : Int32} (h : hp_or v f n 0) : hp_up v (upd f n x) (n + 1) n := by
  refine ⟨fun j j0 jn jp => ?_, fun j j0 jn jp => absurd jn (by omega)⟩
  rw [hp_k_o jp, hp_k_o (by omega)]
  exact h j j0 (by omega) (Nat.zero_le _)
theorem hp_or_pop {v f : Nat → Int32} {n : Nat} {x : Int32} (h : hp_or v f n 0) : hp_or v (upd f 0 x) (n - 1) 1 := by
  intro j j0 jn jl
  rw [hp_k_o (by omega), hp_k_o (by omega)]
  exact h j j0 (by omega) (Nat.zero_le _)
theorem hp_root {v f : Nat → Int32} {n : Nat} (h : hp_or v f n 0) : ∀ (m j : Nat), j ≤ m → j < n → hp_k v f 0 ≤ hp_k v f j := by
  intro m
  induction m with
  | zero =>
    intro j h1 _
    have e : j = 0 := by omega
    rw [e]
    exact Int.le_refl _
  | succ m ih =>
    intro j h1 h2
    by_cases hj : j = 0
    · rw [hj]
      exact Int.le_refl _
    · have h3 := ih ((j - 1) / 2) (by omega) (by omega)
      have h4 := h j (by omega) h2 (Nat.zero_le _)
      omega
/-! ===== the desk ===== -/
def sd_mk (x k : Int32) : Int32 := (x &&& -64) ||| k
def sd_low (v : Nat → Int32) : Prop := ∀ k, k < 64 → v k &&& 63 = nI k
def sd_in (m : Nat) : Nat → Int32 := fun j => if j < m then nI j else 0
def sd_al (v : Nat → Int32) (st : Int32) (m : Nat) : Nat → Int32 := fun j => if j < m then sd_mk (v j + st * nI j * 64) (nI j) else v j
def sd_cl (b : Nat → Int32) (m : Nat) : Nat → Int32 := fun j => if j < m then 0 else b j
def sd_ct (b : Nat → Int32) : Nat → Nat
  | 0 => 0
  | m + 1 => if b m = 0 then sd_ct b m else sd_ct b m + 1
def sd_lp (v b : Nat → Int32) : Nat → Int32
  | 0 => -1
  | m + 1 => if b m = 0 then sd_lp v b m else if sd_lp v b m < 0 ∨ v m < v (sd_lp v b m).toNatClampNeg then nI m else sd_lp v b m
def sd_mn (v b : Nat → Int32) (L : Int32) : Nat → Nat
  | 0 => 0
  | m + 1 => if b m = 0 then sd_mn v b L m else if v m = v L.toNatClampNeg then sd_mn v b L m + 1 else sd_mn v b L m
theorem sd_k63 : ∀ k, k < 64 → (nI k).toBitVec &&& 63#32 = (nI k).toBitVec := by decide +kernel
theorem sd_mark (x : Int32) {k : Nat} (hk : k < 64) : sd_mk x (nI k) &&& 63 = nI k := by
  have e1 : (-64 : Int32).toBitVec &&& 63#32 = 0#32 := by decide +kernel
  apply Int32.toBitVec_inj.1
  show ((x.toBitVec &&& (-64 : Int32).toBitVec) ||| (nI k).toBitVec) &&& 63#32 = (nI k).toBitVec
  rw [BitVec.and_or_distrib_right, sd_k63 k hk, BitVec.and_assoc, e1, BitVec.and_zero, BitVec.zero_or]
theorem sd_inj {v : Nat → Int32} (h : sd_low v) {i j : Nat} (hi : i < 64) (hj : j < 64) (e : v i = v j) : i = j := by
  have h1 := h i hi
  rw [e, h j hj] at h1
  exact ((nI_eq (by omega) (by omega)).mp h1).symm
theorem sd_eq2 {a b : Int32} (h : a ≤ b) (h2 : b ≤ a) : a = b := by
  rw [Int32.le_iff_toInt_le] at h h2
  exact Int32.toInt_inj.mp (by omega)
theorem sd_in_0 : sd_in 0 = fun _ => 0 := by
  funext j
  exact if_neg (Nat.not_lt_zero j)
theorem sd_in_s (m : Nat) : upd (sd_in m) m (nI m) = sd_in (m + 1) := by
  funext j
  unfold upd sd_in
  by_cases h : j = m
  · rw [if_pos h, if_pos (by omega), h]
  · rw [if_neg h]
    by_cases h2 : j < m
    · rw [if_pos h2, if_pos (by omega)]
    · rw [if_neg h2, if_neg (by omega)]
theorem sd_al_0 (v : Nat → Int32) (st : Int32) : sd_al v st 0 = v := by
  funext j
  exact if_neg (Nat.not_lt_zero j)
theorem sd_al_r (v : Nat → Int32) (st : Int32) (m : Nat) : sd_al v st m m = v m := if_neg (Nat.lt_irrefl m)
theorem sd_al_s (v : Nat → Int32) (st : Int32) (m : Nat) : upd (sd_al v st m) m (sd_mk (v m + st * nI m * 64) (nI m)) = sd_al v st (m + 1) := by
  funext j
  unfold upd sd_al
  by_cases h : j = m
  · rw [if_pos h, if_pos (by omega), h]
  · rw [if_neg h]
    by_cases h2 : j < m
    · rw [if_pos h2, if_pos (by omega)]
    · rw [if_neg h2, if_neg (by omega)]
theorem sd_cl_0 (b : Nat → Int32) : sd_cl b 0 = b := by
  funext j
  exact if_neg (Nat.not_lt_zero j)
theorem sd_cl_s (b : Nat → Int32) (m : Nat) : upd (sd_cl b m) m 0 = sd_cl b (m + 1) := by
  funext j
  unfold upd sd_cl
  by_cases h : j = m
  · rw [if_pos h, if_pos (by omega)]
  · rw [if_neg h]
    by_cases h2 : j < m
    · rw [if_pos h2, if_pos (by omega)]
    · rw [if_neg h2, if_neg (by omega)]
theorem sd_ct_n {b : Nat → Int32} {m : Nat} (h : b m = 0) : sd_ct b (m + 1) = sd_ct b m := if_pos h
theorem sd_ct_y {b : Nat → Int32} {m : Nat} (h : ¬ b m = 0) : sd_ct b (m + 1) = sd_ct b m + 1 := if_neg h
theorem sd_ct_le (b : Nat → Int32) : ∀ m, sd_ct b m ≤ m := by
  intro m
  induction m with
  | zero => exact Nat.le_refl 0
  | succ m ih =>
    by_cases h : b m = 0
    · rw [sd_ct_n h]; omega
    · rw [sd_ct_y h]; omega
theorem sd_ct_add {b : Nat → Int32} {k : Nat} {x : Int32} (hb : b k = 0) (hx : ¬ x = 0) : ∀ m, sd_ct (upd b k x) m = sd_ct b m + (if k < m then 1 else 0) := by
  intro m
  induction m with
  | zero => rw [if_neg (Nat.not_lt_zero k)]; rfl
  | succ m ih =>
    by_cases h : m = k
    · subst h
      rw [sd_ct_y (by rw [pk_us]; exact hx), sd_ct_n hb, ih, if_neg (Nat.lt_irrefl m), if_pos (Nat.lt_succ_self m)]
    · have e : (if k < m + 1 then 1 else 0) = (if k < m then 1 else 0) := by
        by_cases h2 : k < m
        · rw [if_pos h2, if_pos (by omega)]
        · rw [if_neg h2, if_neg (by omega)]
      by_cases h3 : b m = 0
      · rw [sd_ct_n (by rw [pk_un h]; exact h3), sd_ct_n h3, ih, e]
      · rw [sd_ct_y (by rw [pk_un h]; exact h3), sd_ct_y h3, ih, e]
        omega
theorem sd_ct_sub {b : Nat → Int32} {k : Nat} (hb : ¬ b k = 0) (m : Nat) : sd_ct (upd b k 0) m + (if k < m then 1 else 0) = sd_ct b m := by
  have h := sd_ct_add (b := upd b k 0) (k := k) (x := b k) pk_us hb m
  have e : upd (upd b k 0) k (b k) = b := by
    funext j
    by_cases hj : j = k
    · rw [hj, pk_us]
    · rw [pk_un hj, pk_un hj]
  rw [e] at h
  exact h.symm
theorem sd_ct_cl (b : Nat → Int32) (M : Nat) : ∀ m, m ≤ M → sd_ct (sd_cl b M) m = 0 := by
  intro m
  induction m with
  | zero => intro _; rfl
  | succ m ih =>
    intro h
    rw [sd_ct_n (show sd_cl b M m = 0 from if_pos (by omega))]
    exact ih (by omega)
theorem sd_ct_00 : ∀ m, sd_ct (fun _ => 0) m = 0 := by
  intro m
  induction m with
  | zero => rfl
  | succ m ih => rw [sd_ct_n rfl]; exact ih
theorem sd_lp_n {v b : Nat → Int32} {m : Nat} (h : b m = 0) : sd_lp v b (m + 1) = sd_lp v b m := if_pos h
theorem sd_lp_y {v b : Nat → Int32} {m : Nat} (h : ¬ b m = 0) (h2 : sd_lp v b m < 0 ∨ v m < v (sd_lp v b m).toNatClampNeg) : sd_lp v b (m + 1) = nI m := (if_neg h).trans (if_pos h2)
theorem sd_lp_k {v b : Nat → Int32} {m : Nat} (h : ¬ b m = 0) (h2 : ¬ sd_lp v b m < 0) (h3 : ¬ v m < v (sd_lp v b m).toNatClampNeg) : sd_lp v b (m + 1) = sd_lp v b m := (if_neg h).trans (if_neg (fun q => q.elim h2 h3))
theorem sd_lp_spec (v b : Nat → Int32) : ∀ m, m ≤ 64 → (sd_lp v b m = -1 ∧ ∀ k, k < m → b k = 0) ∨ ∃ k, k < m ∧ sd_lp v b m = nI k ∧ ¬ b k = 0 ∧ ∀ j, j < m → ¬ b j = 0 → v k ≤ v j := by
  intro m
  induction m with
  | zero => exact fun _ => Or.inl ⟨rfl, fun k h => absurd h (Nat.not_lt_zero k)⟩
  | succ m ih =>
    intro hm
    have ih := ih (by omega)
    by_cases h : b m = 0
    · rw [sd_lp_n h]
      rcases ih with ⟨e, h1⟩ | ⟨k, hk, e, h1, h2⟩
      · refine Or.inl ⟨e, fun k hk => ?_⟩
        by_cases hkm : k = m
        · rw [hkm]; exact h
        · exact h1 k (by omega)
      · refine Or.inr ⟨k, by omega, e, h1, fun j hj hb => ?_⟩
        by_cases hjm : j = m
        · rw [hjm] at hb; exact absurd h hb
        · exact h2 j (by omega) hb
    · by_cases h3 : sd_lp v b m < 0 ∨ v m < v (sd_lp v b m).toNatClampNeg
      · rw [sd_lp_y h h3]
        refine Or.inr ⟨m, by omega, rfl, h, fun j hj hb => ?_⟩
        by_cases hjm : j = m
        · rw [hjm]; exact hp_i_rf _
        · rcases ih with ⟨e, h1⟩ | ⟨k, hk, e, h1, h2⟩
          · exact absurd (h1 j (by omega)) hb
          · rw [e, nI_clamp (by omega)] at h3
            have h4 := h3.resolve_left (nI_pos (by omega))
            exact hp_i_tr (hp_i_ltle h4) (h2 j (by omega) hb)
      · rw [sd_lp_k h (fun q => h3 (Or.inl q)) (fun q => h3 (Or.inr q))]
        rcases ih with ⟨e, h1⟩ | ⟨k, hk, e, h1, h2⟩
        · exact absurd (Or.inl (by rw [e]; decide)) h3
        · refine Or.inr ⟨k, by omega, e, h1, fun j hj hb => ?_⟩
          by_cases hjm : j = m
          · rw [hjm]
            rw [e, nI_clamp (by omega)] at h3
            exact hp_i_nlt (fun q => h3 (Or.inr q))
          · exact h2 j (by omega) hb
theorem sd_lp_in {v b : Nat → Int32} {m : Nat} (hm : m ≤ 64) (h : ¬ sd_lp v b m < 0) : vp_in (sd_lp v b m) 64 := by
  rcases sd_lp_spec v b m hm with ⟨e, -⟩ | ⟨k, hk, e, -⟩
  · exact absurd (by rw [e]; decide) h
  · rw [e]
    exact vp_in_nI (by omega) (by omega)
theorem sd_mn_n {v b : Nat → Int32} {L : Int32} {m : Nat} (h : b m = 0) : sd_mn v b L (m + 1) = sd_mn v b L m := if_pos h
theorem sd_mn_y {v b : Nat → Int32} {L : Int32} {m : Nat} (h : ¬ b m = 0) (h2 : v m = v L.toNatClampNeg) : sd_mn v b L (m + 1) = sd_mn v b L m + 1 := (if_neg h).trans (if_pos h2)
theorem sd_mn_k {v b : Nat → Int32} {L : Int32} {m : Nat} (h : ¬ b m = 0) (h2 : ¬ v m = v L.toNatClampNeg) : sd_mn v b L (m + 1) = sd_mn v b L m := (if_neg h).trans (if_neg h2)
theorem sd_mn_1 {v b : Nat → Int32} (hv : sd_low v) {k : Nat} (hk : k < 64) (hb : ¬ b k = 0) : ∀ m, m ≤ 64 → sd_mn v b (nI k) m = if k < m then 1 else 0 := by
  intro m
  induction m with
  | zero => exact fun _ => (if_neg (Nat.not_lt_zero k)).symm
  | succ m ih =>
    intro hm
    have ih := ih (by omega)
    by_cases h : m = k
    · subst h
      rw [sd_mn_y hb (by rw [nI_clamp (by omega)]), ih, if_neg (Nat.lt_irrefl m), if_pos (Nat.lt_succ_self m)]
    · have e : (if k < m + 1 then 1 else 0) = (if k < m then 1 else 0) := by
        by_cases h2 : k < m
        · rw [if_pos h2, if_pos (by omega)]
        · rw [if_neg h2, if_neg (by omega)]
      rw [e]
      by_cases h3 : b m = 0
      · rw [sd_mn_n h3]; exact ih
      · rw [sd_mn_k h3 (fun q => h (by rw [nI_clamp (by omega)] at q; exact sd_inj hv (by omega) hk q))]; exact ih
/-- the desk: its queue holds just the waiting places, in heap order -/
def sd_I (v b f : Nat → Int32) (n : Nat) : Prop := n ≤ 64 ∧ sd_low v ∧ (∀ j, j < n → ∃ k, k < 64 ∧ f j = nI k ∧ ¬ b k = 0) ∧ (∀ i j, i < n → j < n → f i = f j → i = j) ∧ (∀ k, k < 64 → ¬ b k = 0 → ∃ j, j < n ∧ f j = nI k) ∧ hp_or v f n 0 ∧ sd_ct b 64 = n
theorem sd_I_le {v b f : Nat → Int32} {n : Nat} (h : sd_I v b f n) : n ≤ 64 := h.1
theorem sd_I_low {v b f : Nat → Int32} {n : Nat} (h : sd_I v b f n) : sd_low v := h.2.1
theorem sd_I_or {v b f : Nat → Int32} {n : Nat} (h : sd_I v b f n) : hp_or v f n 0 := h.2.2.2.2.2.1
theorem sd_I_ct {v b f : Nat → Int32} {n : Nat} (h : sd_I v b f n) : sd_ct b 64 = n := h.2.2.2.2.2.2
theorem sd_I_ok {v b f : Nat → Int32} {n : Nat} (h : sd_I v b f n) : hp_ok f n := by
  intro j hj
  obtain ⟨k, hk, e, -⟩ := h.2.2.1 j hj
  rw [e]
  exact vp_in_nI hk (by omega)
theorem sd_I_0 : sd_I (sd_in 64) (fun _ => 0) (fun _ => 0) 0 := by
  refine ⟨by omega, fun k hk => ?_, fun j hj => absurd hj (Nat.not_lt_zero j), fun i j hi => absurd hi (Nat.not_lt_zero i), fun k hk hb => absurd rfl hb, fun j j0 jn => absurd jn (Nat.not_lt_zero j), sd_ct_00 64⟩
  rw [show sd_in 64 k = nI k from if_pos hk]
  exact Int32.toBitVec_inj.1 (sd_k63 k hk)
theorem sd_lp_0 {v b f : Nat → Int32} (h : sd_I v b f 0) : sd_lp v b 64 = -1 := by
  rcases sd_lp_spec v b 64 (Nat.le_refl _) with ⟨e, -⟩ | ⟨k, hk, e, hb, -⟩
  · exact e
  · obtain ⟨j, hj, -⟩ := h.2.2.2.2.1 k hk hb
    exact absurd hj (Nat.not_lt_zero j)
/-- the queue's first place is the least waiting one -/
theorem sd_lp_f {v b f : Nat → Int32} {n : Nat} (h : sd_I v b f n) (hn : 0 < n) : sd_lp v b 64 = f 0 := by
  obtain ⟨k0, hk0, e0, hb0⟩ := h.2.2.1 0 hn
  rcases sd_lp_spec v b 64 (Nat.le_refl _) with ⟨e, h1⟩ | ⟨k, hk, e, hb, h2⟩
  · exact absurd (h1 k0 hk0) hb0
  · obtain ⟨j, hj, ej⟩ := h.2.2.2.2.1 k hk hb
    have h3 := hp_root (sd_I_or h) j j (Nat.le_refl j) hj
    unfold hp_k at h3
    rw [e0, ej, nI_clamp (by omega), nI_clamp (by omega)] at h3
    have h4 : v k0 ≤ v k := Int32.le_iff_toInt_le.mpr h3
    have h5 := sd_inj (sd_I_low h) hk hk0 (sd_eq2 (h2 k0 hk0 hb0) h4)
    rw [e, e0, h5]
theorem sd_f0 {v b f : Nat → Int32} {n : Nat} (h : sd_I v b f n) (hn : 0 < n) : ∃ k, k < 64 ∧ f 0 = nI k ∧ ¬ b k = 0 := h.2.2.1 0 hn
theorem sd_fne {v b f : Nat → Int32} {n : Nat} (h : sd_I v b f n) : ∀ j, 0 < j → j < n → ¬ v (f 0).toNatClampNeg = v (f j).toNatClampNeg := by
  intro j j0 jn e
  obtain ⟨k0, hk0, e0, -⟩ := h.2.2.1 0 (by omega)
  obtain ⟨k1, hk1, e1, -⟩ := h.2.2.1 j jn
  rw [e0, e1, nI_clamp (by omega), nI_clamp (by omega)] at e
  have h1 := sd_inj (sd_I_low h) hk0 hk1 e
  have h2 := h.2.2.2.1 0 j (by omega) jn (by rw [e0, e1, h1])
  omega
theorem sd_lt {v b f : Nat → Int32} {n k : Nat} (h : sd_I v b f n) (hk : k < 64) (hb : b k = 0) : n < 64 := by
  have h1 := sd_ct_add (x := 1) hb (by decide) 64
  rw [if_pos hk, sd_I_ct h] at h1
  have h2 := sd_ct_le (upd b k 1) 64
  omega
theorem sd_change {v b f : Nat → Int32} {n k : Nat} (x : Int32) (h : sd_I v b f n) (hk : k < 64) (hb : b k = 0) : sd_I (upd v k (sd_mk x (nI k))) b f n := by
  have key : ∀ j, j < n → hp_k (upd v k (sd_mk x (nI k))) f j = hp_k v f j := by
    intro j hj
    obtain ⟨k1, hk1, e1, hb1⟩ := h.2.2.1 j hj
    unfold hp_k
    rw [e1, nI_clamp (by omega), pk_un (fun q => hb1 (by rw [q]; exact hb))]
  refine ⟨h.1, fun i hi => ?_, h.2.2.1, h.2.2.2.1, h.2.2.2.2.1, fun j j0 jn jl => ?_, h.2.2.2.2.2.2⟩
  · by_cases hik : i = k
    · rw [hik, pk_us]; exact sd_mark x hk
    · rw [pk_un hik]; exact h.2.1 i hi
  · rw [key j jn, key _ (by omega)]
    exact sd_I_or h j j0 jn jl
theorem sd_enter {v b f g : Nat → Int32} {n k : Nat} (h : sd_I v b f n) (hk : k < 64) (hb : b k = 0) (hp : hp_pm (upd f n (nI k)) g (n + 1)) (ho : hp_or v g (n + 1) 0) : sd_I v (upd b k 1) g (n + 1) := by
  have hlt := sd_lt h hk hb
  have hct := sd_ct_add (x := 1) hb (by decide) 64
  rw [if_pos hk, sd_I_ct h] at hct
  have hne : ∀ j, j < n → ¬ f j = nI k := by
    intro j hj e
    obtain ⟨k1, hk1, e1, hb1⟩ := h.2.2.1 j hj
    rw [e1] at e
    exact hb1 (by rw [(nI_eq (by omega) (by omega)).mp e]; exact hb)
  refine ⟨by omega, h.2.1, fun j hj => ?_, hp.2.2 (fun i j hi hj e => ?_), fun k1 hk1 hb1 => ?_, ho, hct⟩
  · obtain ⟨i, hi, e⟩ := hp.1 j hj
    by_cases hin : i = n
    · rw [hin, pk_us] at e
      exact ⟨k, hk, e, by rw [pk_us]; decide⟩
    · rw [pk_un hin] at e
      obtain ⟨k1, hk1, e1, hb1⟩ := h.2.2.1 i (by omega)
      refine ⟨k1, hk1, e.trans e1, ?_⟩
      by_cases hkk : k1 = k
      · rw [hkk, pk_us]; decide
      · rw [pk_un hkk]; exact hb1
  · by_cases hi1 : i = n
    · by_cases hj1 : j = n
      · rw [hi1, hj1]
      · rw [hi1, pk_us, pk_un hj1] at e
        exact absurd e.symm (hne j (by omega))
    · by_cases hj1 : j = n
      · rw [hj1, pk_us, pk_un hi1] at e
        exact absurd e (hne i (by omega))
      · rw [pk_un hi1, pk_un hj1] at e
        exact h.2.2.2.1 i j (by omega) (by omega) e
  · by_cases hkk : k1 = k
    · obtain ⟨j, hj, e⟩ := hp.2.1 n (by omega)
      rw [pk_us] at e
      exact ⟨j, hj, by rw [e, hkk]⟩
    · rw [pk_un hkk] at hb1
      obtain ⟨j, hj, e⟩ := h.2.2.2.2.1 k1 hk1 hb1
      obtain ⟨j2, hj2, e2⟩ := hp.2.1 j (by omega)
      rw [pk_un (show j ≠ n by omega)] at e2
      exact ⟨j2, hj2, e2.trans e⟩
theorem sd_take {v b f g : Nat → Int32} {n : Nat} (h : sd_I v b f n) (hn : 0 < n) (hp : hp_pm (upd f 0 (f (n - 1))) g (n - 1)) (ho : hp_or v g (n - 1) 0) : sd_I v (upd b (f 0).toNatClampNeg 0) g (n - 1) := by
  obtain ⟨k0, hk0, e0, hb0⟩ := h.2.2.1 0 hn
  rw [e0, nI_clamp (by omega)]
  have hct := sd_ct_sub hb0 64
  rw [if_pos hk0, sd_I_ct h] at hct
  have hle := h.1
  have hu : ∀ i, i < n - 1 → ∃ i2, i2 < n ∧ 0 < i2 ∧ upd f 0 (f (n - 1)) i = f i2 ∧ ((i = 0 ∧ i2 = n - 1) ∨ (0 < i ∧ i2 = i)) := by
    intro i hi
    by_cases hi0 : i = 0
    · exact ⟨n - 1, by omega, by omega, by rw [hi0, pk_us], Or.inl ⟨hi0, rfl⟩⟩
    · exact ⟨i, by omega, by omega, pk_un hi0, Or.inr ⟨by omega, rfl⟩⟩
  refine ⟨by omega, h.2.1, fun j hj => ?_, hp.2.2 (fun i j hi hj e => ?_), fun k1 hk1 hb1 => ?_, ho, by omega⟩
  · obtain ⟨i, hi, e⟩ := hp.1 j hj
    obtain ⟨i2, hi2, hi20, e2, -⟩ := hu i hi
    obtain ⟨k1, hk1, e1, hb1⟩ := h.2.2.1 i2 hi2
    refine ⟨k1, hk1, e.trans (e2.trans e1), ?_⟩
    by_cases hkk : k1 = k0
    · have h9 := h.2.2.2.1 i2 0 hi2 hn (by rw [e1, e0, hkk])
      omega
    · rw [pk_un hkk]; exact hb1
  · obtain ⟨i2, hi2, hi20, e2, c2⟩ := hu i hi
    obtain ⟨j2, hj2, hj20, e3, c3⟩ := hu j hj
    have h9 := h.2.2.2.1 i2 j2 hi2 hj2 (by rw [← e2, ← e3]; exact e)
    omega
  · by_cases hkk : k1 = k0
    · rw [hkk, pk_us] at hb1
      exact absurd rfl hb1
    · rw [pk_un hkk] at hb1
      obtain ⟨j, hj, e⟩ := h.2.2.2.2.1 k1 hk1 hb1
      have hj0 : ¬ j = 0 := by
        intro q
        rw [q, e0] at e
        exact hkk ((nI_eq (by omega) (by omega)).mp e).symm
      by_cases hjn : j = n - 1
      · obtain ⟨j2, hj2, e2⟩ := hp.2.1 0 (by omega)
        rw [pk_us] at e2
        exact ⟨j2, hj2, by rw [e2, ← hjn, e]⟩
      · obtain ⟨j2, hj2, e2⟩ := hp.2.1 j (by omega)
        rw [pk_un hj0] at e2
        exact ⟨j2, hj2, e2.trans e⟩
/-- values changed, places rearranged -/
theorem sd_re {v v' b f g : Nat → Int32} {n : Nat} (h : sd_I v b f n) (hv : sd_low v') (hp : hp_pm f g n) (ho : hp_or v' g n 0) : sd_I v' b g n := by
  refine ⟨h.1, hv, fun j hj => ?_, hp.2.2 h.2.2.2.1, fun k hk hb => ?_, ho, h.2.2.2.2.2.2⟩
  · obtain ⟨i, hi, e⟩ := hp.1 j hj
    obtain ⟨k, hk, e1, hb⟩ := h.2.2.1 i hi
    exact ⟨k, hk, e.trans e1, hb⟩
  · obtain ⟨j, hj, e⟩ := h.2.2.2.2.1 k hk hb
    obtain ⟨j2, hj2, e2⟩ := hp.2.1 j hj
    exact ⟨j2, hj2, e2.trans e⟩
theorem sd_head_low {v b f : Nat → Int32} {n : Nat} (x : Int32) (h : sd_I v b f n) (hn : 0 < n) : sd_low (upd v (f 0).toNatClampNeg (sd_mk x (f 0))) := by
  obtain ⟨k0, hk0, e0, hb0⟩ := h.2.2.1 0 hn
  rw [e0, nI_clamp (by omega)]
  intro i hi
  by_cases hik : i = k0
  · rw [hik, pk_us]; exact sd_mark x hk0
  · rw [pk_un hik]; exact h.2.1 i hi
theorem sd_head_or {v b f : Nat → Int32} {n : Nat} (x : Int32) (h : sd_I v b f n) (hn : 0 < n) : hp_or (upd v (f 0).toNatClampNeg x) f n 1 := by
  have key : ∀ j, 0 < j → j < n → hp_k (upd v (f 0).toNatClampNeg x) f j = hp_k v f j := by
    intro j j0 hj
    obtain ⟨k0, hk0, e0, hb0⟩ := h.2.2.1 0 hn
    obtain ⟨k1, hk1, e1, hb1⟩ := h.2.2.1 j hj
    unfold hp_k
    rw [e0, e1, nI_clamp (by omega), nI_clamp (by omega), pk_un (fun q => ?_)]
    have h9 := h.2.2.2.1 j 0 hj hn (by rw [e1, e0, q])
    omega
  intro j j0 jn jl
  rw [key j j0 jn, key _ (by omega) (by omega)]
  exact sd_I_or h j j0 jn (Nat.zero_le _)
theorem sd_all_low (v : Nat → Int32) (st : Int32) : sd_low (sd_al v st 64) := by
  intro k hk
  rw [show sd_al v st 64 k = sd_mk (v k + st * nI k * 64) (nI k) from if_pos hk]
  exact sd_mark _ hk
theorem sd_drain {v b f : Nat → Int32} {n : Nat} (h : sd_I v b f n) : sd_I v (sd_cl b 64) f 0 := by
  refine ⟨by omega, h.2.1, fun j hj => absurd hj (Nat.not_lt_zero j), fun i j hi => absurd hi (Nat.not_lt_zero i), fun k hk hb => absurd (show sd_cl b 64 k = 0 from if_pos hk) hb, fun j j0 jn => absurd jn (Nat.not_lt_zero j), sd_ct_cl b 64 64 (Nat.le_refl _)⟩
theorem hp_lt_nle {a b : Int32} (h : a < b) : ¬ b ≤ a := by
  rw [Int32.lt_iff_toInt_lt] at h
  rw [Int32.le_iff_toInt_le]
  omega
theorem sd_front {v b f : Nat → Int32} {n : Nat} (h : sd_I v b f n) (hn : 0 < n) : 100 * nI 1 + f 0 = if sd_lp v b 64 < 0 then 0 else 100 * nI (sd_mn v b (sd_lp v b 64) 64) + sd_lp v b 64 := by
  obtain ⟨k, hk, e, hb⟩ := sd_f0 h hn
  rw [sd_lp_f h hn, if_neg (fun q => sd_I_ok h 0 hn (Or.inl q)), e, sd_mn_1 (sd_I_low h) hk hb 64 (Nat.le_refl 64), if_pos hk]
/-- a loop in a walk: its state x falls by μ at each turn -/
theorem wl_loop {p : Program} {l : Launch} {e : Env} {R : Room} {s : State} {m : MethodId} {args : Array Value} {below : List Frame} {meth : Method} {c : Code} {cells slots pc : Nat} {Q : State → Prop} {σ : Type} (μ : σ → Nat) (I : σ → Heap → List Loc → Array Slot → Prop) (step : ∀ (x : σ) (H : Heap) (locs : List Loc) (ls : Array Slot), I x H locs ls → (∀ (y : σ) (H' : Heap) (locs' : List Loc) (ls' : Array Slot), μ y < μ x → I y H' locs' ls' → W p l e R s m args below meth c H' locs' cells slots Q (F0 m pc ls' [])) → W p l e R s m args below meth c H locs cells slots Q (F0 m pc ls [])) (x : σ) (H : Heap) (locs : List Loc) (ls : Array Slot) (h : I x H locs ls) : W p l e R s m args below meth c H locs cells slots Q (F0 m pc ls []) := by
  have key : ∀ (n : Nat) (x : σ) (H : Heap) (locs : List Loc) (ls : Array Slot), μ x < n → I x H locs ls → W p l e R s m args below meth c H locs cells slots Q (F0 m pc ls []) := by
    intro n
    induction n with
    | zero => exact fun x H locs ls h _ => absurd h (Nat.not_lt_zero _)
    | succ n ih => exact fun x H locs ls h hI => step x H locs ls hI (fun y H' locs' ls' hm hI' => ih y H' locs' ls' (by omega) hI')
  exact key (μ x + 1) x H locs ls (Nat.lt_succ_self _) h
end
section
/-! IntSemiIndirectHeaps -/
set_option maxHeartbeats 4000000 in
set_option maxRecDepth 100000 in
/-- downHeap(values, heap, n, i, null): the place i sinks; heap order below lo -/
theorem metX4_downHeap (l : Launch) (dC : Nat → ClassId) (dI : Nat → Nat → Nat) (av : Nat) (ah : Nat) (dV : ClassId) (dH : ClassId) (v : Nat → Int32) (f : Nat → Int32) (n : Nat) (i : Nat) (lo : Nat) (sz : Nat) (hn : n ≤ 64) (hi : i < n) (hok : hp_ok f n) (hlo : lo ≤ i) (hdn : hp_dn v f n lo i) : Met l yX4_downHeap (ws_ yX4_downHeap cX4_downHeap 10 (some .int)) ({ frames := 0, cells := 0, slots := 0, locals := 0 }) (va_Pc [.ref av, .ref ah, .int (nI n), .int (nI i), .null] (fun U => U.heap.size = sz ∧ va_P (dC, dI) vwCl [(av, .inl (dV, 64, .inl v)), (ah, .inl (dH, 64, .inl f))] U.heap ∧ va_K (dC, dI) vwCl [(dV, .int), (dH, .int)] U ∧ va_D (fun _ => True) [(av, .inl (dV, 64, .inl v)), (ah, .inl (dH, 64, .inl f))])) (va_Qi (fun (r : Int32) (u : Nat → Int32) => hp_pm f u n ∧ hp_or v u n lo) (fun (u : Nat → Int32) (t : State) => va_P (dC, dI) vwCl [(av, .inl (dV, 64, .inl v)), (ah, .inl (dH, 64, .inl u))] t.heap ∧ va_K (dC, dI) vwCl [(dV, .int), (dH, .int)] t ∧ va_D (va_A [(av, .inl (dV, 64, .inl v)), (ah, .inl (dH, 64, .inl f))] sz) [(av, .inl (dV, 64, .inl v)), (ah, .inl (dH, 64, .inl u))]) (va_A [(av, .inl (dV, 64, .inl v)), (ah, .inl (dH, 64, .inl f))] sz)) 0 0 (va_A [(av, .inl (dV, 64, .inl v)), (ah, .inl (dH, 64, .inl f))] sz) := by
  refine Met.ofW (cc := cX4_downHeap) (maxL := 10) (ret := (some .int)) (by decide) rfl ?_
  intro p e s m args below meth c s₁ B hml hvv
  obtain ⟨rfl, hsz, hP, hK, hD0⟩ := hvv
  have hx := B.exec
  have hb := B.bytes
  have hr := B.returns
  have hts := atoms_spec (ws := (ws_ yX4_downHeap cX4_downHeap 10 (some .int))) B.pre
  have hts : ∀ w ∈ lw_all, w.before _ s = true := fun w h => hts w (List.mem_cons_of_mem _ h)
  have hown : s.vm.findClass RX4 = some m.cls := findClass_of_methodNamed B.named
  have hlocks := B.notSynchronized
  subst hsz
  have hD := hD0.self (sz := s.heap.size)
  generalize hAe : va_A [(av, .inl (dV, 64, .inl v)), (ah, .inl (dH, 64, .inl f))] s.heap.size = A at hD ⊢
  have hA : ∀ q : Nat, s.heap.size ≤ q → A q := fun q h => by rw [← hAe]; exact Or.inr h
  have hS : va_S A s.heap s.heap [] := va_S.rf
  have hP : va_P (dC, dI) vwCl [(av, .inl (dV, 64, .inl v)), (ah, .inl (dH, 64, .inl f))] s.heap := hP
  have hl := lv_entry ([.ref av, .ref ah, .int (nI n), .int (nI i), .null]) (n := 10) (Nat.le_of_ble_eq_true rfl)
  rw [lg_entry_eq]
  generalize (lg_sl ([.ref av, .ref ah, .int (nI n), .int (nI i), .null]) ++ List.replicate (10 - (lg_sl ([.ref av, .ref ah, .int (nI n), .int (nI i), .null])).length) Slot.unset).toArray = ls at hl ⊢
  have hl : lv_has ls 10 [(0, .ref av), (1, .ref ah), (2, .int (nI n)), (3, .int (nI i)), (4, .null)] := hl
  refine lv_aload_n hx hb dX4_downHeap_0 rfl (lv_at hl 1 rfl) ?_
  refine lv_iload_n hx hb dX4_downHeap_1 rfl (lv_at hl 3 rfl) ?_
  refine va_iald hx hb hK hP 1 1 rfl rfl (vp_in_nI (by omega) (by omega)) dX4_downHeap_2 ?_
  refine lv_topi (fun e9 he9 => ?_)
  have he9 : e9 = f i := he9.trans (congrArg f (nI_clamp (by omega)))
  refine lv_istore (lv' := [(5, .int e9), (0, .ref av), (1, .ref ah), (2, .int (nI n)), (3, .int (nI i)), (4, .null)]) hx hb dX4_downHeap_3 hl (by decide) rfl (fun ls hl => ?_)
  refine lv_aload_n hx hb dX4_downHeap_5 rfl (lv_at hl 1 rfl) ?_
  refine lv_iload hx hb dX4_downHeap_6 (lv_at hl 0 rfl) ?_
  refine va_iald hx hb hK hP 0 0 rfl rfl (by rw [he9]; exact hok i hi) dX4_downHeap_8 ?_
  refine lv_topi (fun E9 hE9 => ?_)
  refine lv_istore (lv' := [(6, .int E9), (5, .int e9), (0, .ref av), (1, .ref ah), (2, .int (nI n)), (3, .int (nI i)), (4, .null)]) hx hb dX4_downHeap_9 hl (by decide) rfl (fun ls hl => ?_)
  refine lv_aloadN hx hb dX4_downHeap_11 (lv_at hl 6 rfl) ?_
  refine lv_ifnonnullN hx hb dX4_downHeap_13 ?_
  refine wl_loop (σ := Nat × (Nat → Int32)) (fun x => n - x.1) (fun (x : Nat × (Nat → Int32)) (H : Heap) (locs : List Loc) (ls : Array Slot) => va_P (dC, dI) vwCl [(av, .inl (dV, 64, .inl v)), (ah, .inl (dH, 64, .inl x.2))] H ∧ va_D A [(av, .inl (dV, 64, .inl v)), (ah, .inl (dH, 64, .inl x.2))] ∧ va_S A s.heap H locs ∧ lv_has ls 10 [(0, .ref av), (1, .ref ah), (2, .int (nI n)), (3, .int (nI x.1)), (4, .null), (5, .int e9), (6, .int E9)] ∧ (x.1 < n ∧ lo ≤ x.1 ∧ hp_pm f (upd x.2 x.1 e9) n ∧ hp_dn v (upd x.2 x.1 e9) n lo x.1)) (fun x H locs ls hI ih => ?_) (i, f) _ _ _ ⟨hP.sub (ws' := [(av, .inl (dV, 64, .inl v)), (ah, .inl (dH, 64, .inl f))]) [0, 1] rfl, hD.sub (ws' := [(av, .inl (dV, 64, .inl v)), (ah, .inl (dH, 64, .inl f))]) [0, 1] (by decide) rfl, hS, lv_sub hl [2, 3, 4, 5, 6, 1, 0] rfl, ⟨hi, hlo, by rw [he9, hp_self]; exact hp_pm_rf f n, by rw [he9, hp_self]; exact hdn⟩⟩
  obtain ⟨j, a⟩ := x
  obtain ⟨hP, hD, hS, hl, hI⟩ := hI
  have hP : va_P (dC, dI) vwCl [(av, .inl (dV, 64, .inl v)), (ah, .inl (dH, 64, .inl a))] H := hP
  have hD : va_D A [(av, .inl (dV, 64, .inl v)), (ah, .inl (dH, 64, .inl a))] := hD
  have hl : lv_has ls 10 [(0, .ref av), (1, .ref ah), (2, .int (nI n)), (3, .int (nI j)), (4, .null), (5, .int e9), (6, .int E9)] := hl
  have hI : j < n ∧ lo ≤ j ∧ hp_pm f (upd a j e9) n ∧ hp_dn v (upd a j e9) n lo j := hI
  obtain ⟨hjn, hlj, hpm, hdn2⟩ := hI
  refine lv_iload_n hx hb dX4_downHeap_16 rfl (lv_at hl 3 rfl) ?_
  refine lv_iconst (v := 1) hx hb dX4_downHeap_17 (by decide +kernel) ?_
  refine lv_ishl hx hb dX4_downHeap_18 ?_
  refine lv_topi (fun y_1 ey_1 => ?_)
  obtain rfl : y_1 = nI (j * 2) := ey_1.trans (pk_shlN (n := j) (1 &&& 31) 1 (by decide +kernel) (by omega))
  refine lv_iconst (v := 1) hx hb dX4_downHeap_19 (by decide +kernel) ?_
  refine lv_iadd hx hb dX4_downHeap_20 ?_
  refine lv_topi (fun y_2 ey_2 => ?_)
  obtain rfl : y_2 = nI (j * 2 + 1) := ey_2.trans (nI_1 (j * 2))
  refine lv_dup hx hb dX4_downHeap_21 rfl ?_
  refine lv_istore (lv' := [(7, .int (nI (j * 2 + 1))), (0, .ref av), (1, .ref ah), (2, .int (nI n)), (3, .int (nI j)), (4, .null), (5, .int e9), (6, .int E9)]) hx hb dX4_downHeap_22 hl (by decide) rfl (fun ls hl => ?_)
  refine lv_iload_n hx hb dX4_downHeap_24 rfl (lv_at hl 3 rfl) ?_
  refine lv_icmp_ge (tgt := 124) hx hb dX4_downHeap_25 (by decide) (fun c25 => ?_) (fun c25 => ?_)
  · have hc : n ≤ j * 2 + 1 := (nI_leI (by omega) (by omega)).mp c25
    refine lv_aload_n hx hb dX4_downHeap_124 rfl (lv_at hl 2 rfl) ?_
    refine lv_iload_n hx hb dX4_downHeap_125 rfl (lv_at hl 4 rfl) ?_
    refine lv_iload hx hb dX4_downHeap_126 (lv_at hl 6 rfl) ?_
    refine va_iast hx hb hK hP hD hS 1 1 rfl rfl (vp_in_nI (by omega) (by omega)) dX4_downHeap_128 (fun H locs hP hD hS => ?_)
    rw [nI_clamp (n := j) (by omega)] at hP hD
    have hP : va_P (dC, dI) vwCl [(av, .inl (dV, 64, .inl v)), (ah, .inl (dH, 64, .inl (upd a j e9)))] H := hP
    have hD : va_D A [(av, .inl (dV, 64, .inl v)), (ah, .inl (dH, 64, .inl (upd a j e9)))] := hD
    refine lv_iload_n hx hb dX4_downHeap_129 rfl (lv_at hl 4 rfl) ?_
    have hP9 := hP.sub (ws' := [(av, .inl (dV, 64, .inl v)), (ah, .inl (dH, 64, .inl (upd a j e9)))]) [0, 1] rfl
    have hD9 := hD.sub (ws' := [(av, .inl (dV, 64, .inl v)), (ah, .inl (dH, 64, .inl (upd a j e9)))]) [0, 1] (by decide) rfl
    have hK9 := hK.sub (tys' := [(dV, .int), (dH, .int)]) [0, 1] rfl
    exact W.iret (v := (nI j)) hx hb hr (fun t ht hW => ⟨⟨(nI j), (upd a j e9), rfl, ⟨hpm, hp_dend hdn2 (hp_ch0 hc)⟩, by rw [ht]; exact hP9, va_K.moved hW.alike hK9, hD9⟩, hS.F ht⟩) hS.2.2 dX4_downHeap_130
  · have hc : j * 2 + 1 < n := by
      rcases Nat.lt_or_ge (j * 2 + 1) n with q | q
      · exact q
      · exact absurd (nI_le q (by omega)) c25
    refine lv_aload_n hx hb dX4_downHeap_28 rfl (lv_at hl 2 rfl) ?_
    refine lv_iload hx hb dX4_downHeap_29 (lv_at hl 0 rfl) ?_
    refine va_iald hx hb hK hP 1 1 rfl rfl (vp_in_nI (by omega) (by omega)) dX4_downHeap_31 ?_
    refine lv_topi (fun t9 ht9 => ?_)
    have ht9 : t9 = a (j * 2 + 1) := ht9.trans (congrArg a (nI_clamp (by omega)))
    have hti : vp_in t9 64 := by rw [ht9]; exact hp_in hok hpm hc (by omega)
    refine lv_istore (lv' := [(8, .int t9), (7, .int (nI (j * 2 + 1))), (0, .ref av), (1, .ref ah), (2, .int (nI n)), (3, .int (nI j)), (4, .null), (5, .int e9), (6, .int E9)]) hx hb dX4_downHeap_32 hl (by decide) rfl (fun ls hl => ?_)
    refine lv_iload hx hb dX4_downHeap_34 (lv_at hl 1 rfl) ?_
    refine lv_iconst (v := 1) hx hb dX4_downHeap_36 (by decide +kernel) ?_
    refine lv_iadd hx hb dX4_downHeap_37 ?_
    refine lv_topi (fun y_3 ey_3 => ?_)
    obtain rfl : y_3 = nI (j * 2 + 1 + 1) := ey_3.trans (nI_1 (j * 2 + 1))
    refine lv_istore (lv' := [(9, .int (nI (j * 2 + 1 + 1))), (8, .int t9), (7, .int (nI (j * 2 + 1))), (0, .ref av), (1, .ref ah), (2, .int (nI n)), (3, .int (nI j)), (4, .null), (5, .int e9), (6, .int E9)]) hx hb dX4_downHeap_38 hl (by decide) rfl (fun ls hl => ?_)
    refine lv_iload hx hb dX4_downHeap_40 (lv_at hl 0 rfl) ?_
    refine lv_iload_n hx hb dX4_downHeap_42 rfl (lv_at hl 5 rfl) ?_
    refine lv_icmp_ge (tgt := 68) hx hb dX4_downHeap_43 (by decide) (fun c43 => ?_) (fun c43 => ?_)
    · have hc2 : n ≤ j * 2 + 1 + 1 := (nI_leI (by omega) (by omega)).mp c43
      refine lv_iload hx hb dX4_downHeap_68 (lv_at hl 9 rfl) ?_
      refine lv_aload_n hx hb dX4_downHeap_70 rfl (lv_at hl 3 rfl) ?_
      refine lv_iload hx hb dX4_downHeap_71 (lv_at hl 1 rfl) ?_
      refine va_iald hx hb hK hP 0 0 rfl rfl (by assumption) dX4_downHeap_73 ?_
      refine lv_icmp_gt (tgt := 80) hx hb dX4_downHeap_74 (by decide) (fun c74 => ?_) (fun c74 => ?_)
      · refine lv_aload_n hx hb dX4_downHeap_80 rfl (lv_at hl 4 rfl) ?_
        refine lv_iload_n hx hb dX4_downHeap_81 rfl (lv_at hl 6 rfl) ?_
        refine lv_iload hx hb dX4_downHeap_82 (lv_at hl 1 rfl) ?_
        refine va_iast hx hb hK hP hD hS 1 1 rfl rfl (vp_in_nI (by omega) (by omega)) dX4_downHeap_84 (fun H locs hP hD hS => ?_)
        rw [nI_clamp (n := j) (by omega)] at hP hD
        rw [show upd a j t9 = upd a j (a (j * 2 + 1)) from by rw [ht9]] at hP hD
        have hP : va_P (dC, dI) vwCl [(av, .inl (dV, 64, .inl v)), (ah, .inl (dH, 64, .inl (upd a j (a (j * 2 + 1)))))] H := hP
        have hD : va_D A [(av, .inl (dV, 64, .inl v)), (ah, .inl (dH, 64, .inl (upd a j (a (j * 2 + 1)))))] := hD
        refine lv_iload hx hb dX4_downHeap_85 (lv_at hl 2 rfl) ?_
        refine lv_istore_n (lv' := [(3, .int (nI (j * 2 + 1))), (9, .int (nI (j * 2 + 1 + 1))), (8, .int t9), (7, .int (nI (j * 2 + 1))), (0, .ref av), (1, .ref ah), (2, .int (nI n)), (4, .null), (5, .int e9), (6, .int E9)]) hx hb dX4_downHeap_87 rfl hl (by decide) rfl (fun ls hl => ?_)
        refine lv_goto (tgt := 16) hx hb dX4_downHeap_88 (by decide) ?_
        exact ih ((j * 2 + 1), (upd a j (a (j * 2 + 1)))) _ _ _ (by first | omega | (dsimp only; omega)) ⟨hP.sub (ws' := [(av, .inl (dV, 64, .inl v)), (ah, .inl (dH, 64, .inl (upd a j (a (j * 2 + 1)))))]) [0, 1] rfl, hD.sub (ws' := [(av, .inl (dV, 64, .inl v)), (ah, .inl (dH, 64, .inl (upd a j (a (j * 2 + 1)))))]) [0, 1] (by decide) rfl, hS, lv_sub hl [4, 5, 6, 0, 7, 8, 9] rfl, ⟨by omega, by omega, hp_dstep hjn hlj hpm hdn2 (by omega) (by omega) (by omega) (by rw [← ht9, ← hE9]; exact c74) (hp_ch1 hc2 (hp_i_rf _))⟩⟩
      · refine lv_goto (tgt := 124) hx hb dX4_downHeap_77 (by decide) ?_
        refine lv_aload_n hx hb dX4_downHeap_124 rfl (lv_at hl 4 rfl) ?_
        refine lv_iload_n hx hb dX4_downHeap_125 rfl (lv_at hl 6 rfl) ?_
        refine lv_iload hx hb dX4_downHeap_126 (lv_at hl 8 rfl) ?_
        refine va_iast hx hb hK hP hD hS 1 1 rfl rfl (vp_in_nI (by omega) (by omega)) dX4_downHeap_128 (fun H locs hP hD hS => ?_)
        rw [nI_clamp (n := j) (by omega)] at hP hD
        have hP : va_P (dC, dI) vwCl [(av, .inl (dV, 64, .inl v)), (ah, .inl (dH, 64, .inl (upd a j e9)))] H := hP
        have hD : va_D A [(av, .inl (dV, 64, .inl v)), (ah, .inl (dH, 64, .inl (upd a j e9)))] := hD
        refine lv_iload_n hx hb dX4_downHeap_129 rfl (lv_at hl 6 rfl) ?_
        have hP9 := hP.sub (ws' := [(av, .inl (dV, 64, .inl v)), (ah, .inl (dH, 64, .inl (upd a j e9)))]) [0, 1] rfl
        have hD9 := hD.sub (ws' := [(av, .inl (dV, 64, .inl v)), (ah, .inl (dH, 64, .inl (upd a j e9)))]) [0, 1] (by decide) rfl
        have hK9 := hK.sub (tys' := [(dV, .int), (dH, .int)]) [0, 1] rfl
        exact W.iret (v := (nI j)) hx hb hr (fun t ht hW => ⟨⟨(nI j), (upd a j e9), rfl, ⟨hpm, hp_dend hdn2 (hp_ch1 hc2 (by rw [← ht9, ← hE9]; exact hp_i_nlt c74))⟩, by rw [ht]; exact hP9, va_K.moved hW.alike hK9, hD9⟩, hS.F ht⟩) hS.2.2 dX4_downHeap_130
    · have hc2 : j * 2 + 1 + 1 < n := by
        rcases Nat.lt_or_ge (j * 2 + 1 + 1) n with q | q
        · exact q
        · exact absurd (nI_le q (by omega)) c43
      refine lv_aload_n hx hb dX4_downHeap_46 rfl (lv_at hl 3 rfl) ?_
      refine lv_aload_n hx hb dX4_downHeap_47 rfl (lv_at hl 4 rfl) ?_
      refine lv_iload hx hb dX4_downHeap_48 (lv_at hl 0 rfl) ?_
      refine va_iald hx hb hK hP 1 1 rfl rfl (vp_in_nI (by omega) (by omega)) dX4_downHeap_50 ?_
      refine lv_topi (fun u9 hu9 => ?_)
      have hu9 : u9 = a (j * 2 + 1 + 1) := hu9.trans (congrArg a (nI_clamp (by omega)))
      have hui : vp_in u9 64 := by rw [hu9]; exact hp_in hok hpm hc2 (by omega)
      refine va_iald hx hb hK hP 0 0 rfl rfl (by assumption) dX4_downHeap_51 ?_
      refine lv_aload_n hx hb dX4_downHeap_52 rfl (lv_at hl 3 rfl) ?_
      refine lv_iload hx hb dX4_downHeap_53 (lv_at hl 1 rfl) ?_
      refine va_iald hx hb hK hP 0 0 rfl rfl (by assumption) dX4_downHeap_55 ?_
      refine lv_icmp_ge (tgt := 68) hx hb dX4_downHeap_56 (by decide) (fun c56 => ?_) (fun c56 => ?_)
      · refine lv_iload hx hb dX4_downHeap_68 (lv_at hl 9 rfl) ?_
        refine lv_aload_n hx hb dX4_downHeap_70 rfl (lv_at hl 3 rfl) ?_
        refine lv_iload hx hb dX4_downHeap_71 (lv_at hl 1 rfl) ?_
        refine va_iald hx hb hK hP 0 0 rfl rfl (by assumption) dX4_downHeap_73 ?_
        refine lv_icmp_gt (tgt := 80) hx hb dX4_downHeap_74 (by decide) (fun c74 => ?_) (fun c74 => ?_)
        · refine lv_aload_n hx hb dX4_downHeap_80 rfl (lv_at hl 4 rfl) ?_
          refine lv_iload_n hx hb dX4_downHeap_81 rfl (lv_at hl 6 rfl) ?_
          refine lv_iload hx hb dX4_downHeap_82 (lv_at hl 1 rfl) ?_
          refine va_iast hx hb hK hP hD hS 1 1 rfl rfl (vp_in_nI (by omega) (by omega)) dX4_downHeap_84 (fun H locs hP hD hS => ?_)
          rw [nI_clamp (n := j) (by omega)] at hP hD
          rw [show upd a j t9 = upd a j (a (j * 2 + 1)) from by rw [ht9]] at hP hD
          have hP : va_P (dC, dI) vwCl [(av, .inl (dV, 64, .inl v)), (ah, .inl (dH, 64, .inl (upd a j (a (j * 2 + 1)))))] H := hP
          have hD : va_D A [(av, .inl (dV, 64, .inl v)), (ah, .inl (dH, 64, .inl (upd a j (a (j * 2 + 1)))))] := hD
          refine lv_iload hx hb dX4_downHeap_85 (lv_at hl 2 rfl) ?_
          refine lv_istore_n (lv' := [(3, .int (nI (j * 2 + 1))), (9, .int (nI (j * 2 + 1 + 1))), (8, .int t9), (7, .int (nI (j * 2 + 1))), (0, .ref av), (1, .ref ah), (2, .int (nI n)), (4, .null), (5, .int e9), (6, .int E9)]) hx hb dX4_downHeap_87 rfl hl (by decide) rfl (fun ls hl => ?_)
          refine lv_goto (tgt := 16) hx hb dX4_downHeap_88 (by decide) ?_
          exact ih ((j * 2 + 1), (upd a j (a (j * 2 + 1)))) _ _ _ (by first | omega | (dsimp only; omega)) ⟨hP.sub (ws' := [(av, .inl (dV, 64, .inl v)), (ah, .inl (dH, 64, .inl (upd a j (a (j * 2 + 1)))))]) [0, 1] rfl, hD.sub (ws' := [(av, .inl (dV, 64, .inl v)), (ah, .inl (dH, 64, .inl (upd a j (a (j * 2 + 1)))))]) [0, 1] (by decide) rfl, hS, lv_sub hl [4, 5, 6, 0, 7, 8, 9] rfl, ⟨by omega, by omega, hp_dstep hjn hlj hpm hdn2 (by omega) (by omega) (by omega) (by rw [← ht9, ← hE9]; exact c74) (hp_ch2 (hp_i_rf _) (by rw [← ht9, ← hu9]; exact c56))⟩⟩
        · refine lv_goto (tgt := 124) hx hb dX4_downHeap_77 (by decide) ?_
          refine lv_aload_n hx hb dX4_downHeap_124 rfl (lv_at hl 4 rfl) ?_
          refine lv_iload_n hx hb dX4_downHeap_125 rfl (lv_at hl 6 rfl) ?_
          refine lv_iload hx hb dX4_downHeap_126 (lv_at hl 8 rfl) ?_
          refine va_iast hx hb hK hP hD hS 1 1 rfl rfl (vp_in_nI (by omega) (by omega)) dX4_downHeap_128 (fun H locs hP hD hS => ?_)
          rw [nI_clamp (n := j) (by omega)] at hP hD
          have hP : va_P (dC, dI) vwCl [(av, .inl (dV, 64, .inl v)), (ah, .inl (dH, 64, .inl (upd a j e9)))] H := hP
          have hD : va_D A [(av, .inl (dV, 64, .inl v)), (ah, .inl (dH, 64, .inl (upd a j e9)))] := hD
          refine lv_iload_n hx hb dX4_downHeap_129 rfl (lv_at hl 6 rfl) ?_
          have hP9 := hP.sub (ws' := [(av, .inl (dV, 64, .inl v)), (ah, .inl (dH, 64, .inl (upd a j e9)))]) [0, 1] rfl
          have hD9 := hD.sub (ws' := [(av, .inl (dV, 64, .inl v)), (ah, .inl (dH, 64, .inl (upd a j e9)))]) [0, 1] (by decide) rfl
          have hK9 := hK.sub (tys' := [(dV, .int), (dH, .int)]) [0, 1] rfl
          exact W.iret (v := (nI j)) hx hb hr (fun t ht hW => ⟨⟨(nI j), (upd a j e9), rfl, ⟨hpm, hp_dend hdn2 (hp_ch2 (by rw [← ht9, ← hE9]; exact hp_i_nlt c74) (by rw [← hu9]; rw [← hE9]; exact hp_i_tr (hp_i_nlt c74) c56))⟩, by rw [ht]; exact hP9, va_K.moved hW.alike hK9, hD9⟩, hS.F ht⟩) hS.2.2 dX4_downHeap_130
      · refine lv_aload_n hx hb dX4_downHeap_59 rfl (lv_at hl 4 rfl) ?_
        refine lv_iload hx hb dX4_downHeap_60 (lv_at hl 0 rfl) ?_
        refine lv_dup hx hb dX4_downHeap_62 rfl ?_
        refine lv_istore (lv' := [(7, .int (nI (j * 2 + 1 + 1))), (9, .int (nI (j * 2 + 1 + 1))), (8, .int t9), (0, .ref av), (1, .ref ah), (2, .int (nI n)), (3, .int (nI j)), (4, .null), (5, .int e9), (6, .int E9)]) hx hb dX4_downHeap_63 hl (by decide) rfl (fun ls hl => ?_)
        refine va_iald hx hb hK hP 1 1 rfl rfl (vp_in_nI (by omega) (by omega)) dX4_downHeap_65 ?_
        refine lv_topi (fun w9 hw9 => ?_)
        have hw9 : w9 = a (j * 2 + 1 + 1) := hw9.trans (congrArg a (nI_clamp (by omega)))
        have c56 : ¬ v t9.toNatClampNeg ≤ v w9.toNatClampNeg := by rw [hw9, ← hu9]; exact c56
        have hwi : vp_in w9 64 := by rw [hw9]; exact hp_in hok hpm hc2 (by omega)
        refine lv_istore (lv' := [(8, .int w9), (7, .int (nI (j * 2 + 1 + 1))), (9, .int (nI (j * 2 + 1 + 1))), (0, .ref av), (1, .ref ah), (2, .int (nI n)), (3, .int (nI j)), (4, .null), (5, .int e9), (6, .int E9)]) hx hb dX4_downHeap_66 hl (by decide) rfl (fun ls hl => ?_)
        refine lv_iload hx hb dX4_downHeap_68 (lv_at hl 9 rfl) ?_
        refine lv_aload_n hx hb dX4_downHeap_70 rfl (lv_at hl 3 rfl) ?_
        refine lv_iload hx hb dX4_downHeap_71 (lv_at hl 0 rfl) ?_
        refine va_iald hx hb hK hP 0 0 rfl rfl (by assumption) dX4_downHeap_73 ?_
        refine lv_icmp_gt (tgt := 80) hx hb dX4_downHeap_74 (by decide) (fun c74 => ?_) (fun c74 => ?_)
        · refine lv_aload_n hx hb dX4_downHeap_80 rfl (lv_at hl 4 rfl) ?_
          refine lv_iload_n hx hb dX4_downHeap_81 rfl (lv_at hl 6 rfl) ?_
          refine lv_iload hx hb dX4_downHeap_82 (lv_at hl 0 rfl) ?_
          refine va_iast hx hb hK hP hD hS 1 1 rfl rfl (vp_in_nI (by omega) (by omega)) dX4_downHeap_84 (fun H locs hP hD hS => ?_)
          rw [nI_clamp (n := j) (by omega)] at hP hD
          rw [show upd a j w9 = upd a j (a (j * 2 + 1 + 1)) from by rw [hw9]] at hP hD
          have hP : va_P (dC, dI) vwCl [(av, .inl (dV, 64, .inl v)), (ah, .inl (dH, 64, .inl (upd a j (a (j * 2 + 1 + 1)))))] H := hP
          have hD : va_D A [(av, .inl (dV, 64, .inl v)), (ah, .inl (dH, 64, .inl (upd a j (a (j * 2 + 1 + 1)))))] := hD
          refine lv_iload hx hb dX4_downHeap_85 (lv_at hl 1 rfl) ?_
          refine lv_istore_n (lv' := [(3, .int (nI (j * 2 + 1 + 1))), (8, .int w9), (7, .int (nI (j * 2 + 1 + 1))), (9, .int (nI (j * 2 + 1 + 1))), (0, .ref av), (1, .ref ah), (2, .int (nI n)), (4, .null), (5, .int e9), (6, .int E9)]) hx hb dX4_downHeap_87 rfl hl (by decide) rfl (fun ls hl => ?_)
          refine lv_goto (tgt := 16) hx hb dX4_downHeap_88 (by decide) ?_
          exact ih ((j * 2 + 1 + 1), (upd a j (a (j * 2 + 1 + 1)))) _ _ _ (by first | omega | (dsimp only; omega)) ⟨hP.sub (ws' := [(av, .inl (dV, 64, .inl v)), (ah, .inl (dH, 64, .inl (upd a j (a (j * 2 + 1 + 1)))))]) [0, 1] rfl, hD.sub (ws' := [(av, .inl (dV, 64, .inl v)), (ah, .inl (dH, 64, .inl (upd a j (a (j * 2 + 1 + 1)))))]) [0, 1] (by decide) rfl, hS, lv_sub hl [4, 5, 6, 0, 7, 8, 9] rfl, ⟨by omega, by omega, hp_dstep hjn hlj hpm hdn2 (by omega) (by omega) (by omega) (by rw [← hw9, ← hE9]; exact c74) (hp_ch2 (by rw [← hw9, ← ht9]; exact hp_i_ltle (hp_i_lt c56)) (hp_i_rf _))⟩⟩
        · refine lv_goto (tgt := 124) hx hb dX4_downHeap_77 (by decide) ?_
          refine lv_aload_n hx hb dX4_downHeap_124 rfl (lv_at hl 4 rfl) ?_
          refine lv_iload_n hx hb dX4_downHeap_125 rfl (lv_at hl 6 rfl) ?_
          refine lv_iload hx hb dX4_downHeap_126 (lv_at hl 8 rfl) ?_
          refine va_iast hx hb hK hP hD hS 1 1 rfl rfl (vp_in_nI (by omega) (by omega)) dX4_downHeap_128 (fun H locs hP hD hS => ?_)
          rw [nI_clamp (n := j) (by omega)] at hP hD
          have hP : va_P (dC, dI) vwCl [(av, .inl (dV, 64, .inl v)), (ah, .inl (dH, 64, .inl (upd a j e9)))] H := hP
          have hD : va_D A [(av, .inl (dV, 64, .inl v)), (ah, .inl (dH, 64, .inl (upd a j e9)))] := hD
          refine lv_iload_n hx hb dX4_downHeap_129 rfl (lv_at hl 6 rfl) ?_
          have hP9 := hP.sub (ws' := [(av, .inl (dV, 64, .inl v)), (ah, .inl (dH, 64, .inl (upd a j e9)))]) [0, 1] rfl
          have hD9 := hD.sub (ws' := [(av, .inl (dV, 64, .inl v)), (ah, .inl (dH, 64, .inl (upd a j e9)))]) [0, 1] (by decide) rfl
          have hK9 := hK.sub (tys' := [(dV, .int), (dH, .int)]) [0, 1] rfl
          exact W.iret (v := (nI j)) hx hb hr (fun t ht hW => ⟨⟨(nI j), (upd a j e9), rfl, ⟨hpm, hp_dend hdn2 (hp_ch2 (by rw [← ht9, ← hE9]; exact hp_i_tr (hp_i_nlt c74) (hp_i_ltle (hp_i_lt c56))) (by rw [← hw9, ← hE9]; exact hp_i_nlt c74))⟩, by rw [ht]; exact hP9, va_K.moved hW.alike hK9, hD9⟩, hS.F ht⟩) hS.2.2 dX4_downHeap_130
set_option maxHeartbeats 4000000 in
set_option maxRecDepth 100000 in
/-- upHeap(values, heap, n, i, null): the place i rises; heap order -/
theorem metX4_upHeap (l : Launch) (dC : Nat → ClassId) (dI : Nat → Nat → Nat) (av : Nat) (ah : Nat) (dV : ClassId) (dH : ClassId) (v : Nat → Int32) (f : Nat → Int32) (n : Nat) (i : Nat) (sz : Nat) (hn : n ≤ 64) (hi : i < n) (hok : hp_ok f n) (hup : hp_up v f n i) : Met l yX4_upHeap (ws_ yX4_upHeap cX4_upHeap 9 (some .int)) ({ frames := 0, cells := 0, slots := 0, locals := 0 }) (va_Pc [.ref av, .ref ah, .int (nI n), .int (nI i), .null] (fun U => U.heap.size = sz ∧ va_P (dC, dI) vwCl [(av, .inl (dV, 64, .inl v)), (ah, .inl (dH, 64, .inl f))] U.heap ∧ va_K (dC, dI) vwCl [(dV, .int), (dH, .int)] U ∧ va_D (fun _ => True) [(av, .inl (dV, 64, .inl v)), (ah, .inl (dH, 64, .inl f))])) (va_Qi (fun (r : Int32) (u : Nat → Int32) => hp_pm f u n ∧ hp_or v u n 0) (fun (u : Nat → Int32) (t : State) => va_P (dC, dI) vwCl [(av, .inl (dV, 64, .inl v)), (ah, .inl (dH, 64, .inl u))] t.heap ∧ va_K (dC, dI) vwCl [(dV, .int), (dH, .int)] t ∧ va_D (va_A [(av, .inl (dV, 64, .inl v)), (ah, .inl (dH, 64, .inl f))] sz) [(av, .inl (dV, 64, .inl v)), (ah, .inl (dH, 64, .inl u))]) (va_A [(av, .inl (dV, 64, .inl v)), (ah, .inl (dH, 64, .inl f))] sz)) 0 0 (va_A [(av, .inl (dV, 64, .inl v)), (ah, .inl (dH, 64, .inl f))] sz) := by
  refine Met.ofW (cc := cX4_upHeap) (maxL := 9) (ret := (some .int)) (by decide) rfl ?_
  intro p e s m args below meth c s₁ B hml hvv
  obtain ⟨rfl, hsz, hP, hK, hD0⟩ := hvv
  have hx := B.exec
  have hb := B.bytes
  have hr := B.returns
  have hts := atoms_spec (ws := (ws_ yX4_upHeap cX4_upHeap 9 (some .int))) B.pre
  have hts : ∀ w ∈ lw_all, w.before _ s = true := fun w h => hts w (List.mem_cons_of_mem _ h)
  have hown : s.vm.findClass RX4 = some m.cls := findClass_of_methodNamed B.named
  have hlocks := B.notSynchronized
  subst hsz
  have hD := hD0.self (sz := s.heap.size)
  generalize hAe : va_A [(av, .inl (dV, 64, .inl v)), (ah, .inl (dH, 64, .inl f))] s.heap.size = A at hD ⊢
  have hA : ∀ q : Nat, s.heap.size ≤ q → A q := fun q h => by rw [← hAe]; exact Or.inr h
  have hS : va_S A s.heap s.heap [] := va_S.rf
  have hP : va_P (dC, dI) vwCl [(av, .inl (dV, 64, .inl v)), (ah, .inl (dH, 64, .inl f))] s.heap := hP
  have hl := lv_entry ([.ref av, .ref ah, .int (nI n), .int (nI i), .null]) (n := 9) (Nat.le_of_ble_eq_true rfl)
  rw [lg_entry_eq]
  generalize (lg_sl ([.ref av, .ref ah, .int (nI n), .int (nI i), .null]) ++ List.replicate (9 - (lg_sl ([.ref av, .ref ah, .int (nI n), .int (nI i), .null])).length) Slot.unset).toArray = ls at hl ⊢
  have hl : lv_has ls 9 [(0, .ref av), (1, .ref ah), (2, .int (nI n)), (3, .int (nI i)), (4, .null)] := hl
  refine lv_aload_n hx hb dX4_upHeap_0 rfl (lv_at hl 1 rfl) ?_
  refine lv_iload_n hx hb dX4_upHeap_1 rfl (lv_at hl 3 rfl) ?_
  refine va_iald hx hb hK hP 1 1 rfl rfl (vp_in_nI (by omega) (by omega)) dX4_upHeap_2 ?_
  refine lv_topi (fun e9 he9 => ?_)
  have he9 : e9 = f i := he9.trans (congrArg f (nI_clamp (by omega)))
  refine lv_istore (lv' := [(5, .int e9), (0, .ref av), (1, .ref ah), (2, .int (nI n)), (3, .int (nI i)), (4, .null)]) hx hb dX4_upHeap_3 hl (by decide) rfl (fun ls hl => ?_)
  refine lv_aload_n hx hb dX4_upHeap_5 rfl (lv_at hl 1 rfl) ?_
  refine lv_iload hx hb dX4_upHeap_6 (lv_at hl 0 rfl) ?_
  refine va_iald hx hb hK hP 0 0 rfl rfl (by rw [he9]; exact hok i hi) dX4_upHeap_8 ?_
  refine lv_topi (fun E9 hE9 => ?_)
  refine lv_istore (lv' := [(6, .int E9), (5, .int e9), (0, .ref av), (1, .ref ah), (2, .int (nI n)), (3, .int (nI i)), (4, .null)]) hx hb dX4_upHeap_9 hl (by decide) rfl (fun ls hl => ?_)
  refine lv_aloadN hx hb dX4_upHeap_11 (lv_at hl 6 rfl) ?_
  refine lv_ifnonnullN hx hb dX4_upHeap_13 ?_
  refine wl_loop (σ := Nat × (Nat → Int32)) (fun x => x.1) (fun (x : Nat × (Nat → Int32)) (H : Heap) (locs : List Loc) (ls : Array Slot) => va_P (dC, dI) vwCl [(av, .inl (dV, 64, .inl v)), (ah, .inl (dH, 64, .inl x.2))] H ∧ va_D A [(av, .inl (dV, 64, .inl v)), (ah, .inl (dH, 64, .inl x.2))] ∧ va_S A s.heap H locs ∧ lv_has ls 9 [(0, .ref av), (1, .ref ah), (2, .int (nI n)), (3, .int (nI x.1)), (4, .null), (5, .int e9), (6, .int E9)] ∧ (x.1 < n ∧ hp_pm f (upd x.2 x.1 e9) n ∧ hp_up v (upd x.2 x.1 e9) n x.1)) (fun x H locs ls hI ih => ?_) (i, f) _ _ _ ⟨hP.sub (ws' := [(av, .inl (dV, 64, .inl v)), (ah, .inl (dH, 64, .inl f))]) [0, 1] rfl, hD.sub (ws' := [(av, .inl (dV, 64, .inl v)), (ah, .inl (dH, 64, .inl f))]) [0, 1] (by decide) rfl, hS, lv_sub hl [2, 3, 4, 5, 6, 1, 0] rfl, ⟨hi, by rw [he9, hp_self]; exact hp_pm_rf f n, by rw [he9, hp_self]; exact hup⟩⟩
  obtain ⟨j, a⟩ := x
  obtain ⟨hP, hD, hS, hl, hI⟩ := hI
  have hP : va_P (dC, dI) vwCl [(av, .inl (dV, 64, .inl v)), (ah, .inl (dH, 64, .inl a))] H := hP
  have hD : va_D A [(av, .inl (dV, 64, .inl v)), (ah, .inl (dH, 64, .inl a))] := hD
  have hl : lv_has ls 9 [(0, .ref av), (1, .ref ah), (2, .int (nI n)), (3, .int (nI j)), (4, .null), (5, .int e9), (6, .int E9)] := hl
  have hI : j < n ∧ hp_pm f (upd a j e9) n ∧ hp_up v (upd a j e9) n j := hI
  obtain ⟨hjn, hpm, hup2⟩ := hI
  refine lv_iload_n hx hb dX4_upHeap_16 rfl (lv_at hl 3 rfl) ?_
  refine lv_if_eq (tgt := 76) hx hb dX4_upHeap_17 (by decide) (fun c17 => ?_) (fun c17 => ?_)
  · have hj0 : j = 0 := by
      rcases Nat.eq_zero_or_pos j with q | q
      · exact q
      · exact absurd c17 (nI_ne0 q (by omega))
    refine lv_aload_n hx hb dX4_upHeap_76 rfl (lv_at hl 1 rfl) ?_
    refine lv_iload_n hx hb dX4_upHeap_77 rfl (lv_at hl 3 rfl) ?_
    refine lv_iload hx hb dX4_upHeap_78 (lv_at hl 5 rfl) ?_
    refine va_iast hx hb hK hP hD hS 1 1 rfl rfl (vp_in_nI (by omega) (by omega)) dX4_upHeap_80 (fun H locs hP hD hS => ?_)
    rw [nI_clamp (n := j) (by omega)] at hP hD
    have hP : va_P (dC, dI) vwCl [(av, .inl (dV, 64, .inl v)), (ah, .inl (dH, 64, .inl (upd a j e9)))] H := hP
    have hD : va_D A [(av, .inl (dV, 64, .inl v)), (ah, .inl (dH, 64, .inl (upd a j e9)))] := hD
    refine lv_iload_n hx hb dX4_upHeap_81 rfl (lv_at hl 3 rfl) ?_
    have hP9 := hP.sub (ws' := [(av, .inl (dV, 64, .inl v)), (ah, .inl (dH, 64, .inl (upd a j e9)))]) [0, 1] rfl
    have hD9 := hD.sub (ws' := [(av, .inl (dV, 64, .inl v)), (ah, .inl (dH, 64, .inl (upd a j e9)))]) [0, 1] (by decide) rfl
    have hK9 := hK.sub (tys' := [(dV, .int), (dH, .int)]) [0, 1] rfl
    exact W.iret (v := (nI j)) hx hb hr (fun t ht hW => ⟨⟨(nI j), (upd a j e9), rfl, ⟨hpm, hp_uend hup2 (Or.inl hj0)⟩, by rw [ht]; exact hP9, va_K.moved hW.alike hK9, hD9⟩, hS.F ht⟩) hS.2.2 dX4_upHeap_82
  · have hj0 : 0 < j := by
      rcases Nat.eq_zero_or_pos j with q | q
      · exact absurd (by rw [q]; exact nI_0) c17
      · exact q
    refine lv_iload_n hx hb dX4_upHeap_20 rfl (lv_at hl 3 rfl) ?_
    refine lv_iconst (v := (nI 1)) hx hb dX4_upHeap_21 (by decide +kernel) ?_
    refine lv_isub hx hb dX4_upHeap_22 ?_
    refine lv_topi (fun y_1 ey_1 => ?_)
    obtain rfl : y_1 = nI (j - 1) := ey_1.trans (pk_sub hj0)
    refine lv_iconst (v := 1) hx hb dX4_upHeap_23 (by decide +kernel) ?_
    refine lv_iushr (v := nI ((j - 1) / 2)) hx hb dX4_upHeap_24 (pk_ushrN (n := j - 1) (by omega) 1 1 (by decide +kernel)) ?_
    refine lv_istore (lv' := [(7, .int (nI ((j - 1) / 2))), (0, .ref av), (1, .ref ah), (2, .int (nI n)), (3, .int (nI j)), (4, .null), (5, .int e9), (6, .int E9)]) hx hb dX4_upHeap_25 hl (by decide) rfl (fun ls hl => ?_)
    refine lv_aload_n hx hb dX4_upHeap_27 rfl (lv_at hl 2 rfl) ?_
    refine lv_iload hx hb dX4_upHeap_28 (lv_at hl 0 rfl) ?_
    refine va_iald hx hb hK hP 1 1 rfl rfl (vp_in_nI (by omega) (by omega)) dX4_upHeap_30 ?_
    refine lv_topi (fun t9 ht9 => ?_)
    have ht9 : t9 = a ((j - 1) / 2) := ht9.trans (congrArg a (nI_clamp (by omega)))
    have hti : vp_in t9 64 := by rw [ht9]; exact hp_in hok hpm (by omega) (by omega)
    refine lv_istore (lv' := [(8, .int t9), (7, .int (nI ((j - 1) / 2))), (0, .ref av), (1, .ref ah), (2, .int (nI n)), (3, .int (nI j)), (4, .null), (5, .int e9), (6, .int E9)]) hx hb dX4_upHeap_31 hl (by decide) rfl (fun ls hl => ?_)
    refine lv_aload_n hx hb dX4_upHeap_33 rfl (lv_at hl 2 rfl) ?_
    refine lv_iload hx hb dX4_upHeap_34 (lv_at hl 0 rfl) ?_
    refine va_iald hx hb hK hP 0 0 rfl rfl (by assumption) dX4_upHeap_36 ?_
    refine lv_iload hx hb dX4_upHeap_37 (lv_at hl 8 rfl) ?_
    refine lv_icmp_gt (tgt := 45) hx hb dX4_upHeap_39 (by decide) (fun c39 => ?_) (fun c39 => ?_)
    · refine lv_aload_n hx hb dX4_upHeap_45 rfl (lv_at hl 3 rfl) ?_
      refine lv_iload_n hx hb dX4_upHeap_46 rfl (lv_at hl 5 rfl) ?_
      refine lv_iload hx hb dX4_upHeap_47 (lv_at hl 0 rfl) ?_
      refine va_iast hx hb hK hP hD hS 1 1 rfl rfl (vp_in_nI (by omega) (by omega)) dX4_upHeap_49 (fun H locs hP hD hS => ?_)
      rw [nI_clamp (n := j) (by omega)] at hP hD
      rw [show upd a j t9 = upd a j (a ((j - 1) / 2)) from by rw [ht9]] at hP hD
      have hP : va_P (dC, dI) vwCl [(av, .inl (dV, 64, .inl v)), (ah, .inl (dH, 64, .inl (upd a j (a ((j - 1) / 2)))))] H := hP
      have hD : va_D A [(av, .inl (dV, 64, .inl v)), (ah, .inl (dH, 64, .inl (upd a j (a ((j - 1) / 2)))))] := hD
      refine lv_iload hx hb dX4_upHeap_50 (lv_at hl 1 rfl) ?_
      refine lv_istore_n (lv' := [(3, .int (nI ((j - 1) / 2))), (8, .int t9), (7, .int (nI ((j - 1) / 2))), (0, .ref av), (1, .ref ah), (2, .int (nI n)), (4, .null), (5, .int e9), (6, .int E9)]) hx hb dX4_upHeap_52 rfl hl (by decide) rfl (fun ls hl => ?_)
      refine lv_goto (tgt := 16) hx hb dX4_upHeap_53 (by decide) ?_
      exact ih (((j - 1) / 2), (upd a j (a ((j - 1) / 2)))) _ _ _ (by first | omega | (dsimp only; omega)) ⟨hP.sub (ws' := [(av, .inl (dV, 64, .inl v)), (ah, .inl (dH, 64, .inl (upd a j (a ((j - 1) / 2)))))]) [0, 1] rfl, hD.sub (ws' := [(av, .inl (dV, 64, .inl v)), (ah, .inl (dH, 64, .inl (upd a j (a ((j - 1) / 2)))))]) [0, 1] (by decide) rfl, hS, lv_sub hl [3, 4, 5, 0, 6, 7, 8] rfl, ⟨by omega, hp_ustep hj0 hjn rfl hpm hup2 (by rw [← ht9, ← hE9]; exact c39)⟩⟩
    · refine lv_goto (tgt := 76) hx hb dX4_upHeap_42 (by decide) ?_
      refine lv_aload_n hx hb dX4_upHeap_76 rfl (lv_at hl 3 rfl) ?_
      refine lv_iload_n hx hb dX4_upHeap_77 rfl (lv_at hl 5 rfl) ?_
      refine lv_iload hx hb dX4_upHeap_78 (lv_at hl 7 rfl) ?_
      refine va_iast hx hb hK hP hD hS 1 1 rfl rfl (vp_in_nI (by omega) (by omega)) dX4_upHeap_80 (fun H locs hP hD hS => ?_)
      rw [nI_clamp (n := j) (by omega)] at hP hD
      have hP : va_P (dC, dI) vwCl [(av, .inl (dV, 64, .inl v)), (ah, .inl (dH, 64, .inl (upd a j e9)))] H := hP
      have hD : va_D A [(av, .inl (dV, 64, .inl v)), (ah, .inl (dH, 64, .inl (upd a j e9)))] := hD
      refine lv_iload_n hx hb dX4_upHeap_81 rfl (lv_at hl 5 rfl) ?_
      have hP9 := hP.sub (ws' := [(av, .inl (dV, 64, .inl v)), (ah, .inl (dH, 64, .inl (upd a j e9)))]) [0, 1] rfl
      have hD9 := hD.sub (ws' := [(av, .inl (dV, 64, .inl v)), (ah, .inl (dH, 64, .inl (upd a j e9)))]) [0, 1] (by decide) rfl
      have hK9 := hK.sub (tys' := [(dV, .int), (dH, .int)]) [0, 1] rfl
      exact W.iret (v := (nI j)) hx hb hr (fun t ht hW => ⟨⟨(nI j), (upd a j e9), rfl, ⟨hpm, hp_uend hup2 (Or.inr (by rw [← ht9, ← hE9]; exact hp_i_nlt c39))⟩, by rw [ht]; exact hP9, va_K.moved hW.alike hK9, hD9⟩, hS.F ht⟩) hS.2.2 dX4_upHeap_82
set_option maxHeartbeats 4000000 in
set_option maxRecDepth 100000 in
/-- makeHeap(values, heap, n, null): heap order -/
theorem metX4_makeHeap (l : Launch) (dC : Nat → ClassId) (dI : Nat → Nat → Nat) (av : Nat) (ah : Nat) (dV : ClassId) (dH : ClassId) (v : Nat → Int32) (f : Nat → Int32) (n : Nat) (sz : Nat) (hn : n ≤ 64) (hok : hp_ok f n) : Met l yX4_makeHeap (ws_ yX4_makeHeap cX4_makeHeap 5 none) ({ frames := 1, cells := 0, slots := 0, locals := 29 }) (va_Pc [.ref av, .ref ah, .int (nI n), .null] (fun U => U.heap.size = sz ∧ va_P (dC, dI) vwCl [(av, .inl (dV, 64, .inl v)), (ah, .inl (dH, 64, .inl f))] U.heap ∧ va_K (dC, dI) vwCl [(dV, .int), (dH, .int)] U ∧ va_D (fun _ => True) [(av, .inl (dV, 64, .inl v)), (ah, .inl (dH, 64, .inl f))])) (va_Qv (fun (u : Nat → Int32) => hp_pm f u n ∧ hp_or v u n 0) (fun (u : Nat → Int32) (t : State) => va_P (dC, dI) vwCl [(av, .inl (dV, 64, .inl v)), (ah, .inl (dH, 64, .inl u))] t.heap ∧ va_K (dC, dI) vwCl [(dV, .int), (dH, .int)] t ∧ va_D (va_A [(av, .inl (dV, 64, .inl v)), (ah, .inl (dH, 64, .inl f))] sz) [(av, .inl (dV, 64, .inl v)), (ah, .inl (dH, 64, .inl u))]) (va_A [(av, .inl (dV, 64, .inl v)), (ah, .inl (dH, 64, .inl f))] sz)) 0 0 (va_A [(av, .inl (dV, 64, .inl v)), (ah, .inl (dH, 64, .inl f))] sz) := by
  refine Met.ofW (cc := cX4_makeHeap) (maxL := 5) (ret := none) (by decide) rfl ?_
  intro p e s m args below meth c s₁ B hml hvv
  obtain ⟨rfl, hsz, hP, hK, hD0⟩ := hvv
  have hx := B.exec
  have hb := B.bytes
  have hr := B.returns
  have hts := atoms_spec (ws := (ws_ yX4_makeHeap cX4_makeHeap 5 none)) B.pre
  have hts : ∀ w ∈ lw_all, w.before _ s = true := fun w h => hts w (List.mem_cons_of_mem _ h)
  have hown : s.vm.findClass RX4 = some m.cls := findClass_of_methodNamed B.named
  have hlocks := B.notSynchronized
  subst hsz
  have hD := hD0.self (sz := s.heap.size)
  generalize hAe : va_A [(av, .inl (dV, 64, .inl v)), (ah, .inl (dH, 64, .inl f))] s.heap.size = A at hD ⊢
  have hA : ∀ q : Nat, s.heap.size ≤ q → A q := fun q h => by rw [← hAe]; exact Or.inr h
  have hS : va_S A s.heap s.heap [] := va_S.rf
  have hP : va_P (dC, dI) vwCl [(av, .inl (dV, 64, .inl v)), (ah, .inl (dH, 64, .inl f))] s.heap := hP
  have hl := lv_entry ([.ref av, .ref ah, .int (nI n), .null]) (n := 5) (Nat.le_of_ble_eq_true rfl)
  rw [lg_entry_eq]
  generalize (lg_sl ([.ref av, .ref ah, .int (nI n), .null]) ++ List.replicate (5 - (lg_sl ([.ref av, .ref ah, .int (nI n), .null])).length) Slot.unset).toArray = ls at hl ⊢
  have hl : lv_has ls 5 [(0, .ref av), (1, .ref ah), (2, .int (nI n)), (3, .null)] := hl
  refine lv_iload_n hx hb dX4_makeHeap_0 rfl (lv_at hl 2 rfl) ?_
  refine lv_iconst (v := 1) hx hb dX4_makeHeap_1 (by decide +kernel) ?_
  refine lv_iushr (v := nI (n / 2)) hx hb dX4_makeHeap_2 (pk_ushrN (n := n) (by omega) 1 1 (by decide +kernel)) ?_
  refine lv_istore (lv' := [(4, .int (nI (n / 2))), (0, .ref av), (1, .ref ah), (2, .int (nI n)), (3, .null)]) hx hb dX4_makeHeap_3 hl (by decide) rfl (fun ls hl => ?_)
  refine wl_loop (σ := Nat × (Nat → Int32)) (fun x => x.1) (fun (x : Nat × (Nat → Int32)) (H : Heap) (locs : List Loc) (ls : Array Slot) => va_P (dC, dI) vwCl [(av, .inl (dV, 64, .inl v)), (ah, .inl (dH, 64, .inl x.2))] H ∧ va_D A [(av, .inl (dV, 64, .inl v)), (ah, .inl (dH, 64, .inl x.2))] ∧ va_S A s.heap H locs ∧ lv_has ls 5 [(0, .ref av), (1, .ref ah), (2, .int (nI n)), (3, .null), (4, .int (nI x.1))] ∧ (x.1 ≤ n / 2 ∧ hp_pm f x.2 n ∧ hp_or v x.2 n x.1)) (fun x H locs ls hI ih => ?_) ((n / 2), f) _ _ _ ⟨hP.sub (ws' := [(av, .inl (dV, 64, .inl v)), (ah, .inl (dH, 64, .inl f))]) [0, 1] rfl, hD.sub (ws' := [(av, .inl (dV, 64, .inl v)), (ah, .inl (dH, 64, .inl f))]) [0, 1] (by decide) rfl, hS, lv_sub hl [1, 2, 3, 4, 0] rfl, ⟨Nat.le_refl _, hp_pm_rf f n, hp_or_big v f n⟩⟩
  obtain ⟨j, a⟩ := x
  obtain ⟨hP, hD, hS, hl, hI⟩ := hI
  have hP : va_P (dC, dI) vwCl [(av, .inl (dV, 64, .inl v)), (ah, .inl (dH, 64, .inl a))] H := hP
  have hD : va_D A [(av, .inl (dV, 64, .inl v)), (ah, .inl (dH, 64, .inl a))] := hD
  have hl : lv_has ls 5 [(0, .ref av), (1, .ref ah), (2, .int (nI n)), (3, .null), (4, .int (nI j))] := hl
  have hI : j ≤ n / 2 ∧ hp_pm f a n ∧ hp_or v a n j := hI
  obtain ⟨hjn, hpm, hor⟩ := hI
  rcases j with _ | k
  · refine lv_iload hx hb dX4_makeHeap_5 (lv_at hl 4 rfl) ?_
    refine lv_iinc (v := (nI 0 + Int32.ofInt (-1))) (lv' := [(4, .int (nI 0 + Int32.ofInt (-1))), (0, .ref av), (1, .ref ah), (2, .int (nI n)), (3, .null)]) hx hb dX4_makeHeap_7 hl (k := 4) rfl rfl (by decide) rfl (fun ls hl => ?_)
    refine lv_if_eq (tgt := 26) hx hb dX4_makeHeap_10 (by decide) (fun c10 => ?_) (fun c10 => absurd (nI_0) c10)
    have hP9 := hP.sub (ws' := [(av, .inl (dV, 64, .inl v)), (ah, .inl (dH, 64, .inl a))]) [0, 1] rfl
    have hD9 := hD.sub (ws' := [(av, .inl (dV, 64, .inl v)), (ah, .inl (dH, 64, .inl a))]) [0, 1] (by decide) rfl
    have hK9 := hK.sub (tys' := [(dV, .int), (dH, .int)]) [0, 1] rfl
    exact W.vret hx hb hr (fun t ht hW => ⟨⟨a, rfl, ⟨hpm, hor⟩, by rw [ht]; exact hP9, va_K.moved hW.alike hK9, hD9⟩, hS.F ht⟩) hS.2.2 dX4_makeHeap_26
  · refine lv_iload hx hb dX4_makeHeap_5 (lv_at hl 4 rfl) ?_
    refine lv_iinc (v := (nI k)) (lv' := [(4, .int (nI k)), (0, .ref av), (1, .ref ah), (2, .int (nI n)), (3, .null)]) hx hb dX4_makeHeap_7 hl (k := 4) rfl (pk_m1 k) (by decide) rfl (fun ls hl => ?_)
    refine lv_if_eq (tgt := 26) hx hb dX4_makeHeap_10 (by decide) (fun c10 => absurd c10 (nI_ne0 (Nat.succ_pos k) (by omega))) (fun c10 => ?_)
    refine lv_aload_n hx hb dX4_makeHeap_13 rfl (lv_at hl 1 rfl) ?_
    refine lv_aload_n hx hb dX4_makeHeap_14 rfl (lv_at hl 2 rfl) ?_
    refine lv_iload_n hx hb dX4_makeHeap_15 rfl (lv_at hl 3 rfl) ?_
    refine lv_iload hx hb dX4_makeHeap_16 (lv_at hl 0 rfl) ?_
    refine lv_aload_nN hx hb dX4_makeHeap_18 rfl (lv_at hl 4 rfl) ?_
    have hPc := hP.sub (ws' := [(av, .inl (dV, 64, .inl v)), (ah, .inl (dH, 64, .inl a))]) [0, 1] rfl
    have hDc := hD.sub (ws' := [(av, .inl (dV, 64, .inl v)), (ah, .inl (dH, 64, .inl a))]) [0, 1] (by decide) rfl
    have hKc := hK.sub (tys' := [(dV, .int), (dH, .int)]) [0, 1] rfl
    have hFc := va_free (wc := [(av, .inl (dV, 64, .inl v)), (ah, .inl (dH, 64, .inl a))]) hD hS hA [0, 1] rfl
    refine va_calli (va_runS (As := [.ref av, .ref ah, .int (nI n), .int (nI k), .null]) (rest := []) ⟨hx, hb, hml, hown, hts⟩ (metX4_downHeap l dC dI av ah dV dH v a n k k H.size hn (by omega) (hp_ok_pm hok hpm) (Nat.le_refl k) (hp_dn_of hor)) (va_cwS 5 hts (lw_S q224 q203 q13 q204) rfl rfl rfl (by decide +kernel) ⟨Nat.le_of_ble_eq_true rfl, Nat.le_of_ble_eq_true rfl⟩) ⟨fun a U g mk q => by obtain ⟨q0, q1, qP, qK, qD⟩ := q; exact ⟨q0, q1, qP, va_K.moved (u := U) (U := U.calling g mk a) (Vm.Alike.refl U.vm) qK, qD⟩, fun U hU hW => ⟨rfl, by rw [hU], by rw [hU]; exact hPc, va_K.moved hW.alike hKc, hDc.weaken (fun _ _ _ _ => trivial)⟩⟩ rfl rfl hl.1 rfl (lv_room (Nat.le_of_ble_eq_true rfl)) dX4_makeHeap_19 ⟨Nat.le_of_ble_eq_true rfl, Nat.le_of_ble_eq_true rfl⟩) hS (fun q _ h => hFc q h) hFc (fun r9 g t H1 locs ht hvm hwq hB hz1 hk1 hS => ?_)
    have hw : hp_pm a g n ∧ hp_or v g n k := hwq
    obtain ⟨hP1, hK1, hD1⟩ := hB
    rw [ht] at hP1
    obtain ⟨hP, hD⟩ := va_join (wr := []) (w1 := [(av, .inl (dV, 64, .inl v)), (ah, .inl (dH, 64, .inl g))]) hP hD [0, 1] [] rfl rfl (by decide) (by decide) hk1 hFc hP1 hD1
    generalize H1 = H at hP hS ⊢
    have hP : va_P (dC, dI) vwCl [(av, .inl (dV, 64, .inl v)), (ah, .inl (dH, 64, .inl g))] H := hP
    have hD : va_D A [(av, .inl (dV, 64, .inl v)), (ah, .inl (dH, 64, .inl g))] := hD
    refine lv_pop hx hb dX4_makeHeap_22 rfl ?_
    refine lv_goto (tgt := 5) hx hb dX4_makeHeap_23 (by decide) ?_
    exact ih (k, g) _ _ _ (by first | omega | (dsimp only; omega)) ⟨hP.sub (ws' := [(av, .inl (dV, 64, .inl v)), (ah, .inl (dH, 64, .inl g))]) [0, 1] rfl, hD.sub (ws' := [(av, .inl (dV, 64, .inl v)), (ah, .inl (dH, 64, .inl g))]) [0, 1] (by decide) rfl, hS, lv_sub hl [1, 2, 3, 4, 0] rfl, ⟨by omega, hp_pm_tr hpm hw.1, hw.2⟩⟩
set_option maxHeartbeats 4000000 in
set_option maxRecDepth 100000 in
/-- front(values, heap, n, a) where the values are apart: one place -/
theorem metX4_front (l : Launch) (dC : Nat → ClassId) (dI : Nat → Nat → Nat) (av : Nat) (ah : Nat) (dV : ClassId) (dH : ClassId) (v : Nat → Int32) (f : Nat → Int32) (n : Nat) (az : Nat) (dZ : ClassId) (z : Nat → Int32) (sz : Nat) (hn0 : 0 < n) (hn : n ≤ 64) (hok : hp_ok f n) (hne : ∀ j, 0 < j → j < n → ¬ v (f 0).toNatClampNeg = v (f j).toNatClampNeg) : Met l yX4_front (ws_ yX4_front cX4_front 10 (some .int)) ({ frames := 1, cells := 0, slots := 0, locals := 13 }) (va_Pc [.ref av, .ref ah, .int (nI n), .ref az] (fun U => U.heap.size = sz ∧ va_P (dC, dI) vwCl [(av, .inl (dV, 64, .inl v)), (ah, .inl (dH, 64, .inl f)), (az, .inl (dZ, 64, .inl z))] U.heap ∧ va_K (dC, dI) vwCl [(dV, .int), (dH, .int), (dZ, .int)] U ∧ va_D (fun _ => True) [(av, .inl (dV, 64, .inl v)), (ah, .inl (dH, 64, .inl f)), (az, .inl (dZ, 64, .inl z))])) (va_Qi (fun (r : Int32) (u : Unit) => r = nI 1) (fun (u : Unit) (t : State) => va_P (dC, dI) vwCl [(av, .inl (dV, 64, .inl v)), (ah, .inl (dH, 64, .inl f)), (az, .inl (dZ, 64, .inl (upd z 0 (f 0))))] t.heap ∧ va_K (dC, dI) vwCl [(dV, .int), (dH, .int), (dZ, .int)] t ∧ va_D (va_A [(av, .inl (dV, 64, .inl v)), (ah, .inl (dH, 64, .inl f)), (az, .inl (dZ, 64, .inl z))] sz) [(av, .inl (dV, 64, .inl v)), (ah, .inl (dH, 64, .inl f)), (az, .inl (dZ, 64, .inl (upd z 0 (f 0))))]) (va_A [(av, .inl (dV, 64, .inl v)), (ah, .inl (dH, 64, .inl f)), (az, .inl (dZ, 64, .inl z))] sz)) 0 0 (va_A [(av, .inl (dV, 64, .inl v)), (ah, .inl (dH, 64, .inl f)), (az, .inl (dZ, 64, .inl z))] sz) := by
  refine Met.ofW (cc := cX4_front) (maxL := 10) (ret := (some .int)) (by decide) rfl ?_
  intro p e s m args below meth c s₁ B hml hvv
  obtain ⟨rfl, hsz, hP, hK, hD0⟩ := hvv
  have hx := B.exec
  have hb := B.bytes
  have hr := B.returns
  have hts := atoms_spec (ws := (ws_ yX4_front cX4_front 10 (some .int))) B.pre
  have hts : ∀ w ∈ lw_all, w.before _ s = true := fun w h => hts w (List.mem_cons_of_mem _ h)
  have hown : s.vm.findClass RX4 = some m.cls := findClass_of_methodNamed B.named
  have hlocks := B.notSynchronized
  subst hsz
  have hD := hD0.self (sz := s.heap.size)
  generalize hAe : va_A [(av, .inl (dV, 64, .inl v)), (ah, .inl (dH, 64, .inl f)), (az, .inl (dZ, 64, .inl z))] s.heap.size = A at hD ⊢
  have hA : ∀ q : Nat, s.heap.size ≤ q → A q := fun q h => by rw [← hAe]; exact Or.inr h
  have hS : va_S A s.heap s.heap [] := va_S.rf
  have hP : va_P (dC, dI) vwCl [(av, .inl (dV, 64, .inl v)), (ah, .inl (dH, 64, .inl f)), (az, .inl (dZ, 64, .inl z))] s.heap := hP
  have hl := lv_entry ([.ref av, .ref ah, .int (nI n), .ref az]) (n := 10) (Nat.le_of_ble_eq_true rfl)
  rw [lg_entry_eq]
  generalize (lg_sl ([.ref av, .ref ah, .int (nI n), .ref az]) ++ List.replicate (10 - (lg_sl ([.ref av, .ref ah, .int (nI n), .ref az])).length) Slot.unset).toArray = ls at hl ⊢
  have hl : lv_has ls 10 [(0, .ref av), (1, .ref ah), (2, .int (nI n)), (3, .ref az)] := hl
  rcases (show n = 1 ∨ n = 2 ∨ 3 ≤ n by omega) with hq | hq | hq
  · refine lv_aload_n hx hb dX4_front_0 rfl (lv_at hl 0 rfl) ?_
    refine lv_aload_n hx hb dX4_front_1 rfl (lv_at hl 1 rfl) ?_
    refine lv_iconst (v := (nI 0)) hx hb dX4_front_2 (by decide +kernel) ?_
    refine va_iald hx hb hK hP 1 1 rfl rfl (vp_in_nI (by omega) (by omega)) dX4_front_3 ?_
    refine lv_topi (fun e9 he9 => ?_)
    have he9 : e9 = f 0 := he9.trans (congrArg f (nI_clamp (by omega)))
    refine va_iald hx hb hK hP 0 0 rfl rfl (by rw [he9]; exact hok 0 hn0) dX4_front_4 ?_
    refine lv_topi (fun E9 hE9 => ?_)
    refine lv_istore (lv' := [(4, .int E9), (0, .ref av), (1, .ref ah), (2, .int (nI n)), (3, .ref az)]) hx hb dX4_front_5 hl (by decide) rfl (fun ls hl => ?_)
    refine lv_iconst (v := (nI 0)) hx hb dX4_front_7 (by decide +kernel) ?_
    refine lv_istore (lv' := [(5, .int (nI 0)), (4, .int E9), (0, .ref av), (1, .ref ah), (2, .int (nI n)), (3, .ref az)]) hx hb dX4_front_8 hl (by decide) rfl (fun ls hl => ?_)
    refine lv_iconst (v := (nI 0)) hx hb dX4_front_10 (by decide +kernel) ?_
    refine lv_istore (lv' := [(6, .int (nI 0)), (5, .int (nI 0)), (4, .int E9), (0, .ref av), (1, .ref ah), (2, .int (nI n)), (3, .ref az)]) hx hb dX4_front_11 hl (by decide) rfl (fun ls hl => ?_)
    refine lv_iconst (v := (nI 1)) hx hb dX4_front_13 (by decide +kernel) ?_
    refine lv_istore (lv' := [(7, .int (nI 1)), (6, .int (nI 0)), (5, .int (nI 0)), (4, .int E9), (0, .ref av), (1, .ref ah), (2, .int (nI n)), (3, .ref az)]) hx hb dX4_front_14 hl (by decide) rfl (fun ls hl => ?_)
    refine lv_iconst (v := (nI 0)) hx hb dX4_front_16 (by decide +kernel) ?_
    refine lv_istore (lv' := [(8, .int (nI 0)), (7, .int (nI 1)), (6, .int (nI 0)), (5, .int (nI 0)), (4, .int E9), (0, .ref av), (1, .ref ah), (2, .int (nI n)), (3, .ref az)]) hx hb dX4_front_17 hl (by decide) rfl (fun ls hl => ?_)
    refine lv_iconst (v := (nI 0)) hx hb dX4_front_19 (by decide +kernel) ?_
    refine lv_istore (lv' := [(9, .int (nI 0)), (8, .int (nI 0)), (7, .int (nI 1)), (6, .int (nI 0)), (5, .int (nI 0)), (4, .int E9), (0, .ref av), (1, .ref ah), (2, .int (nI n)), (3, .ref az)]) hx hb dX4_front_20 hl (by decide) rfl (fun ls hl => ?_)
    refine lv_iload hx hb dX4_front_22 (lv_at hl 0 rfl) ?_
    refine lv_iload hx hb dX4_front_24 (lv_at hl 2 rfl) ?_
    refine lv_icmp_ge (tgt := 115) hx hb dX4_front_26 (by decide) (fun c26 => absurd c26 (by decide +kernel)) (fun c26 => ?_)
    refine lv_iload hx hb dX4_front_29 (lv_at hl 0 rfl) ?_
    refine lv_iload hx hb dX4_front_31 (lv_at hl 1 rfl) ?_
    refine lv_icmp_ne (tgt := 61) hx hb dX4_front_33 (by decide) (fun c33 => absurd c33 (fun q => q rfl)) (fun c33 => ?_)
    refine lv_iload hx hb dX4_front_36 (lv_at hl 3 rfl) ?_
    refine lv_iload hx hb dX4_front_38 (lv_at hl 2 rfl) ?_
    refine lv_icmp_lt (tgt := 46) hx hb dX4_front_40 (by decide) (fun c40 => ?_) (fun c40 => absurd (by decide +kernel) c40)
    refine lv_iload hx hb dX4_front_46 (lv_at hl 1 rfl) ?_
    refine lv_iconst (v := 1) hx hb dX4_front_48 (by decide +kernel) ?_
    refine lv_ishl hx hb dX4_front_49 ?_
    refine lv_topi (fun y_1 ey_1 => ?_)
    obtain rfl : y_1 = nI 0 := ey_1.trans (by decide +kernel)
    refine lv_iconst (v := 1) hx hb dX4_front_50 (by decide +kernel) ?_
    refine lv_iadd hx hb dX4_front_51 ?_
    refine lv_topi (fun y_2 ey_2 => ?_)
    obtain rfl : y_2 = nI 1 := ey_2.trans (by decide +kernel)
    refine lv_istore (lv' := [(8, .int (nI 1)), (9, .int (nI 0)), (7, .int (nI 1)), (6, .int (nI 0)), (5, .int (nI 0)), (4, .int E9), (0, .ref av), (1, .ref ah), (2, .int (nI n)), (3, .ref az)]) hx hb dX4_front_52 hl (by decide) rfl (fun ls hl => ?_)
    refine lv_iload hx hb dX4_front_54 (lv_at hl 3 rfl) ?_
    refine lv_istore (lv' := [(9, .int (nI 0)), (8, .int (nI 1)), (7, .int (nI 1)), (6, .int (nI 0)), (5, .int (nI 0)), (4, .int E9), (0, .ref av), (1, .ref ah), (2, .int (nI n)), (3, .ref az)]) hx hb dX4_front_56 hl (by decide) rfl (fun ls hl => ?_)
    refine lv_iconst (v := (-1)) hx hb dX4_front_58 (by decide +kernel) ?_
    refine lv_istore (lv' := [(6, .int (-1)), (9, .int (nI 0)), (8, .int (nI 1)), (7, .int (nI 1)), (5, .int (nI 0)), (4, .int E9), (0, .ref av), (1, .ref ah), (2, .int (nI n)), (3, .ref az)]) hx hb dX4_front_59 hl (by decide) rfl (fun ls hl => ?_)
    refine lv_iload hx hb dX4_front_61 (lv_at hl 5 rfl) ?_
    refine lv_aload_n hx hb dX4_front_63 rfl (lv_at hl 6 rfl) ?_
    refine lv_aload_n hx hb dX4_front_64 rfl (lv_at hl 7 rfl) ?_
    refine lv_iload hx hb dX4_front_65 (lv_at hl 1 rfl) ?_
    refine va_iald hx hb hK hP 1 1 rfl rfl (vp_in_nI (by omega) (by omega)) dX4_front_67 ?_
    refine lv_topi (fun g0 hg0 => ?_)
    have hg0 : g0 = f 0 := hg0.trans (congrArg f (nI_clamp (by omega)))
    refine va_iald hx hb hK hP 0 0 rfl rfl (by rw [hg0]; exact hok 0 (by omega)) dX4_front_68 ?_
    refine lv_topi (fun G0 hG0 => ?_)
    refine lv_icmp_ne (tgt := 109) hx hb dX4_front_69 (by decide) (fun c69 => absurd c69 (fun q => q (by rw [hE9, hG0, he9, hg0]))) (fun c69 => ?_)
    refine lv_aload_n hx hb dX4_front_72 rfl (lv_at hl 9 rfl) ?_
    refine lv_iload hx hb dX4_front_73 (lv_at hl 4 rfl) ?_
    refine lv_iinc (v := (nI 1)) (lv' := [(5, .int (nI 1)), (6, .int (-1)), (9, .int (nI 0)), (8, .int (nI 1)), (7, .int (nI 1)), (4, .int E9), (0, .ref av), (1, .ref ah), (2, .int (nI n)), (3, .ref az)]) hx hb dX4_front_75 hl (k := 4) rfl (by decide +kernel) (by decide) rfl (fun ls hl => ?_)
    refine lv_aload_n hx hb dX4_front_78 rfl (lv_at hl 7 rfl) ?_
    refine lv_iload hx hb dX4_front_79 (lv_at hl 2 rfl) ?_
    refine va_iald hx hb hK hP 1 1 rfl rfl (vp_in_nI (by omega) (by omega)) dX4_front_81 ?_
    refine lv_topi (fun k9 hk9 => ?_)
    have hk9 : k9 = f 0 := hk9.trans (congrArg f (nI_clamp (by omega)))
    refine va_iast hx hb hK hP hD hS 2 2 rfl rfl (vp_in_nI (by omega) (by omega)) dX4_front_82 (fun H locs hP hD hS => ?_)
    rw [nI_clamp (n := 0) (by omega)] at hP hD
    rw [show upd z 0 k9 = upd z 0 (f 0) from by rw [hk9]] at hP hD
    have hP : va_P (dC, dI) vwCl [(av, .inl (dV, 64, .inl v)), (ah, .inl (dH, 64, .inl f)), (az, .inl (dZ, 64, .inl (upd z 0 (f 0))))] H := hP
    have hD : va_D A [(av, .inl (dV, 64, .inl v)), (ah, .inl (dH, 64, .inl f)), (az, .inl (dZ, 64, .inl (upd z 0 (f 0))))] := hD
    refine lv_iload hx hb dX4_front_83 (lv_at hl 1 rfl) ?_
    refine lv_iconst (v := (-1)) hx hb dX4_front_85 (by decide +kernel) ?_
    refine lv_icmp_ne (tgt := 97) hx hb dX4_front_86 (by decide) (fun c86 => absurd c86 (fun q => q rfl)) (fun c86 => ?_)
    refine lv_iload hx hb dX4_front_89 (lv_at hl 2 rfl) ?_
    refine lv_iconst (v := 2) hx hb dX4_front_91 (by decide +kernel) ?_
    refine lv_imul hx hb dX4_front_92 ?_
    refine lv_topi (fun y_3 ey_3 => ?_)
    obtain rfl : y_3 = nI 0 := ey_3.trans (by decide +kernel)
    refine lv_iconst (v := 1) hx hb dX4_front_93 (by decide +kernel) ?_
    refine lv_iadd hx hb dX4_front_94 ?_
    refine lv_topi (fun y_4 ey_4 => ?_)
    obtain rfl : y_4 = nI 1 := ey_4.trans (by decide +kernel)
    refine lv_istore (lv' := [(6, .int (nI 1)), (5, .int (nI 1)), (9, .int (nI 0)), (8, .int (nI 1)), (7, .int (nI 1)), (4, .int E9), (0, .ref av), (1, .ref ah), (2, .int (nI n)), (3, .ref az)]) hx hb dX4_front_95 hl (by decide) rfl (fun ls hl => ?_)
    refine lv_iload_n hx hb dX4_front_97 rfl (lv_at hl 8 rfl) ?_
    refine lv_iload hx hb dX4_front_98 (lv_at hl 2 rfl) ?_
    refine lv_iconst (v := 2) hx hb dX4_front_100 (by decide +kernel) ?_
    refine lv_imul hx hb dX4_front_101 ?_
    refine lv_topi (fun y_5 ey_5 => ?_)
    obtain rfl : y_5 = nI 0 := ey_5.trans (by decide +kernel)
    refine lv_iconst (v := 3) hx hb dX4_front_102 (by decide +kernel) ?_
    refine lv_iadd hx hb dX4_front_103 ?_
    refine lv_topi (fun y_6 ey_6 => ?_)
    obtain rfl : y_6 = nI 3 := ey_6.trans (by decide +kernel)
    refine va_mmin hx hb (by rw [hml]; exact hl.1.symm) hown (hts _ q236) (hts _ q237) (hts _ q11) (hts _ q238) (Nat.le_of_ble_eq_true rfl) (Nat.le_of_ble_eq_true rfl) (Nat.le_of_ble_eq_true rfl) (Nat.le_of_ble_eq_true rfl) dX4_front_104 ?_
    refine lv_topi (fun y_7 ey_7 => ?_)
    obtain rfl : y_7 = nI 1 := ey_7.trans (by rw [hq]; decide +kernel)
    refine lv_istore (lv' := [(7, .int (nI 1)), (6, .int (nI 1)), (5, .int (nI 1)), (9, .int (nI 0)), (8, .int (nI 1)), (4, .int E9), (0, .ref av), (1, .ref ah), (2, .int (nI n)), (3, .ref az)]) hx hb dX4_front_107 hl (by decide) rfl (fun ls hl => ?_)
    refine lv_iinc (v := (nI 1)) (lv' := [(9, .int (nI 1)), (7, .int (nI 1)), (6, .int (nI 1)), (5, .int (nI 1)), (8, .int (nI 1)), (4, .int E9), (0, .ref av), (1, .ref ah), (2, .int (nI n)), (3, .ref az)]) hx hb dX4_front_109 hl (k := 3) rfl (by decide +kernel) (by decide) rfl (fun ls hl => ?_)
    refine lv_goto (tgt := 22) hx hb dX4_front_112 (by decide) ?_
    refine lv_iload hx hb dX4_front_22 (lv_at hl 0 rfl) ?_
    refine lv_iload hx hb dX4_front_24 (lv_at hl 1 rfl) ?_
    refine lv_icmp_ge (tgt := 115) hx hb dX4_front_26 (by decide) (fun c26 => ?_) (fun c26 => absurd (by decide +kernel) c26)
    refine lv_iload hx hb dX4_front_115 (lv_at hl 3 rfl) ?_
    have hP9 := hP.sub (ws' := [(av, .inl (dV, 64, .inl v)), (ah, .inl (dH, 64, .inl f)), (az, .inl (dZ, 64, .inl (upd z 0 (f 0))))]) [0, 1, 2] rfl
    have hD9 := hD.sub (ws' := [(av, .inl (dV, 64, .inl v)), (ah, .inl (dH, 64, .inl f)), (az, .inl (dZ, 64, .inl (upd z 0 (f 0))))]) [0, 1, 2] (by decide) rfl
    have hK9 := hK.sub (tys' := [(dV, .int), (dH, .int), (dZ, .int)]) [0, 1, 2] rfl
    exact W.iret (v := (nI 1)) hx hb hr (fun t ht hW => ⟨⟨(nI 1), (), rfl, rfl, by rw [ht]; exact hP9, va_K.moved hW.alike hK9, hD9⟩, hS.F ht⟩) hS.2.2 dX4_front_117
  · refine lv_aload_n hx hb dX4_front_0 rfl (lv_at hl 0 rfl) ?_
    refine lv_aload_n hx hb dX4_front_1 rfl (lv_at hl 1 rfl) ?_
    refine lv_iconst (v := (nI 0)) hx hb dX4_front_2 (by decide +kernel) ?_
    refine va_iald hx hb hK hP 1 1 rfl rfl (vp_in_nI (by omega) (by omega)) dX4_front_3 ?_
    refine lv_topi (fun e9 he9 => ?_)
    have he9 : e9 = f 0 := he9.trans (congrArg f (nI_clamp (by omega)))
    refine va_iald hx hb hK hP 0 0 rfl rfl (by rw [he9]; exact hok 0 hn0) dX4_front_4 ?_
    refine lv_topi (fun E9 hE9 => ?_)
    refine lv_istore (lv' := [(4, .int E9), (0, .ref av), (1, .ref ah), (2, .int (nI n)), (3, .ref az)]) hx hb dX4_front_5 hl (by decide) rfl (fun ls hl => ?_)
    refine lv_iconst (v := (nI 0)) hx hb dX4_front_7 (by decide +kernel) ?_
    refine lv_istore (lv' := [(5, .int (nI 0)), (4, .int E9), (0, .ref av), (1, .ref ah), (2, .int (nI n)), (3, .ref az)]) hx hb dX4_front_8 hl (by decide) rfl (fun ls hl => ?_)
    refine lv_iconst (v := (nI 0)) hx hb dX4_front_10 (by decide +kernel) ?_
    refine lv_istore (lv' := [(6, .int (nI 0)), (5, .int (nI 0)), (4, .int E9), (0, .ref av), (1, .ref ah), (2, .int (nI n)), (3, .ref az)]) hx hb dX4_front_11 hl (by decide) rfl (fun ls hl => ?_)
    refine lv_iconst (v := (nI 1)) hx hb dX4_front_13 (by decide +kernel) ?_
    refine lv_istore (lv' := [(7, .int (nI 1)), (6, .int (nI 0)), (5, .int (nI 0)), (4, .int E9), (0, .ref av), (1, .ref ah), (2, .int (nI n)), (3, .ref az)]) hx hb dX4_front_14 hl (by decide) rfl (fun ls hl => ?_)
    refine lv_iconst (v := (nI 0)) hx hb dX4_front_16 (by decide +kernel) ?_
    refine lv_istore (lv' := [(8, .int (nI 0)), (7, .int (nI 1)), (6, .int (nI 0)), (5, .int (nI 0)), (4, .int E9), (0, .ref av), (1, .ref ah), (2, .int (nI n)), (3, .ref az)]) hx hb dX4_front_17 hl (by decide) rfl (fun ls hl => ?_)
    refine lv_iconst (v := (nI 0)) hx hb dX4_front_19 (by decide +kernel) ?_
    refine lv_istore (lv' := [(9, .int (nI 0)), (8, .int (nI 0)), (7, .int (nI 1)), (6, .int (nI 0)), (5, .int (nI 0)), (4, .int E9), (0, .ref av), (1, .ref ah), (2, .int (nI n)), (3, .ref az)]) hx hb dX4_front_20 hl (by decide) rfl (fun ls hl => ?_)
    refine lv_iload hx hb dX4_front_22 (lv_at hl 0 rfl) ?_
    refine lv_iload hx hb dX4_front_24 (lv_at hl 2 rfl) ?_
    refine lv_icmp_ge (tgt := 115) hx hb dX4_front_26 (by decide) (fun c26 => absurd c26 (by decide +kernel)) (fun c26 => ?_)
    refine lv_iload hx hb dX4_front_29 (lv_at hl 0 rfl) ?_
    refine lv_iload hx hb dX4_front_31 (lv_at hl 1 rfl) ?_
    refine lv_icmp_ne (tgt := 61) hx hb dX4_front_33 (by decide) (fun c33 => absurd c33 (fun q => q rfl)) (fun c33 => ?_)
    refine lv_iload hx hb dX4_front_36 (lv_at hl 3 rfl) ?_
    refine lv_iload hx hb dX4_front_38 (lv_at hl 2 rfl) ?_
    refine lv_icmp_lt (tgt := 46) hx hb dX4_front_40 (by decide) (fun c40 => ?_) (fun c40 => absurd (by decide +kernel) c40)
    refine lv_iload hx hb dX4_front_46 (lv_at hl 1 rfl) ?_
    refine lv_iconst (v := 1) hx hb dX4_front_48 (by decide +kernel) ?_
    refine lv_ishl hx hb dX4_front_49 ?_
    refine lv_topi (fun y_8 ey_8 => ?_)
    obtain rfl : y_8 = nI 0 := ey_8.trans (by decide +kernel)
    refine lv_iconst (v := 1) hx hb dX4_front_50 (by decide +kernel) ?_
    refine lv_iadd hx hb dX4_front_51 ?_
    refine lv_topi (fun y_9 ey_9 => ?_)
    obtain rfl : y_9 = nI 1 := ey_9.trans (by decide +kernel)
    refine lv_istore (lv' := [(8, .int (nI 1)), (9, .int (nI 0)), (7, .int (nI 1)), (6, .int (nI 0)), (5, .int (nI 0)), (4, .int E9), (0, .ref av), (1, .ref ah), (2, .int (nI n)), (3, .ref az)]) hx hb dX4_front_52 hl (by decide) rfl (fun ls hl => ?_)
    refine lv_iload hx hb dX4_front_54 (lv_at hl 3 rfl) ?_
    refine lv_istore (lv' := [(9, .int (nI 0)), (8, .int (nI 1)), (7, .int (nI 1)), (6, .int (nI 0)), (5, .int (nI 0)), (4, .int E9), (0, .ref av), (1, .ref ah), (2, .int (nI n)), (3, .ref az)]) hx hb dX4_front_56 hl (by decide) rfl (fun ls hl => ?_)
    refine lv_iconst (v := (-1)) hx hb dX4_front_58 (by decide +kernel) ?_
    refine lv_istore (lv' := [(6, .int (-1)), (9, .int (nI 0)), (8, .int (nI 1)), (7, .int (nI 1)), (5, .int (nI 0)), (4, .int E9), (0, .ref av), (1, .ref ah), (2, .int (nI n)), (3, .ref az)]) hx hb dX4_front_59 hl (by decide) rfl (fun ls hl => ?_)
    refine lv_iload hx hb dX4_front_61 (lv_at hl 5 rfl) ?_
    refine lv_aload_n hx hb dX4_front_63 rfl (lv_at hl 6 rfl) ?_
    refine lv_aload_n hx hb dX4_front_64 rfl (lv_at hl 7 rfl) ?_
    refine lv_iload hx hb dX4_front_65 (lv_at hl 1 rfl) ?_
    refine va_iald hx hb hK hP 1 1 rfl rfl (vp_in_nI (by omega) (by omega)) dX4_front_67 ?_
    refine lv_topi (fun g0 hg0 => ?_)
    have hg0 : g0 = f 0 := hg0.trans (congrArg f (nI_clamp (by omega)))
    refine va_iald hx hb hK hP 0 0 rfl rfl (by rw [hg0]; exact hok 0 (by omega)) dX4_front_68 ?_
    refine lv_topi (fun G0 hG0 => ?_)
    refine lv_icmp_ne (tgt := 109) hx hb dX4_front_69 (by decide) (fun c69 => absurd c69 (fun q => q (by rw [hE9, hG0, he9, hg0]))) (fun c69 => ?_)
    refine lv_aload_n hx hb dX4_front_72 rfl (lv_at hl 9 rfl) ?_
    refine lv_iload hx hb dX4_front_73 (lv_at hl 4 rfl) ?_
    refine lv_iinc (v := (nI 1)) (lv' := [(5, .int (nI 1)), (6, .int (-1)), (9, .int (nI 0)), (8, .int (nI 1)), (7, .int (nI 1)), (4, .int E9), (0, .ref av), (1, .ref ah), (2, .int (nI n)), (3, .ref az)]) hx hb dX4_front_75 hl (k := 4) rfl (by decide +kernel) (by decide) rfl (fun ls hl => ?_)
    refine lv_aload_n hx hb dX4_front_78 rfl (lv_at hl 7 rfl) ?_
    refine lv_iload hx hb dX4_front_79 (lv_at hl 2 rfl) ?_
    refine va_iald hx hb hK hP 1 1 rfl rfl (vp_in_nI (by omega) (by omega)) dX4_front_81 ?_
    refine lv_topi (fun k9 hk9 => ?_)
    have hk9 : k9 = f 0 := hk9.trans (congrArg f (nI_clamp (by omega)))
    refine va_iast hx hb hK hP hD hS 2 2 rfl rfl (vp_in_nI (by omega) (by omega)) dX4_front_82 (fun H locs hP hD hS => ?_)
    rw [nI_clamp (n := 0) (by omega)] at hP hD
    rw [show upd z 0 k9 = upd z 0 (f 0) from by rw [hk9]] at hP hD
    have hP : va_P (dC, dI) vwCl [(av, .inl (dV, 64, .inl v)), (ah, .inl (dH, 64, .inl f)), (az, .inl (dZ, 64, .inl (upd z 0 (f 0))))] H := hP
    have hD : va_D A [(av, .inl (dV, 64, .inl v)), (ah, .inl (dH, 64, .inl f)), (az, .inl (dZ, 64, .inl (upd z 0 (f 0))))] := hD
    refine lv_iload hx hb dX4_front_83 (lv_at hl 1 rfl) ?_
    refine lv_iconst (v := (-1)) hx hb dX4_front_85 (by decide +kernel) ?_
    refine lv_icmp_ne (tgt := 97) hx hb dX4_front_86 (by decide) (fun c86 => absurd c86 (fun q => q rfl)) (fun c86 => ?_)
    refine lv_iload hx hb dX4_front_89 (lv_at hl 2 rfl) ?_
    refine lv_iconst (v := 2) hx hb dX4_front_91 (by decide +kernel) ?_
    refine lv_imul hx hb dX4_front_92 ?_
    refine lv_topi (fun y_10 ey_10 => ?_)
    obtain rfl : y_10 = nI 0 := ey_10.trans (by decide +kernel)
    refine lv_iconst (v := 1) hx hb dX4_front_93 (by decide +kernel) ?_
    refine lv_iadd hx hb dX4_front_94 ?_
    refine lv_topi (fun y_11 ey_11 => ?_)
    obtain rfl : y_11 = nI 1 := ey_11.trans (by decide +kernel)
    refine lv_istore (lv' := [(6, .int (nI 1)), (5, .int (nI 1)), (9, .int (nI 0)), (8, .int (nI 1)), (7, .int (nI 1)), (4, .int E9), (0, .ref av), (1, .ref ah), (2, .int (nI n)), (3, .ref az)]) hx hb dX4_front_95 hl (by decide) rfl (fun ls hl => ?_)
    refine lv_iload_n hx hb dX4_front_97 rfl (lv_at hl 8 rfl) ?_
    refine lv_iload hx hb dX4_front_98 (lv_at hl 2 rfl) ?_
    refine lv_iconst (v := 2) hx hb dX4_front_100 (by decide +kernel) ?_
    refine lv_imul hx hb dX4_front_101 ?_
    refine lv_topi (fun y_12 ey_12 => ?_)
    obtain rfl : y_12 = nI 0 := ey_12.trans (by decide +kernel)
    refine lv_iconst (v := 3) hx hb dX4_front_102 (by decide +kernel) ?_
    refine lv_iadd hx hb dX4_front_103 ?_
    refine lv_topi (fun y_13 ey_13 => ?_)
    obtain rfl : y_13 = nI 3 := ey_13.trans (by decide +kernel)
    refine va_mmin hx hb (by rw [hml]; exact hl.1.symm) hown (hts _ q236) (hts _ q237) (hts _ q11) (hts _ q238) (Nat.le_of_ble_eq_true rfl) (Nat.le_of_ble_eq_true rfl) (Nat.le_of_ble_eq_true rfl) (Nat.le_of_ble_eq_true rfl) dX4_front_104 ?_
    refine lv_topi (fun y_14 ey_14 => ?_)
    obtain rfl : y_14 = nI 2 := ey_14.trans (by rw [hq]; decide +kernel)
    refine lv_istore (lv' := [(7, .int (nI 2)), (6, .int (nI 1)), (5, .int (nI 1)), (9, .int (nI 0)), (8, .int (nI 1)), (4, .int E9), (0, .ref av), (1, .ref ah), (2, .int (nI n)), (3, .ref az)]) hx hb dX4_front_107 hl (by decide) rfl (fun ls hl => ?_)
    refine lv_iinc (v := (nI 1)) (lv' := [(9, .int (nI 1)), (7, .int (nI 2)), (6, .int (nI 1)), (5, .int (nI 1)), (8, .int (nI 1)), (4, .int E9), (0, .ref av), (1, .ref ah), (2, .int (nI n)), (3, .ref az)]) hx hb dX4_front_109 hl (k := 3) rfl (by decide +kernel) (by decide) rfl (fun ls hl => ?_)
    refine lv_goto (tgt := 22) hx hb dX4_front_112 (by decide) ?_
    refine lv_iload hx hb dX4_front_22 (lv_at hl 0 rfl) ?_
    refine lv_iload hx hb dX4_front_24 (lv_at hl 1 rfl) ?_
    refine lv_icmp_ge (tgt := 115) hx hb dX4_front_26 (by decide) (fun c26 => absurd c26 (by decide +kernel)) (fun c26 => ?_)
    refine lv_iload hx hb dX4_front_29 (lv_at hl 0 rfl) ?_
    refine lv_iload hx hb dX4_front_31 (lv_at hl 4 rfl) ?_
    refine lv_icmp_ne (tgt := 61) hx hb dX4_front_33 (by decide) (fun c33 => absurd c33 (fun q => q rfl)) (fun c33 => ?_)
    refine lv_iload hx hb dX4_front_36 (lv_at hl 2 rfl) ?_
    refine lv_iload hx hb dX4_front_38 (lv_at hl 1 rfl) ?_
    refine lv_icmp_lt (tgt := 46) hx hb dX4_front_40 (by decide) (fun c40 => ?_) (fun c40 => absurd (by decide +kernel) c40)
    refine lv_iload hx hb dX4_front_46 (lv_at hl 4 rfl) ?_
    refine lv_iconst (v := 1) hx hb dX4_front_48 (by decide +kernel) ?_
    refine lv_ishl hx hb dX4_front_49 ?_
    refine lv_topi (fun y_15 ey_15 => ?_)
    obtain rfl : y_15 = nI 2 := ey_15.trans (by decide +kernel)
    refine lv_iconst (v := 1) hx hb dX4_front_50 (by decide +kernel) ?_
    refine lv_iadd hx hb dX4_front_51 ?_
    refine lv_topi (fun y_16 ey_16 => ?_)
    obtain rfl : y_16 = nI 3 := ey_16.trans (by decide +kernel)
    refine lv_istore (lv' := [(8, .int (nI 3)), (9, .int (nI 1)), (7, .int (nI 2)), (6, .int (nI 1)), (5, .int (nI 1)), (4, .int E9), (0, .ref av), (1, .ref ah), (2, .int (nI n)), (3, .ref az)]) hx hb dX4_front_52 hl (by decide) rfl (fun ls hl => ?_)
    refine lv_iload hx hb dX4_front_54 (lv_at hl 3 rfl) ?_
    refine lv_istore (lv' := [(9, .int (nI 1)), (8, .int (nI 3)), (7, .int (nI 2)), (6, .int (nI 1)), (5, .int (nI 1)), (4, .int E9), (0, .ref av), (1, .ref ah), (2, .int (nI n)), (3, .ref az)]) hx hb dX4_front_56 hl (by decide) rfl (fun ls hl => ?_)
    refine lv_iconst (v := (-1)) hx hb dX4_front_58 (by decide +kernel) ?_
    refine lv_istore (lv' := [(6, .int (-1)), (9, .int (nI 1)), (8, .int (nI 3)), (7, .int (nI 2)), (5, .int (nI 1)), (4, .int E9), (0, .ref av), (1, .ref ah), (2, .int (nI n)), (3, .ref az)]) hx hb dX4_front_59 hl (by decide) rfl (fun ls hl => ?_)
    refine lv_iload hx hb dX4_front_61 (lv_at hl 5 rfl) ?_
    refine lv_aload_n hx hb dX4_front_63 rfl (lv_at hl 6 rfl) ?_
    refine lv_aload_n hx hb dX4_front_64 rfl (lv_at hl 7 rfl) ?_
    refine lv_iload hx hb dX4_front_65 (lv_at hl 1 rfl) ?_
    refine va_iald hx hb hK hP 1 1 rfl rfl (vp_in_nI (by omega) (by omega)) dX4_front_67 ?_
    refine lv_topi (fun g1 hg1 => ?_)
    have hg1 : g1 = f 1 := hg1.trans (congrArg f (nI_clamp (by omega)))
    refine va_iald hx hb hK hP 0 0 rfl rfl (by rw [hg1]; exact hok 1 (by omega)) dX4_front_68 ?_
    refine lv_topi (fun G1 hG1 => ?_)
    refine lv_icmp_ne (tgt := 109) hx hb dX4_front_69 (by decide) (fun c69 => ?_) (fun c69 => absurd c69 (by rw [hE9, hG1, he9, hg1]; exact hne 1 (by omega) (by omega)))
    refine lv_iinc (v := (nI 2)) (lv' := [(9, .int (nI 2)), (6, .int (-1)), (8, .int (nI 3)), (7, .int (nI 2)), (5, .int (nI 1)), (4, .int E9), (0, .ref av), (1, .ref ah), (2, .int (nI n)), (3, .ref az)]) hx hb dX4_front_109 hl (k := 1) rfl (by decide +kernel) (by decide) rfl (fun ls hl => ?_)
    refine lv_goto (tgt := 22) hx hb dX4_front_112 (by decide) ?_
    refine lv_iload hx hb dX4_front_22 (lv_at hl 0 rfl) ?_
    refine lv_iload hx hb dX4_front_24 (lv_at hl 3 rfl) ?_
    refine lv_icmp_ge (tgt := 115) hx hb dX4_front_26 (by decide) (fun c26 => ?_) (fun c26 => absurd (by decide +kernel) c26)
    refine lv_iload hx hb dX4_front_115 (lv_at hl 4 rfl) ?_
    have hP9 := hP.sub (ws' := [(av, .inl (dV, 64, .inl v)), (ah, .inl (dH, 64, .inl f)), (az, .inl (dZ, 64, .inl (upd z 0 (f 0))))]) [0, 1, 2] rfl
    have hD9 := hD.sub (ws' := [(av, .inl (dV, 64, .inl v)), (ah, .inl (dH, 64, .inl f)), (az, .inl (dZ, 64, .inl (upd z 0 (f 0))))]) [0, 1, 2] (by decide) rfl
    have hK9 := hK.sub (tys' := [(dV, .int), (dH, .int), (dZ, .int)]) [0, 1, 2] rfl
    exact W.iret (v := (nI 1)) hx hb hr (fun t ht hW => ⟨⟨(nI 1), (), rfl, rfl, by rw [ht]; exact hP9, va_K.moved hW.alike hK9, hD9⟩, hS.F ht⟩) hS.2.2 dX4_front_117
  · refine lv_aload_n hx hb dX4_front_0 rfl (lv_at hl 0 rfl) ?_
    refine lv_aload_n hx hb dX4_front_1 rfl (lv_at hl 1 rfl) ?_
    refine lv_iconst (v := (nI 0)) hx hb dX4_front_2 (by decide +kernel) ?_
    refine va_iald hx hb hK hP 1 1 rfl rfl (vp_in_nI (by omega) (by omega)) dX4_front_3 ?_
    refine lv_topi (fun e9 he9 => ?_)
    have he9 : e9 = f 0 := he9.trans (congrArg f (nI_clamp (by omega)))
    refine va_iald hx hb hK hP 0 0 rfl rfl (by rw [he9]; exact hok 0 hn0) dX4_front_4 ?_
    refine lv_topi (fun E9 hE9 => ?_)
    refine lv_istore (lv' := [(4, .int E9), (0, .ref av), (1, .ref ah), (2, .int (nI n)), (3, .ref az)]) hx hb dX4_front_5 hl (by decide) rfl (fun ls hl => ?_)
    refine lv_iconst (v := (nI 0)) hx hb dX4_front_7 (by decide +kernel) ?_
    refine lv_istore (lv' := [(5, .int (nI 0)), (4, .int E9), (0, .ref av), (1, .ref ah), (2, .int (nI n)), (3, .ref az)]) hx hb dX4_front_8 hl (by decide) rfl (fun ls hl => ?_)
    refine lv_iconst (v := (nI 0)) hx hb dX4_front_10 (by decide +kernel) ?_
    refine lv_istore (lv' := [(6, .int (nI 0)), (5, .int (nI 0)), (4, .int E9), (0, .ref av), (1, .ref ah), (2, .int (nI n)), (3, .ref az)]) hx hb dX4_front_11 hl (by decide) rfl (fun ls hl => ?_)
    refine lv_iconst (v := (nI 1)) hx hb dX4_front_13 (by decide +kernel) ?_
    refine lv_istore (lv' := [(7, .int (nI 1)), (6, .int (nI 0)), (5, .int (nI 0)), (4, .int E9), (0, .ref av), (1, .ref ah), (2, .int (nI n)), (3, .ref az)]) hx hb dX4_front_14 hl (by decide) rfl (fun ls hl => ?_)
    refine lv_iconst (v := (nI 0)) hx hb dX4_front_16 (by decide +kernel) ?_
    refine lv_istore (lv' := [(8, .int (nI 0)), (7, .int (nI 1)), (6, .int (nI 0)), (5, .int (nI 0)), (4, .int E9), (0, .ref av), (1, .ref ah), (2, .int (nI n)), (3, .ref az)]) hx hb dX4_front_17 hl (by decide) rfl (fun ls hl => ?_)
    refine lv_iconst (v := (nI 0)) hx hb dX4_front_19 (by decide +kernel) ?_
    refine lv_istore (lv' := [(9, .int (nI 0)), (8, .int (nI 0)), (7, .int (nI 1)), (6, .int (nI 0)), (5, .int (nI 0)), (4, .int E9), (0, .ref av), (1, .ref ah), (2, .int (nI n)), (3, .ref az)]) hx hb dX4_front_20 hl (by decide) rfl (fun ls hl => ?_)
    refine lv_iload hx hb dX4_front_22 (lv_at hl 0 rfl) ?_
    refine lv_iload hx hb dX4_front_24 (lv_at hl 2 rfl) ?_
    refine lv_icmp_ge (tgt := 115) hx hb dX4_front_26 (by decide) (fun c26 => absurd c26 (by decide +kernel)) (fun c26 => ?_)
    refine lv_iload hx hb dX4_front_29 (lv_at hl 0 rfl) ?_
    refine lv_iload hx hb dX4_front_31 (lv_at hl 1 rfl) ?_
    refine lv_icmp_ne (tgt := 61) hx hb dX4_front_33 (by decide) (fun c33 => absurd c33 (fun q => q rfl)) (fun c33 => ?_)
    refine lv_iload hx hb dX4_front_36 (lv_at hl 3 rfl) ?_
    refine lv_iload hx hb dX4_front_38 (lv_at hl 2 rfl) ?_
    refine lv_icmp_lt (tgt := 46) hx hb dX4_front_40 (by decide) (fun c40 => ?_) (fun c40 => absurd (by decide +kernel) c40)
    refine lv_iload hx hb dX4_front_46 (lv_at hl 1 rfl) ?_
    refine lv_iconst (v := 1) hx hb dX4_front_48 (by decide +kernel) ?_
    refine lv_ishl hx hb dX4_front_49 ?_
    refine lv_topi (fun y_17 ey_17 => ?_)
    obtain rfl : y_17 = nI 0 := ey_17.trans (by decide +kernel)
    refine lv_iconst (v := 1) hx hb dX4_front_50 (by decide +kernel) ?_
    refine lv_iadd hx hb dX4_front_51 ?_
    refine lv_topi (fun y_18 ey_18 => ?_)
    obtain rfl : y_18 = nI 1 := ey_18.trans (by decide +kernel)
    refine lv_istore (lv' := [(8, .int (nI 1)), (9, .int (nI 0)), (7, .int (nI 1)), (6, .int (nI 0)), (5, .int (nI 0)), (4, .int E9), (0, .ref av), (1, .ref ah), (2, .int (nI n)), (3, .ref az)]) hx hb dX4_front_52 hl (by decide) rfl (fun ls hl => ?_)
    refine lv_iload hx hb dX4_front_54 (lv_at hl 3 rfl) ?_
    refine lv_istore (lv' := [(9, .int (nI 0)), (8, .int (nI 1)), (7, .int (nI 1)), (6, .int (nI 0)), (5, .int (nI 0)), (4, .int E9), (0, .ref av), (1, .ref ah), (2, .int (nI n)), (3, .ref az)]) hx hb dX4_front_56 hl (by decide) rfl (fun ls hl => ?_)
    refine lv_iconst (v := (-1)) hx hb dX4_front_58 (by decide +kernel) ?_
    refine lv_istore (lv' := [(6, .int (-1)), (9, .int (nI 0)), (8, .int (nI 1)), (7, .int (nI 1)), (5, .int (nI 0)), (4, .int E9), (0, .ref av), (1, .ref ah), (2, .int (nI n)), (3, .ref az)]) hx hb dX4_front_59 hl (by decide) rfl (fun ls hl => ?_)
    refine lv_iload hx hb dX4_front_61 (lv_at hl 5 rfl) ?_
    refine lv_aload_n hx hb dX4_front_63 rfl (lv_at hl 6 rfl) ?_
    refine lv_aload_n hx hb dX4_front_64 rfl (lv_at hl 7 rfl) ?_
    refine lv_iload hx hb dX4_front_65 (lv_at hl 1 rfl) ?_
    refine va_iald hx hb hK hP 1 1 rfl rfl (vp_in_nI (by omega) (by omega)) dX4_front_67 ?_
    refine lv_topi (fun g0 hg0 => ?_)
    have hg0 : g0 = f 0 := hg0.trans (congrArg f (nI_clamp (by omega)))
    refine va_iald hx hb hK hP 0 0 rfl rfl (by rw [hg0]; exact hok 0 (by omega)) dX4_front_68 ?_
    refine lv_topi (fun G0 hG0 => ?_)
    refine lv_icmp_ne (tgt := 109) hx hb dX4_front_69 (by decide) (fun c69 => absurd c69 (fun q => q (by rw [hE9, hG0, he9, hg0]))) (fun c69 => ?_)
    refine lv_aload_n hx hb dX4_front_72 rfl (lv_at hl 9 rfl) ?_
    refine lv_iload hx hb dX4_front_73 (lv_at hl 4 rfl) ?_
    refine lv_iinc (v := (nI 1)) (lv' := [(5, .int (nI 1)), (6, .int (-1)), (9, .int (nI 0)), (8, .int (nI 1)), (7, .int (nI 1)), (4, .int E9), (0, .ref av), (1, .ref ah), (2, .int (nI n)), (3, .ref az)]) hx hb dX4_front_75 hl (k := 4) rfl (by decide +kernel) (by decide) rfl (fun ls hl => ?_)
    refine lv_aload_n hx hb dX4_front_78 rfl (lv_at hl 7 rfl) ?_
    refine lv_iload hx hb dX4_front_79 (lv_at hl 2 rfl) ?_
    refine va_iald hx hb hK hP 1 1 rfl rfl (vp_in_nI (by omega) (by omega)) dX4_front_81 ?_
    refine lv_topi (fun k9 hk9 => ?_)
    have hk9 : k9 = f 0 := hk9.trans (congrArg f (nI_clamp (by omega)))
    refine va_iast hx hb hK hP hD hS 2 2 rfl rfl (vp_in_nI (by omega) (by omega)) dX4_front_82 (fun H locs hP hD hS => ?_)
    rw [nI_clamp (n := 0) (by omega)] at hP hD
    rw [show upd z 0 k9 = upd z 0 (f 0) from by rw [hk9]] at hP hD
    have hP : va_P (dC, dI) vwCl [(av, .inl (dV, 64, .inl v)), (ah, .inl (dH, 64, .inl f)), (az, .inl (dZ, 64, .inl (upd z 0 (f 0))))] H := hP
    have hD : va_D A [(av, .inl (dV, 64, .inl v)), (ah, .inl (dH, 64, .inl f)), (az, .inl (dZ, 64, .inl (upd z 0 (f 0))))] := hD
    refine lv_iload hx hb dX4_front_83 (lv_at hl 1 rfl) ?_
    refine lv_iconst (v := (-1)) hx hb dX4_front_85 (by decide +kernel) ?_
    refine lv_icmp_ne (tgt := 97) hx hb dX4_front_86 (by decide) (fun c86 => absurd c86 (fun q => q rfl)) (fun c86 => ?_)
    refine lv_iload hx hb dX4_front_89 (lv_at hl 2 rfl) ?_
    refine lv_iconst (v := 2) hx hb dX4_front_91 (by decide +kernel) ?_
    refine lv_imul hx hb dX4_front_92 ?_
    refine lv_topi (fun y_19 ey_19 => ?_)
    obtain rfl : y_19 = nI 0 := ey_19.trans (by decide +kernel)
    refine lv_iconst (v := 1) hx hb dX4_front_93 (by decide +kernel) ?_
    refine lv_iadd hx hb dX4_front_94 ?_
    refine lv_topi (fun y_20 ey_20 => ?_)
    obtain rfl : y_20 = nI 1 := ey_20.trans (by decide +kernel)
    refine lv_istore (lv' := [(6, .int (nI 1)), (5, .int (nI 1)), (9, .int (nI 0)), (8, .int (nI 1)), (7, .int (nI 1)), (4, .int E9), (0, .ref av), (1, .ref ah), (2, .int (nI n)), (3, .ref az)]) hx hb dX4_front_95 hl (by decide) rfl (fun ls hl => ?_)
    refine lv_iload_n hx hb dX4_front_97 rfl (lv_at hl 8 rfl) ?_
    refine lv_iload hx hb dX4_front_98 (lv_at hl 2 rfl) ?_
    refine lv_iconst (v := 2) hx hb dX4_front_100 (by decide +kernel) ?_
    refine lv_imul hx hb dX4_front_101 ?_
    refine lv_topi (fun y_21 ey_21 => ?_)
    obtain rfl : y_21 = nI 0 := ey_21.trans (by decide +kernel)
    refine lv_iconst (v := 3) hx hb dX4_front_102 (by decide +kernel) ?_
    refine lv_iadd hx hb dX4_front_103 ?_
    refine lv_topi (fun y_22 ey_22 => ?_)
    obtain rfl : y_22 = nI 3 := ey_22.trans (by decide +kernel)
    refine va_mmin hx hb (by rw [hml]; exact hl.1.symm) hown (hts _ q236) (hts _ q237) (hts _ q11) (hts _ q238) (Nat.le_of_ble_eq_true rfl) (Nat.le_of_ble_eq_true rfl) (Nat.le_of_ble_eq_true rfl) (Nat.le_of_ble_eq_true rfl) dX4_front_104 ?_
    refine lv_topi (fun y_23 ey_23 => ?_)
    obtain rfl : y_23 = nI 3 := ey_23.trans (by
          by_cases hq3 : nI 3 < nI n
          · exact if_pos hq3
          · rw [if_neg hq3, show n = 3 from Nat.le_antisymm (Nat.le_of_not_lt (fun z9 => hq3 (nI_lt z9 (by omega)))) hq])
    refine lv_istore (lv' := [(7, .int (nI 3)), (6, .int (nI 1)), (5, .int (nI 1)), (9, .int (nI 0)), (8, .int (nI 1)), (4, .int E9), (0, .ref av), (1, .ref ah), (2, .int (nI n)), (3, .ref az)]) hx hb dX4_front_107 hl (by decide) rfl (fun ls hl => ?_)
    refine lv_iinc (v := (nI 1)) (lv' := [(9, .int (nI 1)), (7, .int (nI 3)), (6, .int (nI 1)), (5, .int (nI 1)), (8, .int (nI 1)), (4, .int E9), (0, .ref av), (1, .ref ah), (2, .int (nI n)), (3, .ref az)]) hx hb dX4_front_109 hl (k := 3) rfl (by decide +kernel) (by decide) rfl (fun ls hl => ?_)
    refine lv_goto (tgt := 22) hx hb dX4_front_112 (by decide) ?_
    refine lv_iload hx hb dX4_front_22 (lv_at hl 0 rfl) ?_
    refine lv_iload hx hb dX4_front_24 (lv_at hl 1 rfl) ?_
    refine lv_icmp_ge (tgt := 115) hx hb dX4_front_26 (by decide) (fun c26 => absurd c26 (by decide +kernel)) (fun c26 => ?_)
    refine lv_iload hx hb dX4_front_29 (lv_at hl 0 rfl) ?_
    refine lv_iload hx hb dX4_front_31 (lv_at hl 4 rfl) ?_
    refine lv_icmp_ne (tgt := 61) hx hb dX4_front_33 (by decide) (fun c33 => absurd c33 (fun q => q rfl)) (fun c33 => ?_)
    refine lv_iload hx hb dX4_front_36 (lv_at hl 2 rfl) ?_
    refine lv_iload hx hb dX4_front_38 (lv_at hl 1 rfl) ?_
    refine lv_icmp_lt (tgt := 46) hx hb dX4_front_40 (by decide) (fun c40 => ?_) (fun c40 => absurd (by decide +kernel) c40)
    refine lv_iload hx hb dX4_front_46 (lv_at hl 4 rfl) ?_
    refine lv_iconst (v := 1) hx hb dX4_front_48 (by decide +kernel) ?_
    refine lv_ishl hx hb dX4_front_49 ?_
    refine lv_topi (fun y_24 ey_24 => ?_)
    obtain rfl : y_24 = nI 2 := ey_24.trans (by decide +kernel)
    refine lv_iconst (v := 1) hx hb dX4_front_50 (by decide +kernel) ?_
    refine lv_iadd hx hb dX4_front_51 ?_
    refine lv_topi (fun y_25 ey_25 => ?_)
    obtain rfl : y_25 = nI 3 := ey_25.trans (by decide +kernel)
    refine lv_istore (lv' := [(8, .int (nI 3)), (9, .int (nI 1)), (7, .int (nI 3)), (6, .int (nI 1)), (5, .int (nI 1)), (4, .int E9), (0, .ref av), (1, .ref ah), (2, .int (nI n)), (3, .ref az)]) hx hb dX4_front_52 hl (by decide) rfl (fun ls hl => ?_)
    refine lv_iload hx hb dX4_front_54 (lv_at hl 3 rfl) ?_
    refine lv_istore (lv' := [(9, .int (nI 1)), (8, .int (nI 3)), (7, .int (nI 3)), (6, .int (nI 1)), (5, .int (nI 1)), (4, .int E9), (0, .ref av), (1, .ref ah), (2, .int (nI n)), (3, .ref az)]) hx hb dX4_front_56 hl (by decide) rfl (fun ls hl => ?_)
    refine lv_iconst (v := (-1)) hx hb dX4_front_58 (by decide +kernel) ?_
    refine lv_istore (lv' := [(6, .int (-1)), (9, .int (nI 1)), (8, .int (nI 3)), (7, .int (nI 3)), (5, .int (nI 1)), (4, .int E9), (0, .ref av), (1, .ref ah), (2, .int (nI n)), (3, .ref az)]) hx hb dX4_front_59 hl (by decide) rfl (fun ls hl => ?_)
    refine lv_iload hx hb dX4_front_61 (lv_at hl 5 rfl) ?_
    refine lv_aload_n hx hb dX4_front_63 rfl (lv_at hl 6 rfl) ?_
    refine lv_aload_n hx hb dX4_front_64 rfl (lv_at hl 7 rfl) ?_
    refine lv_iload hx hb dX4_front_65 (lv_at hl 1 rfl) ?_
    refine va_iald hx hb hK hP 1 1 rfl rfl (vp_in_nI (by omega) (by omega)) dX4_front_67 ?_
    refine lv_topi (fun g1 hg1 => ?_)
    have hg1 : g1 = f 1 := hg1.trans (congrArg f (nI_clamp (by omega)))
    refine va_iald hx hb hK hP 0 0 rfl rfl (by rw [hg1]; exact hok 1 (by omega)) dX4_front_68 ?_
    refine lv_topi (fun G1 hG1 => ?_)
    refine lv_icmp_ne (tgt := 109) hx hb dX4_front_69 (by decide) (fun c69 => ?_) (fun c69 => absurd c69 (by rw [hE9, hG1, he9, hg1]; exact hne 1 (by omega) (by omega)))
    refine lv_iinc (v := (nI 2)) (lv' := [(9, .int (nI 2)), (6, .int (-1)), (8, .int (nI 3)), (7, .int (nI 3)), (5, .int (nI 1)), (4, .int E9), (0, .ref av), (1, .ref ah), (2, .int (nI n)), (3, .ref az)]) hx hb dX4_front_109 hl (k := 1) rfl (by decide +kernel) (by decide) rfl (fun ls hl => ?_)
    refine lv_goto (tgt := 22) hx hb dX4_front_112 (by decide) ?_
    refine lv_iload hx hb dX4_front_22 (lv_at hl 0 rfl) ?_
    refine lv_iload hx hb dX4_front_24 (lv_at hl 3 rfl) ?_
    refine lv_icmp_ge (tgt := 115) hx hb dX4_front_26 (by decide) (fun c26 => absurd c26 (by decide +kernel)) (fun c26 => ?_)
    refine lv_iload hx hb dX4_front_29 (lv_at hl 0 rfl) ?_
    refine lv_iload hx hb dX4_front_31 (lv_at hl 2 rfl) ?_
    refine lv_icmp_ne (tgt := 61) hx hb dX4_front_33 (by decide) (fun c33 => ?_) (fun c33 => absurd c33 (by decide +kernel))
    refine lv_iload hx hb dX4_front_61 (lv_at hl 5 rfl) ?_
    refine lv_aload_n hx hb dX4_front_63 rfl (lv_at hl 6 rfl) ?_
    refine lv_aload_n hx hb dX4_front_64 rfl (lv_at hl 7 rfl) ?_
    refine lv_iload hx hb dX4_front_65 (lv_at hl 0 rfl) ?_
    refine va_iald hx hb hK hP 1 1 rfl rfl (vp_in_nI (by omega) (by omega)) dX4_front_67 ?_
    refine lv_topi (fun g2 hg2 => ?_)
    have hg2 : g2 = f 2 := hg2.trans (congrArg f (nI_clamp (by omega)))
    refine va_iald hx hb hK hP 0 0 rfl rfl (by rw [hg2]; exact hok 2 (by omega)) dX4_front_68 ?_
    refine lv_topi (fun G2 hG2 => ?_)
    refine lv_icmp_ne (tgt := 109) hx hb dX4_front_69 (by decide) (fun c69 => ?_) (fun c69 => absurd c69 (by rw [hE9, hG2, he9, hg2]; exact hne 2 (by omega) (by omega)))
    refine lv_iinc (v := (nI 3)) (lv' := [(9, .int (nI 3)), (6, .int (-1)), (8, .int (nI 3)), (7, .int (nI 3)), (5, .int (nI 1)), (4, .int E9), (0, .ref av), (1, .ref ah), (2, .int (nI n)), (3, .ref az)]) hx hb dX4_front_109 hl (k := 0) rfl (by decide +kernel) (by decide) rfl (fun ls hl => ?_)
    refine lv_goto (tgt := 22) hx hb dX4_front_112 (by decide) ?_
    refine lv_iload hx hb dX4_front_22 (lv_at hl 0 rfl) ?_
    refine lv_iload hx hb dX4_front_24 (lv_at hl 3 rfl) ?_
    refine lv_icmp_ge (tgt := 115) hx hb dX4_front_26 (by decide) (fun c26 => ?_) (fun c26 => absurd (by decide +kernel) c26)
    refine lv_iload hx hb dX4_front_115 (lv_at hl 4 rfl) ?_
    have hP9 := hP.sub (ws' := [(av, .inl (dV, 64, .inl v)), (ah, .inl (dH, 64, .inl f)), (az, .inl (dZ, 64, .inl (upd z 0 (f 0))))]) [0, 1, 2] rfl
    have hD9 := hD.sub (ws' := [(av, .inl (dV, 64, .inl v)), (ah, .inl (dH, 64, .inl f)), (az, .inl (dZ, 64, .inl (upd z 0 (f 0))))]) [0, 1, 2] (by decide) rfl
    have hK9 := hK.sub (tys' := [(dV, .int), (dH, .int), (dZ, .int)]) [0, 1, 2] rfl
    exact W.iret (v := (nI 1)) hx hb hr (fun t ht hW => ⟨⟨(nI 1), (), rfl, rfl, by rw [ht]; exact hP9, va_K.moved hW.alike hK9, hD9⟩, hS.F ht⟩) hS.2.2 dX4_front_117
end
section
/-! IntHeapSemiIndirectPriorityQueue -/
set_option maxHeartbeats 4000000 in
set_option maxRecDepth 100000 in
/-- size() -/
theorem metX1_size (l : Launch) (dC : Nat → ClassId) (dI : Nat → Nat → Nat) (aq : Nat) (av : Nat) (ah : Nat) (sn : Int32) (sz : Nat)  : Met l yX1_size (ws_ yX1_size cX1_size 1 (some .int)) ({ frames := 0, cells := 0, slots := 0, locals := 0 }) (va_Pc [.ref aq] (fun U => U.heap.size = sz ∧ va_P (dC, dI) vwCl [(aq, .inr (1, [.ref av, .ref ah, .int sn, .null]))] U.heap ∧ va_K (dC, dI) vwCl [] U ∧ va_D (fun _ => True) [(aq, .inr (1, [.ref av, .ref ah, .int sn, .null]))])) (va_Qi (fun (r : Int32) (u : Unit) => r = sn) (fun (u : Unit) (t : State) => va_P (dC, dI) vwCl [(aq, .inr (1, [.ref av, .ref ah, .int sn, .null]))] t.heap ∧ va_K (dC, dI) vwCl [] t ∧ va_D (va_A [(aq, .inr (1, [.ref av, .ref ah, .int sn, .null]))] sz) [(aq, .inr (1, [.ref av, .ref ah, .int sn, .null]))]) (va_A [(aq, .inr (1, [.ref av, .ref ah, .int sn, .null]))] sz)) 0 0 (va_A [(aq, .inr (1, [.ref av, .ref ah, .int sn, .null]))] sz) := by
  refine Met.ofW (cc := cX1_size) (maxL := 1) (ret := (some .int)) (by decide) rfl ?_
  intro p e s m args below meth c s₁ B hml hvv
  obtain ⟨rfl, hsz, hP, hK, hD0⟩ := hvv
  have hx := B.exec
  have hb := B.bytes
  have hr := B.returns
  have hts := atoms_spec (ws := (ws_ yX1_size cX1_size 1 (some .int))) B.pre
  have hts : ∀ w ∈ lw_all, w.before _ s = true := fun w h => hts w (List.mem_cons_of_mem _ h)
  have hown : s.vm.findClass RX1 = some m.cls := findClass_of_methodNamed B.named
  have hlocks := B.notSynchronized
  subst hsz
  have hD := hD0.self (sz := s.heap.size)
  generalize hAe : va_A [(aq, .inr (1, [.ref av, .ref ah, .int sn, .null]))] s.heap.size = A at hD ⊢
  have hA : ∀ q : Nat, s.heap.size ≤ q → A q := fun q h => by rw [← hAe]; exact Or.inr h
  have hS : va_S A s.heap s.heap [] := va_S.rf
  have hP : va_P (dC, dI) vwCl [(aq, .inr (1, [.ref av, .ref ah, .int sn, .null]))] s.heap := hP
  have hl := lv_entry ([.ref aq]) (n := 1) (Nat.le_of_ble_eq_true rfl)
  rw [lg_entry_eq]
  generalize (lg_sl ([.ref aq]) ++ List.replicate (1 - (lg_sl ([.ref aq])).length) Slot.unset).toArray = ls at hl ⊢
  have hl : lv_has ls 1 [(0, .ref aq)] := hl
  refine lv_aload_n hx hb dX1_size_0 rfl (lv_at hl 0 rfl) ?_
  refine va_get (D := (dC, dI)) (ci := 1) (v := .int sn) (C := RX1) (T := TX1) (N := 4) hx hb hts in_X1 hown hK hP 0 rfl rfl 2 (by decide) (hts _ q36) (fun _ h9 => h9) rfl dX1_size_1 ?_
  have hP9 := hP.sub (ws' := [(aq, .inr (1, [.ref av, .ref ah, .int sn, .null]))]) [0] rfl
  have hD9 := hD.sub (ws' := [(aq, .inr (1, [.ref av, .ref ah, .int sn, .null]))]) [0] (by decide) rfl
  have hK9 := hK.sub (tys' := []) [] rfl
  exact W.iret (v := sn) hx hb hr (fun t ht hW => ⟨⟨sn, (), rfl, rfl, by rw [ht]; exact hP9, va_K.moved hW.alike hK9, hD9⟩, hS.F ht⟩) hS.2.2 dX1_size_4
set_option maxHeartbeats 4000000 in
set_option maxRecDepth 100000 in
/-- clear() -/
theorem metX1_clear (l : Launch) (dC : Nat → ClassId) (dI : Nat → Nat → Nat) (aq : Nat) (av : Nat) (ah : Nat) (sn : Int32) (sz : Nat)  : Met l yX1_clear (ws_ yX1_clear cX1_clear 1 none) ({ frames := 0, cells := 0, slots := 0, locals := 0 }) (va_Pc [.ref aq] (fun U => U.heap.size = sz ∧ va_P (dC, dI) vwCl [(aq, .inr (1, [.ref av, .ref ah, .int sn, .null]))] U.heap ∧ va_K (dC, dI) vwCl [] U ∧ va_D (fun _ => True) [(aq, .inr (1, [.ref av, .ref ah, .int sn, .null]))])) (va_Qv (fun (u : Unit) => True) (fun (u : Unit) (t : State) => va_P (dC, dI) vwCl [(aq, .inr (1, [.ref av, .ref ah, .int (nI 0), .null]))] t.heap ∧ va_K (dC, dI) vwCl [] t ∧ va_D (va_A [(aq, .inr (1, [.ref av, .ref ah, .int sn, .null]))] sz) [(aq, .inr (1, [.ref av, .ref ah, .int (nI 0), .null]))]) (va_A [(aq, .inr (1, [.ref av, .ref ah, .int sn, .null]))] sz)) 0 0 (va_A [(aq, .inr (1, [.ref av, .ref ah, .int sn, .null]))] sz) := by
  refine Met.ofW (cc := cX1_clear) (maxL := 1) (ret := none) (by decide) rfl ?_
  intro p e s m args below meth c s₁ B hml hvv
  obtain ⟨rfl, hsz, hP, hK, hD0⟩ := hvv
  have hx := B.exec
  have hb := B.bytes
  have hr := B.returns
  have hts := atoms_spec (ws := (ws_ yX1_clear cX1_clear 1 none)) B.pre
  have hts : ∀ w ∈ lw_all, w.before _ s = true := fun w h => hts w (List.mem_cons_of_mem _ h)
  have hown : s.vm.findClass RX1 = some m.cls := findClass_of_methodNamed B.named
  have hlocks := B.notSynchronized
  subst hsz
  have hD := hD0.self (sz := s.heap.size)
  generalize hAe : va_A [(aq, .inr (1, [.ref av, .ref ah, .int sn, .null]))] s.heap.size = A at hD ⊢
  have hA : ∀ q : Nat, s.heap.size ≤ q → A q := fun q h => by rw [← hAe]; exact Or.inr h
  have hS : va_S A s.heap s.heap [] := va_S.rf
  have hP : va_P (dC, dI) vwCl [(aq, .inr (1, [.ref av, .ref ah, .int sn, .null]))] s.heap := hP
  have hl := lv_entry ([.ref aq]) (n := 1) (Nat.le_of_ble_eq_true rfl)
  rw [lg_entry_eq]
  generalize (lg_sl ([.ref aq]) ++ List.replicate (1 - (lg_sl ([.ref aq])).length) Slot.unset).toArray = ls at hl ⊢
  have hl : lv_has ls 1 [(0, .ref aq)] := hl
  refine lv_aload_n hx hb dX1_clear_0 rfl (lv_at hl 0 rfl) ?_
  refine lv_iconst (v := (nI 0)) hx hb dX1_clear_1 (by decide +kernel) ?_
  refine va_put (D := (dC, dI)) (ci := 1) (v := .int (nI 0)) (ty := .int) (C := RX1) (T := TX1) (N := 4) hx hb hts in_X1 tyX1 tyX1_ok nmX1 hown hK hP hD hS 0 rfl rfl 2 (by decide) (hts _ q36) (fun _ h9 => h9) rfl (by decide +kernel) rfl rfl (Nat.le_of_ble_eq_true rfl) dX1_clear_2 (fun H locs hP hD hS => ?_)
  have hP : va_P (dC, dI) vwCl [(aq, .inr (1, [.ref av, .ref ah, .int (nI 0), .null]))] H := hP
  have hD : va_D A [(aq, .inr (1, [.ref av, .ref ah, .int (nI 0), .null]))] := hD
  have hP9 := hP.sub (ws' := [(aq, .inr (1, [.ref av, .ref ah, .int (nI 0), .null]))]) [0] rfl
  have hD9 := hD.sub (ws' := [(aq, .inr (1, [.ref av, .ref ah, .int (nI 0), .null]))]) [0] (by decide) rfl
  have hK9 := hK.sub (tys' := []) [] rfl
  exact W.vret hx hb hr (fun t ht hW => ⟨⟨(), rfl, trivial, by rw [ht]; exact hP9, va_K.moved hW.alike hK9, hD9⟩, hS.F ht⟩) hS.2.2 dX1_clear_5
set_option maxHeartbeats 4000000 in
set_option maxRecDepth 100000 in
/-- first(): the root -/
theorem metX1_first (l : Launch) (dC : Nat → ClassId) (dI : Nat → Nat → Nat) (aq : Nat) (av : Nat) (ah : Nat) (dH : ClassId) (f : Nat → Int32) (n : Nat) (sz : Nat) (hn0 : 0 < n) (hn : n ≤ 64) : Met l yX1_first (ws_ yX1_first cX1_first 1 (some .int)) ({ frames := 0, cells := 0, slots := 0, locals := 0 }) (va_Pc [.ref aq] (fun U => U.heap.size = sz ∧ va_P (dC, dI) vwCl [(aq, .inr (1, [.ref av, .ref ah, .int (nI n), .null])), (ah, .inl (dH, 64, .inl f))] U.heap ∧ va_K (dC, dI) vwCl [(dH, .int)] U ∧ va_D (fun _ => True) [(aq, .inr (1, [.ref av, .ref ah, .int (nI n), .null])), (ah, .inl (dH, 64, .inl f))])) (va_Qi (fun (r : Int32) (u : Unit) => r = f 0) (fun (u : Unit) (t : State) => va_P (dC, dI) vwCl [(aq, .inr (1, [.ref av, .ref ah, .int (nI n), .null])), (ah, .inl (dH, 64, .inl f))] t.heap ∧ va_K (dC, dI) vwCl [(dH, .int)] t ∧ va_D (va_A [(aq, .inr (1, [.ref av, .ref ah, .int (nI n), .null])), (ah, .inl (dH, 64, .inl f))] sz) [(aq, .inr (1, [.ref av, .ref ah, .int (nI n), .null])), (ah, .inl (dH, 64, .inl f))]) (va_A [(aq, .inr (1, [.ref av, .ref ah, .int (nI n), .null])), (ah, .inl (dH, 64, .inl f))] sz)) 0 0 (va_A [(aq, .inr (1, [.ref av, .ref ah, .int (nI n), .null])), (ah, .inl (dH, 64, .inl f))] sz) := by
  refine Met.ofW (cc := cX1_first) (maxL := 1) (ret := (some .int)) (by decide) rfl ?_
  intro p e s m args below meth c s₁ B hml hvv
  obtain ⟨rfl, hsz, hP, hK, hD0⟩ := hvv
  have hx := B.exec
  have hb := B.bytes
  have hr := B.returns
  have hts := atoms_spec (ws := (ws_ yX1_first cX1_first 1 (some .int))) B.pre
  have hts : ∀ w ∈ lw_all, w.before _ s = true := fun w h => hts w (List.mem_cons_of_mem _ h)
  have hown : s.vm.findClass RX1 = some m.cls := findClass_of_methodNamed B.named
  have hlocks := B.notSynchronized
  subst hsz
  have hD := hD0.self (sz := s.heap.size)
  generalize hAe : va_A [(aq, .inr (1, [.ref av, .ref ah, .int (nI n), .null])), (ah, .inl (dH, 64, .inl f))] s.heap.size = A at hD ⊢
  have hA : ∀ q : Nat, s.heap.size ≤ q → A q := fun q h => by rw [← hAe]; exact Or.inr h
  have hS : va_S A s.heap s.heap [] := va_S.rf
  have hP : va_P (dC, dI) vwCl [(aq, .inr (1, [.ref av, .ref ah, .int (nI n), .null])), (ah, .inl (dH, 64, .inl f))] s.heap := hP
  have hl := lv_entry ([.ref aq]) (n := 1) (Nat.le_of_ble_eq_true rfl)
  rw [lg_entry_eq]
  generalize (lg_sl ([.ref aq]) ++ List.replicate (1 - (lg_sl ([.ref aq])).length) Slot.unset).toArray = ls at hl ⊢
  have hl : lv_has ls 1 [(0, .ref aq)] := hl
  refine lv_aload_n hx hb dX1_first_0 rfl (lv_at hl 0 rfl) ?_
  refine va_get (D := (dC, dI)) (ci := 1) (v := .int (nI n)) (C := RX1) (T := TX1) (N := 4) hx hb hts in_X1 hown hK hP 0 rfl rfl 2 (by decide) (hts _ q36) (fun _ h9 => h9) rfl dX1_first_1 ?_
  refine lv_if_ne (tgt := 15) hx hb dX1_first_4 (by decide) (fun c4 => ?_) (fun c4 => absurd c4 (nI_ne0 hn0 (by omega)))
  refine lv_aload_n hx hb dX1_first_15 rfl (lv_at hl 0 rfl) ?_
  refine va_get (D := (dC, dI)) (ci := 1) (v := .ref ah) (C := RX1) (T := TX1) (N := 4) hx hb hts in_X1 hown hK hP 0 rfl rfl 1 (by decide) (hts _ q35) (fun _ h9 => h9) rfl dX1_first_16 ?_
  refine lv_iconst (v := (nI 0)) hx hb dX1_first_19 (by decide +kernel) ?_
  refine va_iald hx hb hK hP 1 0 rfl rfl (vp_in_nI (by omega) (by omega)) dX1_first_20 ?_
  refine lv_topi (fun y_1 ey_1 => ?_)
  obtain rfl : y_1 = f 0 := ey_1.trans (congrArg f (nI_clamp (by omega)))
  have hP9 := hP.sub (ws' := [(aq, .inr (1, [.ref av, .ref ah, .int (nI n), .null])), (ah, .inl (dH, 64, .inl f))]) [0, 1] rfl
  have hD9 := hD.sub (ws' := [(aq, .inr (1, [.ref av, .ref ah, .int (nI n), .null])), (ah, .inl (dH, 64, .inl f))]) [0, 1] (by decide) rfl
  have hK9 := hK.sub (tys' := [(dH, .int)]) [0] rfl
  exact W.iret (v := (f 0)) hx hb hr (fun t ht hW => ⟨⟨(f 0), (), rfl, rfl, by rw [ht]; exact hP9, va_K.moved hW.alike hK9, hD9⟩, hS.F ht⟩) hS.2.2 dX1_first_21
set_option maxHeartbeats 4000000 in
set_option maxRecDepth 100000 in
/-- ensureElement(k): in range -/
theorem metX1_ensureElement (l : Launch) (dC : Nat → ClassId) (dI : Nat → Nat → Nat) (aq : Nat) (av : Nat) (ah : Nat) (sn : Int32) (dV : ClassId) (v : Nat → Int32) (k : Nat) (sz : Nat) (hk : k < 64) : Met l yX1_ensureElement (ws_ yX1_ensureElement cX1_ensureElement 2 none) ({ frames := 0, cells := 0, slots := 0, locals := 0 }) (va_Pc [.ref aq, .int (nI k)] (fun U => U.heap.size = sz ∧ va_P (dC, dI) vwCl [(aq, .inr (1, [.ref av, .ref ah, .int sn, .null])), (av, .inl (dV, 64, .inl v))] U.heap ∧ va_K (dC, dI) vwCl [(dV, .int)] U ∧ va_D (fun _ => True) [(aq, .inr (1, [.ref av, .ref ah, .int sn, .null])), (av, .inl (dV, 64, .inl v))])) (va_Qv (fun (u : Unit) => True) (fun (u : Unit) (t : State) => va_P (dC, dI) vwCl [(aq, .inr (1, [.ref av, .ref ah, .int sn, .null])), (av, .inl (dV, 64, .inl v))] t.heap ∧ va_K (dC, dI) vwCl [(dV, .int)] t ∧ va_D (va_A [(aq, .inr (1, [.ref av, .ref ah, .int sn, .null])), (av, .inl (dV, 64, .inl v))] sz) [(aq, .inr (1, [.ref av, .ref ah, .int sn, .null])), (av, .inl (dV, 64, .inl v))]) (va_A [(aq, .inr (1, [.ref av, .ref ah, .int sn, .null])), (av, .inl (dV, 64, .inl v))] sz)) 0 0 (va_A [(aq, .inr (1, [.ref av, .ref ah, .int sn, .null])), (av, .inl (dV, 64, .inl v))] sz) := by
  refine Met.ofW (cc := cX1_ensureElement) (maxL := 2) (ret := none) (by decide) rfl ?_
  intro p e s m args below meth c s₁ B hml hvv
  obtain ⟨rfl, hsz, hP, hK, hD0⟩ := hvv
  have hx := B.exec
  have hb := B.bytes
  have hr := B.returns
  have hts := atoms_spec (ws := (ws_ yX1_ensureElement cX1_ensureElement 2 none)) B.pre
  have hts : ∀ w ∈ lw_all, w.before _ s = true := fun w h => hts w (List.mem_cons_of_mem _ h)
  have hown : s.vm.findClass RX1 = some m.cls := findClass_of_methodNamed B.named
  have hlocks := B.notSynchronized
  subst hsz
  have hD := hD0.self (sz := s.heap.size)
  generalize hAe : va_A [(aq, .inr (1, [.ref av, .ref ah, .int sn, .null])), (av, .inl (dV, 64, .inl v))] s.heap.size = A at hD ⊢
  have hA : ∀ q : Nat, s.heap.size ≤ q → A q := fun q h => by rw [← hAe]; exact Or.inr h
  have hS : va_S A s.heap s.heap [] := va_S.rf
  have hP : va_P (dC, dI) vwCl [(aq, .inr (1, [.ref av, .ref ah, .int sn, .null])), (av, .inl (dV, 64, .inl v))] s.heap := hP
  have hl := lv_entry ([.ref aq, .int (nI k)]) (n := 2) (Nat.le_of_ble_eq_true rfl)
  rw [lg_entry_eq]
  generalize (lg_sl ([.ref aq, .int (nI k)]) ++ List.replicate (2 - (lg_sl ([.ref aq, .int (nI k)])).length) Slot.unset).toArray = ls at hl ⊢
  have hl : lv_has ls 2 [(0, .ref aq), (1, .int (nI k))] := hl
  refine lv_iload_n hx hb dX1_ensureElement_0 rfl (lv_at hl 1 rfl) ?_
  refine lv_if_ge (tgt := 14) hx hb dX1_ensureElement_1 (by decide) (fun c1 => ?_) (fun c1 => absurd (nI_pos' (by omega)) c1)
  refine lv_iload_n hx hb dX1_ensureElement_14 rfl (lv_at hl 1 rfl) ?_
  refine lv_aload_n hx hb dX1_ensureElement_15 rfl (lv_at hl 0 rfl) ?_
  refine va_get (D := (dC, dI)) (ci := 1) (v := .ref av) (C := RX1) (T := TX1) (N := 4) hx hb hts in_X1 hown hK hP 0 rfl rfl 0 (by decide) (hts _ q34) (fun _ h9 => h9) rfl dX1_ensureElement_16 ?_
  refine va_alen (v := nI 64) hx hb hK hP 1 0 rfl rfl rfl dX1_ensureElement_19 ?_
  refine lv_icmp_lt (tgt := 33) hx hb dX1_ensureElement_20 (by decide) (fun c20 => ?_) (fun c20 => absurd (nI_lt hk (by omega)) c20)
  have hP9 := hP.sub (ws' := [(aq, .inr (1, [.ref av, .ref ah, .int sn, .null])), (av, .inl (dV, 64, .inl v))]) [0, 1] rfl
  have hD9 := hD.sub (ws' := [(aq, .inr (1, [.ref av, .ref ah, .int sn, .null])), (av, .inl (dV, 64, .inl v))]) [0, 1] (by decide) rfl
  have hK9 := hK.sub (tys' := [(dV, .int)]) [0] rfl
  exact W.vret hx hb hr (fun t ht hW => ⟨⟨(), rfl, trivial, by rw [ht]; exact hP9, va_K.moved hW.alike hK9, hD9⟩, hS.F ht⟩) hS.2.2 dX1_ensureElement_33
set_option maxHeartbeats 4000000 in
set_option maxRecDepth 100000 in
/-- enqueue(k) -/
theorem metX1_enqueue (l : Launch) (dC : Nat → ClassId) (dI : Nat → Nat → Nat) (aq : Nat) (av : Nat) (ah : Nat) (dV : ClassId) (dH : ClassId) (v : Nat → Int32) (f : Nat → Int32) (n : Nat) (k : Nat) (sz : Nat) (hn : n < 64) (hk : k < 64) (hok : hp_ok f n) (hor : hp_or v f n 0) : Met l yX1_enqueue (ws_ yX1_enqueue cX1_enqueue 2 none) ({ frames := 1, cells := 0, slots := 0, locals := 28 }) (va_Pc [.ref aq, .int (nI k)] (fun U => U.heap.size = sz ∧ va_P (dC, dI) vwCl [(aq, .inr (1, [.ref av, .ref ah, .int (nI n), .null])), (av, .inl (dV, 64, .inl v)), (ah, .inl (dH, 64, .inl f))] U.heap ∧ va_K (dC, dI) vwCl [(dV, .int), (dH, .int)] U ∧ va_D (fun _ => True) [(aq, .inr (1, [.ref av, .ref ah, .int (nI n), .null])), (av, .inl (dV, 64, .inl v)), (ah, .inl (dH, 64, .inl f))])) (va_Qv (fun (u : Nat → Int32) => hp_pm (upd f n (nI k)) u (n + 1) ∧ hp_or v u (n + 1) 0) (fun (u : Nat → Int32) (t : State) => va_P (dC, dI) vwCl [(aq, .inr (1, [.ref av, .ref ah, .int (nI (n + 1)), .null])), (av, .inl (dV, 64, .inl v)), (ah, .inl (dH, 64, .inl u))] t.heap ∧ va_K (dC, dI) vwCl [(dV, .int), (dH, .int)] t ∧ va_D (va_A [(aq, .inr (1, [.ref av, .ref ah, .int (nI n), .null])), (av, .inl (dV, 64, .inl v)), (ah, .inl (dH, 64, .inl f))] sz) [(aq, .inr (1, [.ref av, .ref ah, .int (nI (n + 1)), .null])), (av, .inl (dV, 64, .inl v)), (ah, .inl (dH, 64, .inl u))]) (va_A [(aq, .inr (1, [.ref av, .ref ah, .int (nI n), .null])), (av, .inl (dV, 64, .inl v)), (ah, .inl (dH, 64, .inl f))] sz)) 0 0 (va_A [(aq, .inr (1, [.ref av, .ref ah, .int (nI n), .null])), (av, .inl (dV, 64, .inl v)), (ah, .inl (dH, 64, .inl f))] sz) := by
  refine Met.ofW (cc := cX1_enqueue) (maxL := 2) (ret := none) (by decide) rfl ?_
  intro p e s m args below meth c s₁ B hml hvv
  obtain ⟨rfl, hsz, hP, hK, hD0⟩ := hvv
  have hx := B.exec
  have hb := B.bytes
  have hr := B.returns
  have hts := atoms_spec (ws := (ws_ yX1_enqueue cX1_enqueue 2 none)) B.pre
  have hts : ∀ w ∈ lw_all, w.before _ s = true := fun w h => hts w (List.mem_cons_of_mem _ h)
  have hown : s.vm.findClass RX1 = some m.cls := findClass_of_methodNamed B.named
  have hlocks := B.notSynchronized
  subst hsz
  have hD := hD0.self (sz := s.heap.size)
  generalize hAe : va_A [(aq, .inr (1, [.ref av, .ref ah, .int (nI n), .null])), (av, .inl (dV, 64, .inl v)), (ah, .inl (dH, 64, .inl f))] s.heap.size = A at hD ⊢
  have hA : ∀ q : Nat, s.heap.size ≤ q → A q := fun q h => by rw [← hAe]; exact Or.inr h
  have hS : va_S A s.heap s.heap [] := va_S.rf
  have hP : va_P (dC, dI) vwCl [(aq, .inr (1, [.ref av, .ref ah, .int (nI n), .null])), (av, .inl (dV, 64, .inl v)), (ah, .inl (dH, 64, .inl f))] s.heap := hP
  have hl := lv_entry ([.ref aq, .int (nI k)]) (n := 2) (Nat.le_of_ble_eq_true rfl)
  rw [lg_entry_eq]
  generalize (lg_sl ([.ref aq, .int (nI k)]) ++ List.replicate (2 - (lg_sl ([.ref aq, .int (nI k)])).length) Slot.unset).toArray = ls at hl ⊢
  have hl : lv_has ls 2 [(0, .ref aq), (1, .int (nI k))] := hl
  refine lv_aload_n hx hb dX1_enqueue_0 rfl (lv_at hl 0 rfl) ?_
  refine lv_iload_n hx hb dX1_enqueue_1 rfl (lv_at hl 1 rfl) ?_
  have hPc := hP.sub (ws' := [(aq, .inr (1, [.ref av, .ref ah, .int (nI n), .null])), (av, .inl (dV, 64, .inl v))]) [0, 1] rfl
  have hDc := hD.sub (ws' := [(aq, .inr (1, [.ref av, .ref ah, .int (nI n), .null])), (av, .inl (dV, 64, .inl v))]) [0, 1] (by decide) rfl
  have hKc := hK.sub (tys' := [(dV, .int)]) [0] rfl
  have hFc := va_free (wc := [(aq, .inr (1, [.ref av, .ref ah, .int (nI n), .null])), (av, .inl (dV, 64, .inl v))]) hD hS hA [0, 1] rfl
  refine va_callv (va_runV (As := [.int (nI k)]) (rest := []) ⟨hx, hb, hml, hown, hts⟩ (metX1_ensureElement l dC dI aq av ah (nI n) dV v k s.heap.size hk) (cwV 1 hts (lw_V q71 q72 q73 q4 q74) rfl rfl rfl (by decide +kernel) ⟨Nat.le_of_ble_eq_true rfl, Nat.le_of_ble_eq_true rfl⟩) ⟨fun a U g mk q => by obtain ⟨q0, q1, qP, qK, qD⟩ := q; exact ⟨q0, q1, qP, va_K.moved (u := U) (U := U.calling g mk a) (Vm.Alike.refl U.vm) qK, qD⟩, va_recv hKc hPc (ci := 1) (q0 := 0) rfl rfl, fun U hU hW => ⟨rfl, by rw [hU], by rw [hU]; exact hPc, va_K.moved hW.alike hKc, hDc.weaken (fun _ _ _ _ => trivial)⟩⟩ rfl rfl hl.1 rfl (lv_room (Nat.le_of_ble_eq_true rfl)) dX1_enqueue_2 ⟨Nat.le_of_ble_eq_true rfl, Nat.le_of_ble_eq_true rfl⟩) hS (fun q _ h => hFc q h) hFc (fun u t H1 locs ht hvm hwq hB hz1 hk1 hS => ?_)
  have hw : True := hwq
  obtain ⟨hP1, hK1, hD1⟩ := hB
  rw [ht] at hP1
  obtain ⟨hP, hD⟩ := va_join (wr := [(ah, .inl (dH, 64, .inl f))]) (w1 := [(aq, .inr (1, [.ref av, .ref ah, .int (nI n), .null])), (av, .inl (dV, 64, .inl v))]) hP hD [0, 1] [2] rfl rfl (by decide) (by decide) hk1 hFc hP1 hD1
  generalize H1 = H at hP hS ⊢
  have hP : va_P (dC, dI) vwCl [(ah, .inl (dH, 64, .inl f)), (aq, .inr (1, [.ref av, .ref ah, .int (nI n), .null])), (av, .inl (dV, 64, .inl v))] H := hP
  have hD : va_D A [(ah, .inl (dH, 64, .inl f)), (aq, .inr (1, [.ref av, .ref ah, .int (nI n), .null])), (av, .inl (dV, 64, .inl v))] := hD
  refine lv_aload_n hx hb dX1_enqueue_5 rfl (lv_at hl 0 rfl) ?_
  refine va_get (D := (dC, dI)) (ci := 1) (v := .int (nI n)) (C := RX1) (T := TX1) (N := 4) hx hb hts in_X1 hown hK hP 1 rfl rfl 2 (by decide) (hts _ q36) (fun _ h9 => h9) rfl dX1_enqueue_6 ?_
  refine lv_aload_n hx hb dX1_enqueue_9 rfl (lv_at hl 0 rfl) ?_
  refine va_get (D := (dC, dI)) (ci := 1) (v := .ref ah) (C := RX1) (T := TX1) (N := 4) hx hb hts in_X1 hown hK hP 1 rfl rfl 1 (by decide) (hts _ q35) (fun _ h9 => h9) rfl dX1_enqueue_10 ?_
  refine va_alen (v := nI 64) hx hb hK hP 0 1 rfl rfl rfl dX1_enqueue_13 ?_
  refine lv_icmp_ne (tgt := 34) hx hb dX1_enqueue_14 (by decide) (fun c14 => ?_) (fun c14 => absurd c14 (fun q => absurd ((nI_eq (by omega) (by omega)).mp q) (by omega)))
  refine lv_aload_n hx hb dX1_enqueue_34 rfl (lv_at hl 0 rfl) ?_
  refine va_get (D := (dC, dI)) (ci := 1) (v := .ref ah) (C := RX1) (T := TX1) (N := 4) hx hb hts in_X1 hown hK hP 1 rfl rfl 1 (by decide) (hts _ q35) (fun _ h9 => h9) rfl dX1_enqueue_35 ?_
  refine lv_aload_n hx hb dX1_enqueue_38 rfl (lv_at hl 0 rfl) ?_
  refine lv_dup hx hb dX1_enqueue_39 rfl ?_
  refine va_get (D := (dC, dI)) (ci := 1) (v := .int (nI n)) (C := RX1) (T := TX1) (N := 4) hx hb hts in_X1 hown hK hP 1 rfl rfl 2 (by decide) (hts _ q36) (fun _ h9 => h9) rfl dX1_enqueue_40 ?_
  refine lv_dup_x1 hx hb dX1_enqueue_43 rfl rfl ?_
  refine lv_iconst (v := 1) hx hb dX1_enqueue_44 (by decide +kernel) ?_
  refine lv_iadd hx hb dX1_enqueue_45 ?_
  refine lv_topi (fun y_1 ey_1 => ?_)
  obtain rfl : y_1 = nI (n + 1) := ey_1.trans (nI_1 n)
  refine va_put (D := (dC, dI)) (ci := 1) (v := .int (nI (n + 1))) (ty := .int) (C := RX1) (T := TX1) (N := 4) hx hb hts in_X1 tyX1 tyX1_ok nmX1 hown hK hP hD hS 1 rfl rfl 2 (by decide) (hts _ q36) (fun _ h9 => h9) rfl (by decide +kernel) rfl rfl (Nat.le_of_ble_eq_true rfl) dX1_enqueue_46 (fun H locs hP hD hS => ?_)
  have hP : va_P (dC, dI) vwCl [(ah, .inl (dH, 64, .inl f)), (aq, .inr (1, [.ref av, .ref ah, .int (nI (n + 1)), .null])), (av, .inl (dV, 64, .inl v))] H := hP
  have hD : va_D A [(ah, .inl (dH, 64, .inl f)), (aq, .inr (1, [.ref av, .ref ah, .int (nI (n + 1)), .null])), (av, .inl (dV, 64, .inl v))] := hD
  refine lv_iload_n hx hb dX1_enqueue_49 rfl (lv_at hl 1 rfl) ?_
  refine va_iast hx hb hK hP hD hS 0 1 rfl rfl (vp_in_nI (by omega) (by omega)) dX1_enqueue_50 (fun H locs hP hD hS => ?_)
  rw [nI_clamp (n := n) (by omega)] at hP hD
  have hP : va_P (dC, dI) vwCl [(ah, .inl (dH, 64, .inl (upd f n (nI k)))), (aq, .inr (1, [.ref av, .ref ah, .int (nI (n + 1)), .null])), (av, .inl (dV, 64, .inl v))] H := hP
  have hD : va_D A [(ah, .inl (dH, 64, .inl (upd f n (nI k)))), (aq, .inr (1, [.ref av, .ref ah, .int (nI (n + 1)), .null])), (av, .inl (dV, 64, .inl v))] := hD
  refine lv_aload_n hx hb dX1_enqueue_51 rfl (lv_at hl 0 rfl) ?_
  refine va_get (D := (dC, dI)) (ci := 1) (v := .ref av) (C := RX1) (T := TX1) (N := 4) hx hb hts in_X1 hown hK hP 1 rfl rfl 0 (by decide) (hts _ q34) (fun _ h9 => h9) rfl dX1_enqueue_52 ?_
  refine lv_aload_n hx hb dX1_enqueue_55 rfl (lv_at hl 0 rfl) ?_
  refine va_get (D := (dC, dI)) (ci := 1) (v := .ref ah) (C := RX1) (T := TX1) (N := 4) hx hb hts in_X1 hown hK hP 1 rfl rfl 1 (by decide) (hts _ q35) (fun _ h9 => h9) rfl dX1_enqueue_56 ?_
  refine lv_aload_n hx hb dX1_enqueue_59 rfl (lv_at hl 0 rfl) ?_
  refine va_get (D := (dC, dI)) (ci := 1) (v := .int (nI (n + 1))) (C := RX1) (T := TX1) (N := 4) hx hb hts in_X1 hown hK hP 1 rfl rfl 2 (by decide) (hts _ q36) (fun _ h9 => h9) rfl dX1_enqueue_60 ?_
  refine lv_aload_n hx hb dX1_enqueue_63 rfl (lv_at hl 0 rfl) ?_
  refine va_get (D := (dC, dI)) (ci := 1) (v := .int (nI (n + 1))) (C := RX1) (T := TX1) (N := 4) hx hb hts in_X1 hown hK hP 1 rfl rfl 2 (by decide) (hts _ q36) (fun _ h9 => h9) rfl dX1_enqueue_64 ?_
  refine lv_iconst (v := (nI 1)) hx hb dX1_enqueue_67 (by decide +kernel) ?_
  refine lv_isub hx hb dX1_enqueue_68 ?_
  refine lv_topi (fun y_2 ey_2 => ?_)
  obtain rfl : y_2 = nI n := ey_2.trans ((pk_sub (by omega)).trans (congrArg nI (Nat.add_sub_cancel n 1)))
  refine lv_aload_n hx hb dX1_enqueue_69 rfl (lv_at hl 0 rfl) ?_
  refine va_get (D := (dC, dI)) (ci := 1) (v := .null) (C := RX1) (T := TX1) (N := 4) hx hb hts in_X1 hown hK hP 1 rfl rfl 3 (by decide) (hts _ q37) (fun _ h9 => h9) rfl dX1_enqueue_70 ?_
  have hPc := hP.sub (ws' := [(av, .inl (dV, 64, .inl v)), (ah, .inl (dH, 64, .inl (upd f n (nI k))))]) [2, 0] rfl
  have hDc := hD.sub (ws' := [(av, .inl (dV, 64, .inl v)), (ah, .inl (dH, 64, .inl (upd f n (nI k))))]) [2, 0] (by decide) rfl
  have hKc := hK.sub (tys' := [(dV, .int), (dH, .int)]) [0, 1] rfl
  have hFc := va_free (wc := [(av, .inl (dV, 64, .inl v)), (ah, .inl (dH, 64, .inl (upd f n (nI k))))]) hD hS hA [2, 0] rfl
  refine va_calli (va_runS (As := [.ref av, .ref ah, .int (nI (n + 1)), .int (nI n), .null]) (rest := []) ⟨hx, hb, hml, hown, hts⟩ (metX4_upHeap l dC dI av ah dV dH v (upd f n (nI k)) (n + 1) n H.size (by omega) (by omega) (fun j hj => by
      by_cases hjn : j = n
      · rw [hjn, pk_us]; exact vp_in_nI hk (by omega)
      · rw [pk_un hjn]; exact hok j (by omega)) (hp_up_of hor)) (va_cwS 5 hts (lw_S q158 q159 q13 q160) rfl rfl rfl (by decide +kernel) ⟨Nat.le_of_ble_eq_true rfl, Nat.le_of_ble_eq_true rfl⟩) ⟨fun a U g mk q => by obtain ⟨q0, q1, qP, qK, qD⟩ := q; exact ⟨q0, q1, qP, va_K.moved (u := U) (U := U.calling g mk a) (Vm.Alike.refl U.vm) qK, qD⟩, fun U hU hW => ⟨rfl, by rw [hU], by rw [hU]; exact hPc, va_K.moved hW.alike hKc, hDc.weaken (fun _ _ _ _ => trivial)⟩⟩ rfl rfl hl.1 rfl (lv_room (Nat.le_of_ble_eq_true rfl)) dX1_enqueue_73 ⟨Nat.le_of_ble_eq_true rfl, Nat.le_of_ble_eq_true rfl⟩) hS (fun q _ h => hFc q h) hFc (fun r9 g t H1 locs ht hvm hwq hB hz1 hk1 hS => ?_)
  have hw : hp_pm (upd f n (nI k)) g (n + 1) ∧ hp_or v g (n + 1) 0 := hwq
  obtain ⟨hP1, hK1, hD1⟩ := hB
  rw [ht] at hP1
  obtain ⟨hP, hD⟩ := va_join (wr := [(aq, .inr (1, [.ref av, .ref ah, .int (nI (n + 1)), .null]))]) (w1 := [(av, .inl (dV, 64, .inl v)), (ah, .inl (dH, 64, .inl g))]) hP hD [2, 0] [1] rfl rfl (by decide) (by decide) hk1 hFc hP1 hD1
  generalize H1 = H at hP hS ⊢
  have hP : va_P (dC, dI) vwCl [(aq, .inr (1, [.ref av, .ref ah, .int (nI (n + 1)), .null])), (av, .inl (dV, 64, .inl v)), (ah, .inl (dH, 64, .inl g))] H := hP
  have hD : va_D A [(aq, .inr (1, [.ref av, .ref ah, .int (nI (n + 1)), .null])), (av, .inl (dV, 64, .inl v)), (ah, .inl (dH, 64, .inl g))] := hD
  refine lv_pop hx hb dX1_enqueue_76 rfl ?_
  have hP9 := hP.sub (ws' := [(aq, .inr (1, [.ref av, .ref ah, .int (nI (n + 1)), .null])), (av, .inl (dV, 64, .inl v)), (ah, .inl (dH, 64, .inl g))]) [0, 1, 2] rfl
  have hD9 := hD.sub (ws' := [(aq, .inr (1, [.ref av, .ref ah, .int (nI (n + 1)), .null])), (av, .inl (dV, 64, .inl v)), (ah, .inl (dH, 64, .inl g))]) [0, 1, 2] (by decide) rfl
  have hK9 := hK.sub (tys' := [(dV, .int), (dH, .int)]) [0, 1] rfl
  exact W.vret hx hb hr (fun t ht hW => ⟨⟨g, rfl, hw, by rw [ht]; exact hP9, va_K.moved hW.alike hK9, hD9⟩, hS.F ht⟩) hS.2.2 dX1_enqueue_77
set_option maxHeartbeats 4000000 in
set_option maxRecDepth 100000 in
/-- dequeue(): the root; the rest in heap order -/
theorem metX1_dequeue (l : Launch) (dC : Nat → ClassId) (dI : Nat → Nat → Nat) (aq : Nat) (av : Nat) (ah : Nat) (dV : ClassId) (dH : ClassId) (v : Nat → Int32) (f : Nat → Int32) (n : Nat) (sz : Nat) (hn0 : 0 < n) (hn : n ≤ 64) (hok : hp_ok f n) (hor : hp_or v f n 0) : Met l yX1_dequeue (ws_ yX1_dequeue cX1_dequeue 2 (some .int)) ({ frames := 1, cells := 0, slots := 0, locals := 29 }) (va_Pc [.ref aq] (fun U => U.heap.size = sz ∧ va_P (dC, dI) vwCl [(aq, .inr (1, [.ref av, .ref ah, .int (nI n), .null])), (av, .inl (dV, 64, .inl v)), (ah, .inl (dH, 64, .inl f))] U.heap ∧ va_K (dC, dI) vwCl [(dV, .int), (dH, .int)] U ∧ va_D (fun _ => True) [(aq, .inr (1, [.ref av, .ref ah, .int (nI n), .null])), (av, .inl (dV, 64, .inl v)), (ah, .inl (dH, 64, .inl f))])) (va_Qi (fun (r : Int32) (u : Nat → Int32) => r = f 0 ∧ hp_pm (upd f 0 (f (n - 1))) u (n - 1) ∧ hp_or v u (n - 1) 0) (fun (u : Nat → Int32) (t : State) => va_P (dC, dI) vwCl [(aq, .inr (1, [.ref av, .ref ah, .int (nI (n - 1)), .null])), (av, .inl (dV, 64, .inl v)), (ah, .inl (dH, 64, .inl u))] t.heap ∧ va_K (dC, dI) vwCl [(dV, .int), (dH, .int)] t ∧ va_D (va_A [(aq, .inr (1, [.ref av, .ref ah, .int (nI n), .null])), (av, .inl (dV, 64, .inl v)), (ah, .inl (dH, 64, .inl f))] sz) [(aq, .inr (1, [.ref av, .ref ah, .int (nI (n - 1)), .null])), (av, .inl (dV, 64, .inl v)), (ah, .inl (dH, 64, .inl u))]) (va_A [(aq, .inr (1, [.ref av, .ref ah, .int (nI n), .null])), (av, .inl (dV, 64, .inl v)), (ah, .inl (dH, 64, .inl f))] sz)) 0 0 (va_A [(aq, .inr (1, [.ref av, .ref ah, .int (nI n), .null])), (av, .inl (dV, 64, .inl v)), (ah, .inl (dH, 64, .inl f))] sz) := by
  refine Met.ofW (cc := cX1_dequeue) (maxL := 2) (ret := (some .int)) (by decide) rfl ?_
  intro p e s m args below meth c s₁ B hml hvv
  obtain ⟨rfl, hsz, hP, hK, hD0⟩ := hvv
  have hx := B.exec
  have hb := B.bytes
  have hr := B.returns
  have hts := atoms_spec (ws := (ws_ yX1_dequeue cX1_dequeue 2 (some .int))) B.pre
  have hts : ∀ w ∈ lw_all, w.before _ s = true := fun w h => hts w (List.mem_cons_of_mem _ h)
  have hown : s.vm.findClass RX1 = some m.cls := findClass_of_methodNamed B.named
  have hlocks := B.notSynchronized
  subst hsz
  have hD := hD0.self (sz := s.heap.size)
  generalize hAe : va_A [(aq, .inr (1, [.ref av, .ref ah, .int (nI n), .null])), (av, .inl (dV, 64, .inl v)), (ah, .inl (dH, 64, .inl f))] s.heap.size = A at hD ⊢
  have hA : ∀ q : Nat, s.heap.size ≤ q → A q := fun q h => by rw [← hAe]; exact Or.inr h
  have hS : va_S A s.heap s.heap [] := va_S.rf
  have hP : va_P (dC, dI) vwCl [(aq, .inr (1, [.ref av, .ref ah, .int (nI n), .null])), (av, .inl (dV, 64, .inl v)), (ah, .inl (dH, 64, .inl f))] s.heap := hP
  have hl := lv_entry ([.ref aq]) (n := 2) (Nat.le_of_ble_eq_true rfl)
  rw [lg_entry_eq]
  generalize (lg_sl ([.ref aq]) ++ List.replicate (2 - (lg_sl ([.ref aq])).length) Slot.unset).toArray = ls at hl ⊢
  have hl : lv_has ls 2 [(0, .ref aq)] := hl
  refine lv_aload_n hx hb dX1_dequeue_0 rfl (lv_at hl 0 rfl) ?_
  refine va_get (D := (dC, dI)) (ci := 1) (v := .int (nI n)) (C := RX1) (T := TX1) (N := 4) hx hb hts in_X1 hown hK hP 0 rfl rfl 2 (by decide) (hts _ q36) (fun _ h9 => h9) rfl dX1_dequeue_1 ?_
  refine lv_if_ne (tgt := 15) hx hb dX1_dequeue_4 (by decide) (fun c4 => ?_) (fun c4 => absurd c4 (nI_ne0 hn0 (by omega)))
  refine lv_aload_n hx hb dX1_dequeue_15 rfl (lv_at hl 0 rfl) ?_
  refine va_get (D := (dC, dI)) (ci := 1) (v := .ref ah) (C := RX1) (T := TX1) (N := 4) hx hb hts in_X1 hown hK hP 0 rfl rfl 1 (by decide) (hts _ q35) (fun _ h9 => h9) rfl dX1_dequeue_16 ?_
  refine lv_iconst (v := (nI 0)) hx hb dX1_dequeue_19 (by decide +kernel) ?_
  refine va_iald hx hb hK hP 2 1 rfl rfl (vp_in_nI (by omega) (by omega)) dX1_dequeue_20 ?_
  refine lv_topi (fun r8 hr8 => ?_)
  have hr8 : r8 = f 0 := hr8.trans (congrArg f (nI_clamp (by omega)))
  refine lv_istore_n (lv' := [(1, .int r8), (0, .ref aq)]) hx hb dX1_dequeue_21 rfl hl (by decide) rfl (fun ls hl => ?_)
  refine lv_aload_n hx hb dX1_dequeue_22 rfl (lv_at hl 1 rfl) ?_
  refine va_get (D := (dC, dI)) (ci := 1) (v := .ref ah) (C := RX1) (T := TX1) (N := 4) hx hb hts in_X1 hown hK hP 0 rfl rfl 1 (by decide) (hts _ q35) (fun _ h9 => h9) rfl dX1_dequeue_23 ?_
  refine lv_iconst (v := (nI 0)) hx hb dX1_dequeue_26 (by decide +kernel) ?_
  refine lv_aload_n hx hb dX1_dequeue_27 rfl (lv_at hl 1 rfl) ?_
  refine va_get (D := (dC, dI)) (ci := 1) (v := .ref ah) (C := RX1) (T := TX1) (N := 4) hx hb hts in_X1 hown hK hP 0 rfl rfl 1 (by decide) (hts _ q35) (fun _ h9 => h9) rfl dX1_dequeue_28 ?_
  refine lv_aload_n hx hb dX1_dequeue_31 rfl (lv_at hl 1 rfl) ?_
  refine lv_dup hx hb dX1_dequeue_32 rfl ?_
  refine va_get (D := (dC, dI)) (ci := 1) (v := .int (nI n)) (C := RX1) (T := TX1) (N := 4) hx hb hts in_X1 hown hK hP 0 rfl rfl 2 (by decide) (hts _ q36) (fun _ h9 => h9) rfl dX1_dequeue_33 ?_
  refine lv_iconst (v := (nI 1)) hx hb dX1_dequeue_36 (by decide +kernel) ?_
  refine lv_isub hx hb dX1_dequeue_37 ?_
  refine lv_topi (fun y_1 ey_1 => ?_)
  obtain rfl : y_1 = nI (n - 1) := ey_1.trans (pk_sub (by omega))
  refine lv_dup_x1 hx hb dX1_dequeue_38 rfl rfl ?_
  refine va_put (D := (dC, dI)) (ci := 1) (v := .int (nI (n - 1))) (ty := .int) (C := RX1) (T := TX1) (N := 4) hx hb hts in_X1 tyX1 tyX1_ok nmX1 hown hK hP hD hS 0 rfl rfl 2 (by decide) (hts _ q36) (fun _ h9 => h9) rfl (by decide +kernel) rfl rfl (Nat.le_of_ble_eq_true rfl) dX1_dequeue_39 (fun H locs hP hD hS => ?_)
  have hP : va_P (dC, dI) vwCl [(aq, .inr (1, [.ref av, .ref ah, .int (nI (n - 1)), .null])), (av, .inl (dV, 64, .inl v)), (ah, .inl (dH, 64, .inl f))] H := hP
  have hD : va_D A [(aq, .inr (1, [.ref av, .ref ah, .int (nI (n - 1)), .null])), (av, .inl (dV, 64, .inl v)), (ah, .inl (dH, 64, .inl f))] := hD
  refine va_iald hx hb hK hP 2 1 rfl rfl (vp_in_nI (by omega) (by omega)) dX1_dequeue_42 ?_
  refine lv_topi (fun y_2 ey_2 => ?_)
  obtain rfl : y_2 = f (n - 1) := ey_2.trans (congrArg f (nI_clamp (by omega)))
  refine va_iast hx hb hK hP hD hS 2 1 rfl rfl (vp_in_nI (by omega) (by omega)) dX1_dequeue_43 (fun H locs hP hD hS => ?_)
  rw [nI_clamp (n := 0) (by omega)] at hP hD
  have hP : va_P (dC, dI) vwCl [(aq, .inr (1, [.ref av, .ref ah, .int (nI (n - 1)), .null])), (av, .inl (dV, 64, .inl v)), (ah, .inl (dH, 64, .inl (upd f 0 (f (n - 1)))))] H := hP
  have hD : va_D A [(aq, .inr (1, [.ref av, .ref ah, .int (nI (n - 1)), .null])), (av, .inl (dV, 64, .inl v)), (ah, .inl (dH, 64, .inl (upd f 0 (f (n - 1)))))] := hD
  refine lv_aload_n hx hb dX1_dequeue_44 rfl (lv_at hl 1 rfl) ?_
  refine va_get (D := (dC, dI)) (ci := 1) (v := .int (nI (n - 1))) (C := RX1) (T := TX1) (N := 4) hx hb hts in_X1 hown hK hP 0 rfl rfl 2 (by decide) (hts _ q36) (fun _ h9 => h9) rfl dX1_dequeue_45 ?_
  refine lv_if_eq (tgt := 72) hx hb dX1_dequeue_48 (by decide) (fun c48 => ?_) (fun c48 => ?_)
  · have hz : n - 1 = 0 := by
      rcases Nat.eq_zero_or_pos (n - 1) with q | q
      · exact q
      · exact absurd c48 (nI_ne0 q (by omega))
    refine lv_iload_n hx hb dX1_dequeue_72 rfl (lv_at hl 0 rfl) ?_
    have hP9 := hP.sub (ws' := [(aq, .inr (1, [.ref av, .ref ah, .int (nI (n - 1)), .null])), (av, .inl (dV, 64, .inl v)), (ah, .inl (dH, 64, .inl (upd f 0 (f (n - 1)))))]) [0, 1, 2] rfl
    have hD9 := hD.sub (ws' := [(aq, .inr (1, [.ref av, .ref ah, .int (nI (n - 1)), .null])), (av, .inl (dV, 64, .inl v)), (ah, .inl (dH, 64, .inl (upd f 0 (f (n - 1)))))]) [0, 1, 2] (by decide) rfl
    have hK9 := hK.sub (tys' := [(dV, .int), (dH, .int)]) [0, 1] rfl
    exact W.iret (v := r8) hx hb hr (fun t ht hW => ⟨⟨r8, (upd f 0 (f (n - 1))), rfl, ⟨hr8, hp_pm_rf _ _, fun j j0 jn => absurd jn (by omega)⟩, by rw [ht]; exact hP9, va_K.moved hW.alike hK9, hD9⟩, hS.F ht⟩) hS.2.2 dX1_dequeue_73
  · have hz : 0 < n - 1 := by
      rcases Nat.eq_zero_or_pos (n - 1) with q | q
      · exact absurd (by rw [q]; exact nI_0) c48
      · exact q
    refine lv_aload_n hx hb dX1_dequeue_51 rfl (lv_at hl 1 rfl) ?_
    refine va_get (D := (dC, dI)) (ci := 1) (v := .ref av) (C := RX1) (T := TX1) (N := 4) hx hb hts in_X1 hown hK hP 0 rfl rfl 0 (by decide) (hts _ q34) (fun _ h9 => h9) rfl dX1_dequeue_52 ?_
    refine lv_aload_n hx hb dX1_dequeue_55 rfl (lv_at hl 1 rfl) ?_
    refine va_get (D := (dC, dI)) (ci := 1) (v := .ref ah) (C := RX1) (T := TX1) (N := 4) hx hb hts in_X1 hown hK hP 0 rfl rfl 1 (by decide) (hts _ q35) (fun _ h9 => h9) rfl dX1_dequeue_56 ?_
    refine lv_aload_n hx hb dX1_dequeue_59 rfl (lv_at hl 1 rfl) ?_
    refine va_get (D := (dC, dI)) (ci := 1) (v := .int (nI (n - 1))) (C := RX1) (T := TX1) (N := 4) hx hb hts in_X1 hown hK hP 0 rfl rfl 2 (by decide) (hts _ q36) (fun _ h9 => h9) rfl dX1_dequeue_60 ?_
    refine lv_iconst (v := (nI 0)) hx hb dX1_dequeue_63 (by decide +kernel) ?_
    refine lv_aload_n hx hb dX1_dequeue_64 rfl (lv_at hl 1 rfl) ?_
    refine va_get (D := (dC, dI)) (ci := 1) (v := .null) (C := RX1) (T := TX1) (N := 4) hx hb hts in_X1 hown hK hP 0 rfl rfl 3 (by decide) (hts _ q37) (fun _ h9 => h9) rfl dX1_dequeue_65 ?_
    have hPc := hP.sub (ws' := [(av, .inl (dV, 64, .inl v)), (ah, .inl (dH, 64, .inl (upd f 0 (f (n - 1)))))]) [1, 2] rfl
    have hDc := hD.sub (ws' := [(av, .inl (dV, 64, .inl v)), (ah, .inl (dH, 64, .inl (upd f 0 (f (n - 1)))))]) [1, 2] (by decide) rfl
    have hKc := hK.sub (tys' := [(dV, .int), (dH, .int)]) [0, 1] rfl
    have hFc := va_free (wc := [(av, .inl (dV, 64, .inl v)), (ah, .inl (dH, 64, .inl (upd f 0 (f (n - 1)))))]) hD hS hA [1, 2] rfl
    refine va_calli (va_runS (As := [.ref av, .ref ah, .int (nI (n - 1)), .int (nI 0), .null]) (rest := []) ⟨hx, hb, hml, hown, hts⟩ (metX4_downHeap l dC dI av ah dV dH v (upd f 0 (f (n - 1))) (n - 1) 0 0 H.size (by omega) hz (fun j hj => by
        by_cases hjn : j = 0
        · rw [hjn, pk_us]; exact hok _ (by omega)
        · rw [pk_un hjn]; exact hok j (by omega)) (Nat.le_refl 0) (hp_dn_of (hp_or_pop hor))) (va_cwS 5 hts (lw_S q202 q203 q13 q204) rfl rfl rfl (by decide +kernel) ⟨Nat.le_of_ble_eq_true rfl, Nat.le_of_ble_eq_true rfl⟩) ⟨fun a U g mk q => by obtain ⟨q0, q1, qP, qK, qD⟩ := q; exact ⟨q0, q1, qP, va_K.moved (u := U) (U := U.calling g mk a) (Vm.Alike.refl U.vm) qK, qD⟩, fun U hU hW => ⟨rfl, by rw [hU], by rw [hU]; exact hPc, va_K.moved hW.alike hKc, hDc.weaken (fun _ _ _ _ => trivial)⟩⟩ rfl rfl hl.1 rfl (lv_room (Nat.le_of_ble_eq_true rfl)) dX1_dequeue_68 ⟨Nat.le_of_ble_eq_true rfl, Nat.le_of_ble_eq_true rfl⟩) hS (fun q _ h => hFc q h) hFc (fun r9 g t H1 locs ht hvm hwq hB hz1 hk1 hS => ?_)
    have hw : hp_pm (upd f 0 (f (n - 1))) g (n - 1) ∧ hp_or v g (n - 1) 0 := hwq
    obtain ⟨hP1, hK1, hD1⟩ := hB
    rw [ht] at hP1
    obtain ⟨hP, hD⟩ := va_join (wr := [(aq, .inr (1, [.ref av, .ref ah, .int (nI (n - 1)), .null]))]) (w1 := [(av, .inl (dV, 64, .inl v)), (ah, .inl (dH, 64, .inl g))]) hP hD [1, 2] [0] rfl rfl (by decide) (by decide) hk1 hFc hP1 hD1
    generalize H1 = H at hP hS ⊢
    have hP : va_P (dC, dI) vwCl [(aq, .inr (1, [.ref av, .ref ah, .int (nI (n - 1)), .null])), (av, .inl (dV, 64, .inl v)), (ah, .inl (dH, 64, .inl g))] H := hP
    have hD : va_D A [(aq, .inr (1, [.ref av, .ref ah, .int (nI (n - 1)), .null])), (av, .inl (dV, 64, .inl v)), (ah, .inl (dH, 64, .inl g))] := hD
    refine lv_pop hx hb dX1_dequeue_71 rfl ?_
    refine lv_iload_n hx hb dX1_dequeue_72 rfl (lv_at hl 0 rfl) ?_
    have hP9 := hP.sub (ws' := [(aq, .inr (1, [.ref av, .ref ah, .int (nI (n - 1)), .null])), (av, .inl (dV, 64, .inl v)), (ah, .inl (dH, 64, .inl g))]) [0, 1, 2] rfl
    have hD9 := hD.sub (ws' := [(aq, .inr (1, [.ref av, .ref ah, .int (nI (n - 1)), .null])), (av, .inl (dV, 64, .inl v)), (ah, .inl (dH, 64, .inl g))]) [0, 1, 2] (by decide) rfl
    have hK9 := hK.sub (tys' := [(dV, .int), (dH, .int)]) [0, 1] rfl
    exact W.iret (v := r8) hx hb hr (fun t ht hW => ⟨⟨r8, g, rfl, ⟨hr8, hw⟩, by rw [ht]; exact hP9, va_K.moved hW.alike hK9, hD9⟩, hS.F ht⟩) hS.2.2 dX1_dequeue_73
set_option maxHeartbeats 4000000 in
set_option maxRecDepth 100000 in
/-- changed(): the root sinks -/
theorem metX1_changed (l : Launch) (dC : Nat → ClassId) (dI : Nat → Nat → Nat) (aq : Nat) (av : Nat) (ah : Nat) (dV : ClassId) (dH : ClassId) (v : Nat → Int32) (f : Nat → Int32) (n : Nat) (sz : Nat) (hn0 : 0 < n) (hn : n ≤ 64) (hok : hp_ok f n) (hor : hp_or v f n 1) : Met l yX1_changed (ws_ yX1_changed cX1_changed 1 none) ({ frames := 1, cells := 0, slots := 0, locals := 29 }) (va_Pc [.ref aq] (fun U => U.heap.size = sz ∧ va_P (dC, dI) vwCl [(aq, .inr (1, [.ref av, .ref ah, .int (nI n), .null])), (av, .inl (dV, 64, .inl v)), (ah, .inl (dH, 64, .inl f))] U.heap ∧ va_K (dC, dI) vwCl [(dV, .int), (dH, .int)] U ∧ va_D (fun _ => True) [(aq, .inr (1, [.ref av, .ref ah, .int (nI n), .null])), (av, .inl (dV, 64, .inl v)), (ah, .inl (dH, 64, .inl f))])) (va_Qv (fun (u : Nat → Int32) => hp_pm f u n ∧ hp_or v u n 0) (fun (u : Nat → Int32) (t : State) => va_P (dC, dI) vwCl [(aq, .inr (1, [.ref av, .ref ah, .int (nI n), .null])), (av, .inl (dV, 64, .inl v)), (ah, .inl (dH, 64, .inl u))] t.heap ∧ va_K (dC, dI) vwCl [(dV, .int), (dH, .int)] t ∧ va_D (va_A [(aq, .inr (1, [.ref av, .ref ah, .int (nI n), .null])), (av, .inl (dV, 64, .inl v)), (ah, .inl (dH, 64, .inl f))] sz) [(aq, .inr (1, [.ref av, .ref ah, .int (nI n), .null])), (av, .inl (dV, 64, .inl v)), (ah, .inl (dH, 64, .inl u))]) (va_A [(aq, .inr (1, [.ref av, .ref ah, .int (nI n), .null])), (av, .inl (dV, 64, .inl v)), (ah, .inl (dH, 64, .inl f))] sz)) 0 0 (va_A [(aq, .inr (1, [.ref av, .ref ah, .int (nI n), .null])), (av, .inl (dV, 64, .inl v)), (ah, .inl (dH, 64, .inl f))] sz) := by
  refine Met.ofW (cc := cX1_changed) (maxL := 1) (ret := none) (by decide) rfl ?_
  intro p e s m args below meth c s₁ B hml hvv
  obtain ⟨rfl, hsz, hP, hK, hD0⟩ := hvv
  have hx := B.exec
  have hb := B.bytes
  have hr := B.returns
  have hts := atoms_spec (ws := (ws_ yX1_changed cX1_changed 1 none)) B.pre
  have hts : ∀ w ∈ lw_all, w.before _ s = true := fun w h => hts w (List.mem_cons_of_mem _ h)
  have hown : s.vm.findClass RX1 = some m.cls := findClass_of_methodNamed B.named
  have hlocks := B.notSynchronized
  subst hsz
  have hD := hD0.self (sz := s.heap.size)
  generalize hAe : va_A [(aq, .inr (1, [.ref av, .ref ah, .int (nI n), .null])), (av, .inl (dV, 64, .inl v)), (ah, .inl (dH, 64, .inl f))] s.heap.size = A at hD ⊢
  have hA : ∀ q : Nat, s.heap.size ≤ q → A q := fun q h => by rw [← hAe]; exact Or.inr h
  have hS : va_S A s.heap s.heap [] := va_S.rf
  have hP : va_P (dC, dI) vwCl [(aq, .inr (1, [.ref av, .ref ah, .int (nI n), .null])), (av, .inl (dV, 64, .inl v)), (ah, .inl (dH, 64, .inl f))] s.heap := hP
  have hl := lv_entry ([.ref aq]) (n := 1) (Nat.le_of_ble_eq_true rfl)
  rw [lg_entry_eq]
  generalize (lg_sl ([.ref aq]) ++ List.replicate (1 - (lg_sl ([.ref aq])).length) Slot.unset).toArray = ls at hl ⊢
  have hl : lv_has ls 1 [(0, .ref aq)] := hl
  refine lv_aload_n hx hb dX1_changed_0 rfl (lv_at hl 0 rfl) ?_
  refine va_get (D := (dC, dI)) (ci := 1) (v := .ref av) (C := RX1) (T := TX1) (N := 4) hx hb hts in_X1 hown hK hP 0 rfl rfl 0 (by decide) (hts _ q34) (fun _ h9 => h9) rfl dX1_changed_1 ?_
  refine lv_aload_n hx hb dX1_changed_4 rfl (lv_at hl 0 rfl) ?_
  refine va_get (D := (dC, dI)) (ci := 1) (v := .ref ah) (C := RX1) (T := TX1) (N := 4) hx hb hts in_X1 hown hK hP 0 rfl rfl 1 (by decide) (hts _ q35) (fun _ h9 => h9) rfl dX1_changed_5 ?_
  refine lv_aload_n hx hb dX1_changed_8 rfl (lv_at hl 0 rfl) ?_
  refine va_get (D := (dC, dI)) (ci := 1) (v := .int (nI n)) (C := RX1) (T := TX1) (N := 4) hx hb hts in_X1 hown hK hP 0 rfl rfl 2 (by decide) (hts _ q36) (fun _ h9 => h9) rfl dX1_changed_9 ?_
  refine lv_iconst (v := (nI 0)) hx hb dX1_changed_12 (by decide +kernel) ?_
  refine lv_aload_n hx hb dX1_changed_13 rfl (lv_at hl 0 rfl) ?_
  refine va_get (D := (dC, dI)) (ci := 1) (v := .null) (C := RX1) (T := TX1) (N := 4) hx hb hts in_X1 hown hK hP 0 rfl rfl 3 (by decide) (hts _ q37) (fun _ h9 => h9) rfl dX1_changed_14 ?_
  have hPc := hP.sub (ws' := [(av, .inl (dV, 64, .inl v)), (ah, .inl (dH, 64, .inl f))]) [1, 2] rfl
  have hDc := hD.sub (ws' := [(av, .inl (dV, 64, .inl v)), (ah, .inl (dH, 64, .inl f))]) [1, 2] (by decide) rfl
  have hKc := hK.sub (tys' := [(dV, .int), (dH, .int)]) [0, 1] rfl
  have hFc := va_free (wc := [(av, .inl (dV, 64, .inl v)), (ah, .inl (dH, 64, .inl f))]) hD hS hA [1, 2] rfl
  refine va_calli (va_runS (As := [.ref av, .ref ah, .int (nI n), .int (nI 0), .null]) (rest := []) ⟨hx, hb, hml, hown, hts⟩ (metX4_downHeap l dC dI av ah dV dH v f n 0 0 s.heap.size hn hn0 hok (Nat.le_refl 0) (hp_dn_of hor)) (va_cwS 5 hts (lw_S q202 q203 q13 q204) rfl rfl rfl (by decide +kernel) ⟨Nat.le_of_ble_eq_true rfl, Nat.le_of_ble_eq_true rfl⟩) ⟨fun a U g mk q => by obtain ⟨q0, q1, qP, qK, qD⟩ := q; exact ⟨q0, q1, qP, va_K.moved (u := U) (U := U.calling g mk a) (Vm.Alike.refl U.vm) qK, qD⟩, fun U hU hW => ⟨rfl, by rw [hU], by rw [hU]; exact hPc, va_K.moved hW.alike hKc, hDc.weaken (fun _ _ _ _ => trivial)⟩⟩ rfl rfl hl.1 rfl (lv_room (Nat.le_of_ble_eq_true rfl)) dX1_changed_17 ⟨Nat.le_of_ble_eq_true rfl, Nat.le_of_ble_eq_true rfl⟩) hS (fun q _ h => hFc q h) hFc (fun r9 g t H1 locs ht hvm hwq hB hz1 hk1 hS => ?_)
  have hw : hp_pm f g n ∧ hp_or v g n 0 := hwq
  obtain ⟨hP1, hK1, hD1⟩ := hB
  rw [ht] at hP1
  obtain ⟨hP, hD⟩ := va_join (wr := [(aq, .inr (1, [.ref av, .ref ah, .int (nI n), .null]))]) (w1 := [(av, .inl (dV, 64, .inl v)), (ah, .inl (dH, 64, .inl g))]) hP hD [1, 2] [0] rfl rfl (by decide) (by decide) hk1 hFc hP1 hD1
  generalize H1 = H at hP hS ⊢
  have hP : va_P (dC, dI) vwCl [(aq, .inr (1, [.ref av, .ref ah, .int (nI n), .null])), (av, .inl (dV, 64, .inl v)), (ah, .inl (dH, 64, .inl g))] H := hP
  have hD : va_D A [(aq, .inr (1, [.ref av, .ref ah, .int (nI n), .null])), (av, .inl (dV, 64, .inl v)), (ah, .inl (dH, 64, .inl g))] := hD
  refine lv_pop hx hb dX1_changed_20 rfl ?_
  have hP9 := hP.sub (ws' := [(aq, .inr (1, [.ref av, .ref ah, .int (nI n), .null])), (av, .inl (dV, 64, .inl v)), (ah, .inl (dH, 64, .inl g))]) [0, 1, 2] rfl
  have hD9 := hD.sub (ws' := [(aq, .inr (1, [.ref av, .ref ah, .int (nI n), .null])), (av, .inl (dV, 64, .inl v)), (ah, .inl (dH, 64, .inl g))]) [0, 1, 2] (by decide) rfl
  have hK9 := hK.sub (tys' := [(dV, .int), (dH, .int)]) [0, 1] rfl
  exact W.vret hx hb hr (fun t ht hW => ⟨⟨g, rfl, hw, by rw [ht]; exact hP9, va_K.moved hW.alike hK9, hD9⟩, hS.F ht⟩) hS.2.2 dX1_changed_21
set_option maxHeartbeats 4000000 in
set_option maxRecDepth 100000 in
/-- allChanged(): heap order anew -/
theorem metX1_allChanged (l : Launch) (dC : Nat → ClassId) (dI : Nat → Nat → Nat) (aq : Nat) (av : Nat) (ah : Nat) (dV : ClassId) (dH : ClassId) (v : Nat → Int32) (f : Nat → Int32) (n : Nat) (sz : Nat) (hn : n ≤ 64) (hok : hp_ok f n) : Met l yX1_allChanged (ws_ yX1_allChanged cX1_allChanged 1 none) ({ frames := 2, cells := 0, slots := 0, locals := 53 }) (va_Pc [.ref aq] (fun U => U.heap.size = sz ∧ va_P (dC, dI) vwCl [(aq, .inr (1, [.ref av, .ref ah, .int (nI n), .null])), (av, .inl (dV, 64, .inl v)), (ah, .inl (dH, 64, .inl f))] U.heap ∧ va_K (dC, dI) vwCl [(dV, .int), (dH, .int)] U ∧ va_D (fun _ => True) [(aq, .inr (1, [.ref av, .ref ah, .int (nI n), .null])), (av, .inl (dV, 64, .inl v)), (ah, .inl (dH, 64, .inl f))])) (va_Qv (fun (u : Nat → Int32) => hp_pm f u n ∧ hp_or v u n 0) (fun (u : Nat → Int32) (t : State) => va_P (dC, dI) vwCl [(aq, .inr (1, [.ref av, .ref ah, .int (nI n), .null])), (av, .inl (dV, 64, .inl v)), (ah, .inl (dH, 64, .inl u))] t.heap ∧ va_K (dC, dI) vwCl [(dV, .int), (dH, .int)] t ∧ va_D (va_A [(aq, .inr (1, [.ref av, .ref ah, .int (nI n), .null])), (av, .inl (dV, 64, .inl v)), (ah, .inl (dH, 64, .inl f))] sz) [(aq, .inr (1, [.ref av, .ref ah, .int (nI n), .null])), (av, .inl (dV, 64, .inl v)), (ah, .inl (dH, 64, .inl u))]) (va_A [(aq, .inr (1, [.ref av, .ref ah, .int (nI n), .null])), (av, .inl (dV, 64, .inl v)), (ah, .inl (dH, 64, .inl f))] sz)) 0 0 (va_A [(aq, .inr (1, [.ref av, .ref ah, .int (nI n), .null])), (av, .inl (dV, 64, .inl v)), (ah, .inl (dH, 64, .inl f))] sz) := by
  refine Met.ofW (cc := cX1_allChanged) (maxL := 1) (ret := none) (by decide) rfl ?_
  intro p e s m args below meth c s₁ B hml hvv
  obtain ⟨rfl, hsz, hP, hK, hD0⟩ := hvv
  have hx := B.exec
  have hb := B.bytes
  have hr := B.returns
  have hts := atoms_spec (ws := (ws_ yX1_allChanged cX1_allChanged 1 none)) B.pre
  have hts : ∀ w ∈ lw_all, w.before _ s = true := fun w h => hts w (List.mem_cons_of_mem _ h)
  have hown : s.vm.findClass RX1 = some m.cls := findClass_of_methodNamed B.named
  have hlocks := B.notSynchronized
  subst hsz
  have hD := hD0.self (sz := s.heap.size)
  generalize hAe : va_A [(aq, .inr (1, [.ref av, .ref ah, .int (nI n), .null])), (av, .inl (dV, 64, .inl v)), (ah, .inl (dH, 64, .inl f))] s.heap.size = A at hD ⊢
  have hA : ∀ q : Nat, s.heap.size ≤ q → A q := fun q h => by rw [← hAe]; exact Or.inr h
  have hS : va_S A s.heap s.heap [] := va_S.rf
  have hP : va_P (dC, dI) vwCl [(aq, .inr (1, [.ref av, .ref ah, .int (nI n), .null])), (av, .inl (dV, 64, .inl v)), (ah, .inl (dH, 64, .inl f))] s.heap := hP
  have hl := lv_entry ([.ref aq]) (n := 1) (Nat.le_of_ble_eq_true rfl)
  rw [lg_entry_eq]
  generalize (lg_sl ([.ref aq]) ++ List.replicate (1 - (lg_sl ([.ref aq])).length) Slot.unset).toArray = ls at hl ⊢
  have hl : lv_has ls 1 [(0, .ref aq)] := hl
  refine lv_aload_n hx hb dX1_allChanged_0 rfl (lv_at hl 0 rfl) ?_
  refine va_get (D := (dC, dI)) (ci := 1) (v := .ref av) (C := RX1) (T := TX1) (N := 4) hx hb hts in_X1 hown hK hP 0 rfl rfl 0 (by decide) (hts _ q34) (fun _ h9 => h9) rfl dX1_allChanged_1 ?_
  refine lv_aload_n hx hb dX1_allChanged_4 rfl (lv_at hl 0 rfl) ?_
  refine va_get (D := (dC, dI)) (ci := 1) (v := .ref ah) (C := RX1) (T := TX1) (N := 4) hx hb hts in_X1 hown hK hP 0 rfl rfl 1 (by decide) (hts _ q35) (fun _ h9 => h9) rfl dX1_allChanged_5 ?_
  refine lv_aload_n hx hb dX1_allChanged_8 rfl (lv_at hl 0 rfl) ?_
  refine va_get (D := (dC, dI)) (ci := 1) (v := .int (nI n)) (C := RX1) (T := TX1) (N := 4) hx hb hts in_X1 hown hK hP 0 rfl rfl 2 (by decide) (hts _ q36) (fun _ h9 => h9) rfl dX1_allChanged_9 ?_
  refine lv_aload_n hx hb dX1_allChanged_12 rfl (lv_at hl 0 rfl) ?_
  refine va_get (D := (dC, dI)) (ci := 1) (v := .null) (C := RX1) (T := TX1) (N := 4) hx hb hts in_X1 hown hK hP 0 rfl rfl 3 (by decide) (hts _ q37) (fun _ h9 => h9) rfl dX1_allChanged_13 ?_
  have hPc := hP.sub (ws' := [(av, .inl (dV, 64, .inl v)), (ah, .inl (dH, 64, .inl f))]) [1, 2] rfl
  have hDc := hD.sub (ws' := [(av, .inl (dV, 64, .inl v)), (ah, .inl (dH, 64, .inl f))]) [1, 2] (by decide) rfl
  have hKc := hK.sub (tys' := [(dV, .int), (dH, .int)]) [0, 1] rfl
  have hFc := va_free (wc := [(av, .inl (dV, 64, .inl v)), (ah, .inl (dH, 64, .inl f))]) hD hS hA [1, 2] rfl
  refine va_callv (va_runS (As := [.ref av, .ref ah, .int (nI n), .null]) (rest := []) ⟨hx, hb, hml, hown, hts⟩ (metX4_makeHeap l dC dI av ah dV dH v f n s.heap.size hn hok) (va_cwS 4 hts (lw_S q221 q222 q13 q223) rfl rfl rfl (by decide +kernel) ⟨Nat.le_of_ble_eq_true rfl, Nat.le_of_ble_eq_true rfl⟩) ⟨fun a U g mk q => by obtain ⟨q0, q1, qP, qK, qD⟩ := q; exact ⟨q0, q1, qP, va_K.moved (u := U) (U := U.calling g mk a) (Vm.Alike.refl U.vm) qK, qD⟩, fun U hU hW => ⟨rfl, by rw [hU], by rw [hU]; exact hPc, va_K.moved hW.alike hKc, hDc.weaken (fun _ _ _ _ => trivial)⟩⟩ rfl rfl hl.1 rfl (lv_room (Nat.le_of_ble_eq_true rfl)) dX1_allChanged_16 ⟨Nat.le_of_ble_eq_true rfl, Nat.le_of_ble_eq_true rfl⟩) hS (fun q _ h => hFc q h) hFc (fun g t H1 locs ht hvm hwq hB hz1 hk1 hS => ?_)
  have hw : hp_pm f g n ∧ hp_or v g n 0 := hwq
  obtain ⟨hP1, hK1, hD1⟩ := hB
  rw [ht] at hP1
  obtain ⟨hP, hD⟩ := va_join (wr := [(aq, .inr (1, [.ref av, .ref ah, .int (nI n), .null]))]) (w1 := [(av, .inl (dV, 64, .inl v)), (ah, .inl (dH, 64, .inl g))]) hP hD [1, 2] [0] rfl rfl (by decide) (by decide) hk1 hFc hP1 hD1
  generalize H1 = H at hP hS ⊢
  have hP : va_P (dC, dI) vwCl [(aq, .inr (1, [.ref av, .ref ah, .int (nI n), .null])), (av, .inl (dV, 64, .inl v)), (ah, .inl (dH, 64, .inl g))] H := hP
  have hD : va_D A [(aq, .inr (1, [.ref av, .ref ah, .int (nI n), .null])), (av, .inl (dV, 64, .inl v)), (ah, .inl (dH, 64, .inl g))] := hD
  have hP9 := hP.sub (ws' := [(aq, .inr (1, [.ref av, .ref ah, .int (nI n), .null])), (av, .inl (dV, 64, .inl v)), (ah, .inl (dH, 64, .inl g))]) [0, 1, 2] rfl
  have hD9 := hD.sub (ws' := [(aq, .inr (1, [.ref av, .ref ah, .int (nI n), .null])), (av, .inl (dV, 64, .inl v)), (ah, .inl (dH, 64, .inl g))]) [0, 1, 2] (by decide) rfl
  have hK9 := hK.sub (tys' := [(dV, .int), (dH, .int)]) [0, 1] rfl
  exact W.vret hx hb hr (fun t ht hW => ⟨⟨g, rfl, hw, by rw [ht]; exact hP9, va_K.moved hW.alike hK9, hD9⟩, hS.F ht⟩) hS.2.2 dX1_allChanged_19
set_option maxHeartbeats 4000000 in
set_option maxRecDepth 100000 in
/-- front(a) -/
theorem metX1_front (l : Launch) (dC : Nat → ClassId) (dI : Nat → Nat → Nat) (aq : Nat) (av : Nat) (ah : Nat) (dV : ClassId) (dH : ClassId) (v : Nat → Int32) (f : Nat → Int32) (n : Nat) (az : Nat) (dZ : ClassId) (z : Nat → Int32) (sz : Nat) (hn0 : 0 < n) (hn : n ≤ 64) (hok : hp_ok f n) (hne : ∀ j, 0 < j → j < n → ¬ v (f 0).toNatClampNeg = v (f j).toNatClampNeg) : Met l yX1_front (ws_ yX1_front cX1_front 2 (some .int)) ({ frames := 2, cells := 0, slots := 0, locals := 42 }) (va_Pc [.ref aq, .ref az] (fun U => U.heap.size = sz ∧ va_P (dC, dI) vwCl [(aq, .inr (1, [.ref av, .ref ah, .int (nI n), .null])), (av, .inl (dV, 64, .inl v)), (ah, .inl (dH, 64, .inl f)), (az, .inl (dZ, 64, .inl z))] U.heap ∧ va_K (dC, dI) vwCl [(dV, .int), (dH, .int), (dZ, .int)] U ∧ va_D (fun _ => True) [(aq, .inr (1, [.ref av, .ref ah, .int (nI n), .null])), (av, .inl (dV, 64, .inl v)), (ah, .inl (dH, 64, .inl f)), (az, .inl (dZ, 64, .inl z))])) (va_Qi (fun (r : Int32) (u : Unit) => r = nI 1) (fun (u : Unit) (t : State) => va_P (dC, dI) vwCl [(aq, .inr (1, [.ref av, .ref ah, .int (nI n), .null])), (av, .inl (dV, 64, .inl v)), (ah, .inl (dH, 64, .inl f)), (az, .inl (dZ, 64, .inl (upd z 0 (f 0))))] t.heap ∧ va_K (dC, dI) vwCl [(dV, .int), (dH, .int), (dZ, .int)] t ∧ va_D (va_A [(aq, .inr (1, [.ref av, .ref ah, .int (nI n), .null])), (av, .inl (dV, 64, .inl v)), (ah, .inl (dH, 64, .inl f)), (az, .inl (dZ, 64, .inl z))] sz) [(aq, .inr (1, [.ref av, .ref ah, .int (nI n), .null])), (av, .inl (dV, 64, .inl v)), (ah, .inl (dH, 64, .inl f)), (az, .inl (dZ, 64, .inl (upd z 0 (f 0))))]) (va_A [(aq, .inr (1, [.ref av, .ref ah, .int (nI n), .null])), (av, .inl (dV, 64, .inl v)), (ah, .inl (dH, 64, .inl f)), (az, .inl (dZ, 64, .inl z))] sz)) 0 0 (va_A [(aq, .inr (1, [.ref av, .ref ah, .int (nI n), .null])), (av, .inl (dV, 64, .inl v)), (ah, .inl (dH, 64, .inl f)), (az, .inl (dZ, 64, .inl z))] sz) := by
  refine Met.ofW (cc := cX1_front) (maxL := 2) (ret := (some .int)) (by decide) rfl ?_
  intro p e s m args below meth c s₁ B hml hvv
  obtain ⟨rfl, hsz, hP, hK, hD0⟩ := hvv
  have hx := B.exec
  have hb := B.bytes
  have hr := B.returns
  have hts := atoms_spec (ws := (ws_ yX1_front cX1_front 2 (some .int))) B.pre
  have hts : ∀ w ∈ lw_all, w.before _ s = true := fun w h => hts w (List.mem_cons_of_mem _ h)
  have hown : s.vm.findClass RX1 = some m.cls := findClass_of_methodNamed B.named
  have hlocks := B.notSynchronized
  subst hsz
  have hD := hD0.self (sz := s.heap.size)
  generalize hAe : va_A [(aq, .inr (1, [.ref av, .ref ah, .int (nI n), .null])), (av, .inl (dV, 64, .inl v)), (ah, .inl (dH, 64, .inl f)), (az, .inl (dZ, 64, .inl z))] s.heap.size = A at hD ⊢
  have hA : ∀ q : Nat, s.heap.size ≤ q → A q := fun q h => by rw [← hAe]; exact Or.inr h
  have hS : va_S A s.heap s.heap [] := va_S.rf
  have hP : va_P (dC, dI) vwCl [(aq, .inr (1, [.ref av, .ref ah, .int (nI n), .null])), (av, .inl (dV, 64, .inl v)), (ah, .inl (dH, 64, .inl f)), (az, .inl (dZ, 64, .inl z))] s.heap := hP
  have hl := lv_entry ([.ref aq, .ref az]) (n := 2) (Nat.le_of_ble_eq_true rfl)
  rw [lg_entry_eq]
  generalize (lg_sl ([.ref aq, .ref az]) ++ List.replicate (2 - (lg_sl ([.ref aq, .ref az])).length) Slot.unset).toArray = ls at hl ⊢
  have hl : lv_has ls 2 [(0, .ref aq), (1, .ref az)] := hl
  refine lv_aload_n hx hb dX1_front_0 rfl (lv_at hl 0 rfl) ?_
  refine va_get (D := (dC, dI)) (ci := 1) (v := .null) (C := RX1) (T := TX1) (N := 4) hx hb hts in_X1 hown hK hP 0 rfl rfl 3 (by decide) (hts _ q37) (fun _ h9 => h9) rfl dX1_front_1 ?_
  refine lv_ifnonnullN hx hb dX1_front_4 ?_
  refine lv_aload_n hx hb dX1_front_7 rfl (lv_at hl 0 rfl) ?_
  refine va_get (D := (dC, dI)) (ci := 1) (v := .ref av) (C := RX1) (T := TX1) (N := 4) hx hb hts in_X1 hown hK hP 0 rfl rfl 0 (by decide) (hts _ q34) (fun _ h9 => h9) rfl dX1_front_8 ?_
  refine lv_aload_n hx hb dX1_front_11 rfl (lv_at hl 0 rfl) ?_
  refine va_get (D := (dC, dI)) (ci := 1) (v := .ref ah) (C := RX1) (T := TX1) (N := 4) hx hb hts in_X1 hown hK hP 0 rfl rfl 1 (by decide) (hts _ q35) (fun _ h9 => h9) rfl dX1_front_12 ?_
  refine lv_aload_n hx hb dX1_front_15 rfl (lv_at hl 0 rfl) ?_
  refine va_get (D := (dC, dI)) (ci := 1) (v := .int (nI n)) (C := RX1) (T := TX1) (N := 4) hx hb hts in_X1 hown hK hP 0 rfl rfl 2 (by decide) (hts _ q36) (fun _ h9 => h9) rfl dX1_front_16 ?_
  refine lv_aload_n hx hb dX1_front_19 rfl (lv_at hl 1 rfl) ?_
  have hPc := hP.sub (ws' := [(av, .inl (dV, 64, .inl v)), (ah, .inl (dH, 64, .inl f)), (az, .inl (dZ, 64, .inl z))]) [1, 2, 3] rfl
  have hDc := hD.sub (ws' := [(av, .inl (dV, 64, .inl v)), (ah, .inl (dH, 64, .inl f)), (az, .inl (dZ, 64, .inl z))]) [1, 2, 3] (by decide) rfl
  have hKc := hK.sub (tys' := [(dV, .int), (dH, .int), (dZ, .int)]) [0, 1, 2] rfl
  have hFc := va_free (wc := [(av, .inl (dV, 64, .inl v)), (ah, .inl (dH, 64, .inl f)), (az, .inl (dZ, 64, .inl z))]) hD hS hA [1, 2, 3] rfl
  refine va_calli (va_runS (As := [.ref av, .ref ah, .int (nI n), .ref az]) (rest := []) ⟨hx, hb, hml, hown, hts⟩ (metX4_front l dC dI av ah dV dH v f n az dZ z s.heap.size hn0 hn hok hne) (va_cwS 4 hts (lw_S q233 q234 q13 q235) rfl rfl rfl (by decide +kernel) ⟨Nat.le_of_ble_eq_true rfl, Nat.le_of_ble_eq_true rfl⟩) ⟨fun a U g mk q => by obtain ⟨q0, q1, qP, qK, qD⟩ := q; exact ⟨q0, q1, qP, va_K.moved (u := U) (U := U.calling g mk a) (Vm.Alike.refl U.vm) qK, qD⟩, fun U hU hW => ⟨rfl, by rw [hU], by rw [hU]; exact hPc, va_K.moved hW.alike hKc, hDc.weaken (fun _ _ _ _ => trivial)⟩⟩ rfl rfl hl.1 rfl (lv_room (Nat.le_of_ble_eq_true rfl)) dX1_front_20 ⟨Nat.le_of_ble_eq_true rfl, Nat.le_of_ble_eq_true rfl⟩) hS (fun q _ h => hFc q h) hFc (fun r9 g t H1 locs ht hvm hwq hB hz1 hk1 hS => ?_)
  have hw : r9 = nI 1 := hwq
  obtain ⟨hP1, hK1, hD1⟩ := hB
  rw [ht] at hP1
  obtain ⟨hP, hD⟩ := va_join (wr := [(aq, .inr (1, [.ref av, .ref ah, .int (nI n), .null]))]) (w1 := [(av, .inl (dV, 64, .inl v)), (ah, .inl (dH, 64, .inl f)), (az, .inl (dZ, 64, .inl (upd z 0 (f 0))))]) hP hD [1, 2, 3] [0] rfl rfl (by decide) (by decide) hk1 hFc hP1 hD1
  generalize H1 = H at hP hS ⊢
  have hP : va_P (dC, dI) vwCl [(aq, .inr (1, [.ref av, .ref ah, .int (nI n), .null])), (av, .inl (dV, 64, .inl v)), (ah, .inl (dH, 64, .inl f)), (az, .inl (dZ, 64, .inl (upd z 0 (f 0))))] H := hP
  have hD : va_D A [(aq, .inr (1, [.ref av, .ref ah, .int (nI n), .null])), (av, .inl (dV, 64, .inl v)), (ah, .inl (dH, 64, .inl f)), (az, .inl (dZ, 64, .inl (upd z 0 (f 0))))] := hD
  refine lv_goto (tgt := 46) hx hb dX1_front_23 (by decide) ?_
  have hP9 := hP.sub (ws' := [(aq, .inr (1, [.ref av, .ref ah, .int (nI n), .null])), (av, .inl (dV, 64, .inl v)), (ah, .inl (dH, 64, .inl f)), (az, .inl (dZ, 64, .inl (upd z 0 (f 0))))]) [0, 1, 2, 3] rfl
  have hD9 := hD.sub (ws' := [(aq, .inr (1, [.ref av, .ref ah, .int (nI n), .null])), (av, .inl (dV, 64, .inl v)), (ah, .inl (dH, 64, .inl f)), (az, .inl (dZ, 64, .inl (upd z 0 (f 0))))]) [0, 1, 2, 3] (by decide) rfl
  have hK9 := hK.sub (tys' := [(dV, .int), (dH, .int), (dZ, .int)]) [0, 1, 2] rfl
  exact W.iret (v := r9) hx hb hr (fun t ht hW => ⟨⟨r9, (), rfl, hw, by rw [ht]; exact hP9, va_K.moved hW.alike hK9, hD9⟩, hS.F ht⟩) hS.2.2 dX1_front_46
set_option maxHeartbeats 4000000 in
set_option maxRecDepth 100000 in
/-- new queue over the values, room for 64 -/
theorem metX1_init_2 (l : Launch) (dC : Nat → ClassId) (dI : Nat → Nat → Nat) (aq : Nat) (av : Nat) (tE : Nat) (sz : Nat)  : Met l yX1_init_2 (ws_ yX1_init_2 cX1_init_2 4 none) ({ frames := 1, cells := 1, slots := 64, locals := 20 }) (va_Pc [.ref aq, .ref av, .int (nI 64), .null] (fun U => U.heap.size = sz ∧ va_P (dC, dI) vwCl [(aq, .inr (1, [.null, .null, .int 0, .null]))] U.heap ∧ va_K (dC, dI) vwCl [] U ∧ va_D (fun _ => True) [(aq, .inr (1, [.null, .null, .int 0, .null]))] ∧ va_Z "IntArrays" "EMPTY_ARRAY" "[I" (.ref tE) (va_A [(aq, .inr (1, [.null, .null, .int 0, .null]))] sz) U U.heap)) (va_Qv (fun (u : Unit) => True) (fun (u : Unit) (t : State) => ∃ (ah : Nat), ∃ (dH : ClassId), va_P (dC, dI) vwCl [(aq, .inr (1, [.ref av, .ref ah, .int 0, .null])), (ah, .inl (dH, 64, .inl (fun _ => 0)))] t.heap ∧ va_K (dC, dI) vwCl [(dH, .int)] t ∧ va_D (va_A [(aq, .inr (1, [.null, .null, .int 0, .null]))] sz) [(aq, .inr (1, [.ref av, .ref ah, .int 0, .null])), (ah, .inl (dH, 64, .inl (fun _ => 0)))]) (va_A [(aq, .inr (1, [.null, .null, .int 0, .null]))] sz)) 1 64 (va_A [(aq, .inr (1, [.null, .null, .int 0, .null]))] sz) := by
  refine Met.ofW (cc := cX1_init_2) (maxL := 4) (ret := none) (by decide) rfl ?_
  intro p e s m args below meth c s₁ B hml hvv
  obtain ⟨rfl, hsz, hP, hK, hD0, hZ⟩ := hvv
  have hx := B.exec
  have hb := B.bytes
  have hr := B.returns
  have hts := atoms_spec (ws := (ws_ yX1_init_2 cX1_init_2 4 none)) B.pre
  have hts : ∀ w ∈ lw_all, w.before _ s = true := fun w h => hts w (List.mem_cons_of_mem _ h)
  have hown : s.vm.findClass RX1 = some m.cls := findClass_of_methodNamed B.named
  have hlocks := B.notSynchronized
  have hin : meth.name = "<init>" := (name_of_methodNamed B.named B.method).1
  subst hsz
  have hD := hD0.self (sz := s.heap.size)
  generalize hAe : va_A [(aq, .inr (1, [.null, .null, .int 0, .null]))] s.heap.size = A at hD hZ ⊢
  have hA : ∀ q : Nat, s.heap.size ≤ q → A q := fun q h => by rw [← hAe]; exact Or.inr h
  have hS : va_S A s.heap s.heap [] := va_S.rf
  have hP : va_P (dC, dI) vwCl [(aq, .inr (1, [.null, .null, .int 0, .null]))] s.heap := hP
  have hl := lv_entry ([.ref aq, .ref av, .int (nI 64), .null]) (n := 4) (Nat.le_of_ble_eq_true rfl)
  rw [lg_entry_eq]
  generalize (lg_sl ([.ref aq, .ref av, .int (nI 64), .null]) ++ List.replicate (4 - (lg_sl ([.ref aq, .ref av, .int (nI 64), .null])).length) Slot.unset).toArray = ls at hl ⊢
  have hl : lv_has ls 4 [(0, .ref aq), (1, .ref av), (2, .int (nI 64)), (3, .null)] := hl
  refine lv_aload_n hx hb dX1_init_2_0 rfl (lv_at hl 0 rfl) ?_
  refine W.objInit hx hb hown (hts _ q31) (hts _ q21) (hts _ q22) rfl (by rw [hml]; exact hl.1) rfl dX1_init_2_1 (Nat.le_of_ble_eq_true rfl) (Nat.le_of_ble_eq_true rfl) ?_
  refine W.eq (g2 := F0 m 4 ls []) rfl ?_
  refine lv_aload_n hx hb dX1_init_2_4 rfl (lv_at hl 0 rfl) ?_
  refine va_gets (C := "IntArrays") (n := "EMPTY_ARRAY") (d := "[I") hx hb hZ hS hown (hts _ q32) (fun _ h9 => h9) dX1_init_2_5 ?_
  refine va_put (D := (dC, dI)) (ci := 1) (v := .ref tE) (ty := .array .int) (C := RX1) (T := TX1) (N := 4) hx hb hts in_X1 tyX1 tyX1_ok nmX1 hown hK hP hD hS 0 rfl rfl 1 (by decide) (hts _ q35) (fun _ h9 => h9) rfl (by decide +kernel) rfl rfl (Nat.le_of_ble_eq_true rfl) dX1_init_2_8 (fun H locs hP hD hS => ?_)
  have hP : va_P (dC, dI) vwCl [(aq, .inr (1, [.null, .ref tE, .int 0, .null]))] H := hP
  have hD : va_D A [(aq, .inr (1, [.null, .ref tE, .int 0, .null]))] := hD
  refine lv_iload_n hx hb dX1_init_2_11 rfl (lv_at hl 2 rfl) ?_
  refine lv_if_le (tgt := 22) hx hb dX1_init_2_12 (by decide) (fun c12 => absurd c12 (by decide +kernel)) (fun c12 => ?_)
  refine lv_aload_n hx hb dX1_init_2_15 rfl (lv_at hl 0 rfl) ?_
  refine lv_iload_n hx hb dX1_init_2_16 rfl (lv_at hl 2 rfl) ?_
  refine va_newa (atype := .int) (ty := .int) (N' := 64) (a0 := (64, .inl (fun _ => 0))) hx hb (hts _ q47) rfl hK hP hD hS hA (fun cA => rfl) (by decide +kernel) (by decide +kernel) (Nat.le_of_ble_eq_true rfl) (Nat.le_of_ble_eq_true rfl) (Nat.le_of_ble_eq_true rfl) dX1_init_2_17 (fun ah dH H hK hP hD hS => ?_)
  have hK : va_K (dC, dI) vwCl [(dH, .int)] s := hK
  have hP : va_P (dC, dI) vwCl [(aq, .inr (1, [.null, .ref tE, .int 0, .null])), (ah, .inl (dH, 64, .inl (fun _ => 0)))] H := hP
  have hD : va_D A [(aq, .inr (1, [.null, .ref tE, .int 0, .null])), (ah, .inl (dH, 64, .inl (fun _ => 0)))] := hD
  refine W.widen (k := 1) (n := 64) (Nat.le_of_ble_eq_true rfl) (Nat.le_of_ble_eq_true rfl) ?_
  refine va_put (D := (dC, dI)) (ci := 1) (v := .ref ah) (ty := .array .int) (C := RX1) (T := TX1) (N := 4) hx hb hts in_X1 tyX1 tyX1_ok nmX1 hown hK hP hD hS 0 rfl rfl 1 (by decide) (hts _ q35) (fun _ h9 => h9) rfl (by decide +kernel) rfl rfl (Nat.le_of_ble_eq_true rfl) dX1_init_2_19 (fun H locs hP hD hS => ?_)
  have hP : va_P (dC, dI) vwCl [(aq, .inr (1, [.null, .ref ah, .int 0, .null])), (ah, .inl (dH, 64, .inl (fun _ => 0)))] H := hP
  have hD : va_D A [(aq, .inr (1, [.null, .ref ah, .int 0, .null])), (ah, .inl (dH, 64, .inl (fun _ => 0)))] := hD
  refine lv_aload_n hx hb dX1_init_2_22 rfl (lv_at hl 0 rfl) ?_
  refine lv_aload_n hx hb dX1_init_2_23 rfl (lv_at hl 1 rfl) ?_
  refine va_putF (D := (dC, dI)) (ci := 1) (v := .ref av) (ty := .array .int) (C := RX1) (T := TX1) (N := 4) hx hb hts in_X1 tyX1 tyX1_ok nmX1 hown hK hP hD hS 0 rfl rfl 0 (by decide) (hts _ q34) (fun _ h9 => h9) rfl hin rfl (by decide +kernel) rfl rfl (Nat.le_of_ble_eq_true rfl) dX1_init_2_24 (fun H locs hP hD hS => ?_)
  have hP : va_P (dC, dI) vwCl [(aq, .inr (1, [.ref av, .ref ah, .int 0, .null])), (ah, .inl (dH, 64, .inl (fun _ => 0)))] H := hP
  have hD : va_D A [(aq, .inr (1, [.ref av, .ref ah, .int 0, .null])), (ah, .inl (dH, 64, .inl (fun _ => 0)))] := hD
  refine lv_aload_n hx hb dX1_init_2_27 rfl (lv_at hl 0 rfl) ?_
  refine lv_aload_nN hx hb dX1_init_2_28 rfl (lv_at hl 3 rfl) ?_
  refine va_put (D := (dC, dI)) (ci := 1) (v := .null) (ty := .object "IntComparator") (C := RX1) (T := TX1) (N := 4) hx hb hts in_X1 tyX1 tyX1_ok nmX1 hown hK hP hD hS 0 rfl rfl 3 (by decide) (hts _ q37) (fun _ h9 => h9) rfl (by decide +kernel) rfl rfl (Nat.le_of_ble_eq_true rfl) dX1_init_2_29 (fun H locs hP hD hS => ?_)
  have hP : va_P (dC, dI) vwCl [(aq, .inr (1, [.ref av, .ref ah, .int 0, .null])), (ah, .inl (dH, 64, .inl (fun _ => 0)))] H := hP
  have hD : va_D A [(aq, .inr (1, [.ref av, .ref ah, .int 0, .null])), (ah, .inl (dH, 64, .inl (fun _ => 0)))] := hD
  have hP9 := hP.sub (ws' := [(aq, .inr (1, [.ref av, .ref ah, .int 0, .null])), (ah, .inl (dH, 64, .inl (fun _ => 0)))]) [0, 1] rfl
  have hD9 := hD.sub (ws' := [(aq, .inr (1, [.ref av, .ref ah, .int 0, .null])), (ah, .inl (dH, 64, .inl (fun _ => 0)))]) [0, 1] (by decide) rfl
  have hK9 := hK.sub (tys' := [(dH, .int)]) [0] rfl
  exact W.vret hx hb hr (fun t ht hW => ⟨⟨(), rfl, trivial, ah, dH, by rw [ht]; exact hP9, va_K.moved hW.alike hK9, hD9⟩, hS.F ht⟩) hS.2.2 dX1_init_2_32
set_option maxHeartbeats 4000000 in
set_option maxRecDepth 100000 in
/-- new queue over the values -/
theorem metX1_init (l : Launch) (dC : Nat → ClassId) (dI : Nat → Nat → Nat) (aq : Nat) (av : Nat) (dV : ClassId) (v : Nat → Int32) (tE : Nat) (sz : Nat)  : Met l yX1_init (ws_ yX1_init cX1_init 2 none) ({ frames := 2, cells := 1, slots := 64, locals := 43 }) (va_Pc [.ref aq, .ref av] (fun U => U.heap.size = sz ∧ va_P (dC, dI) vwCl [(aq, .inr (1, [.null, .null, .int 0, .null])), (av, .inl (dV, 64, .inl v))] U.heap ∧ va_K (dC, dI) vwCl [(dV, .int)] U ∧ va_D (fun _ => True) [(aq, .inr (1, [.null, .null, .int 0, .null])), (av, .inl (dV, 64, .inl v))] ∧ va_Z "IntArrays" "EMPTY_ARRAY" "[I" (.ref tE) (va_A [(aq, .inr (1, [.null, .null, .int 0, .null])), (av, .inl (dV, 64, .inl v))] sz) U U.heap)) (va_Qv (fun (u : Unit) => True) (fun (u : Unit) (t : State) => ∃ (ah : Nat), ∃ (dH : ClassId), va_P (dC, dI) vwCl [(aq, .inr (1, [.ref av, .ref ah, .int 0, .null])), (av, .inl (dV, 64, .inl v)), (ah, .inl (dH, 64, .inl (fun _ => 0)))] t.heap ∧ va_K (dC, dI) vwCl [(dV, .int), (dH, .int)] t ∧ va_D (va_A [(aq, .inr (1, [.null, .null, .int 0, .null])), (av, .inl (dV, 64, .inl v))] sz) [(aq, .inr (1, [.ref av, .ref ah, .int 0, .null])), (av, .inl (dV, 64, .inl v)), (ah, .inl (dH, 64, .inl (fun _ => 0)))]) (va_A [(aq, .inr (1, [.null, .null, .int 0, .null])), (av, .inl (dV, 64, .inl v))] sz)) 1 64 (va_A [(aq, .inr (1, [.null, .null, .int 0, .null])), (av, .inl (dV, 64, .inl v))] sz) := by
  refine Met.ofW (cc := cX1_init) (maxL := 2) (ret := none) (by decide) rfl ?_
  intro p e s m args below meth c s₁ B hml hvv
  obtain ⟨rfl, hsz, hP, hK, hD0, hZ⟩ := hvv
  have hx := B.exec
  have hb := B.bytes
  have hr := B.returns
  have hts := atoms_spec (ws := (ws_ yX1_init cX1_init 2 none)) B.pre
  have hts : ∀ w ∈ lw_all, w.before _ s = true := fun w h => hts w (List.mem_cons_of_mem _ h)
  have hown : s.vm.findClass RX1 = some m.cls := findClass_of_methodNamed B.named
  have hlocks := B.notSynchronized
  have hin : meth.name = "<init>" := (name_of_methodNamed B.named B.method).1
  subst hsz
  have hD := hD0.self (sz := s.heap.size)
  generalize hAe : va_A [(aq, .inr (1, [.null, .null, .int 0, .null])), (av, .inl (dV, 64, .inl v))] s.heap.size = A at hD hZ ⊢
  have hA : ∀ q : Nat, s.heap.size ≤ q → A q := fun q h => by rw [← hAe]; exact Or.inr h
  have hS : va_S A s.heap s.heap [] := va_S.rf
  have hP : va_P (dC, dI) vwCl [(aq, .inr (1, [.null, .null, .int 0, .null])), (av, .inl (dV, 64, .inl v))] s.heap := hP
  have hl := lv_entry ([.ref aq, .ref av]) (n := 2) (Nat.le_of_ble_eq_true rfl)
  rw [lg_entry_eq]
  generalize (lg_sl ([.ref aq, .ref av]) ++ List.replicate (2 - (lg_sl ([.ref aq, .ref av])).length) Slot.unset).toArray = ls at hl ⊢
  have hl : lv_has ls 2 [(0, .ref aq), (1, .ref av)] := hl
  refine lv_aload_n hx hb dX1_init_0 rfl (lv_at hl 0 rfl) ?_
  refine lv_aload_n hx hb dX1_init_1 rfl (lv_at hl 1 rfl) ?_
  refine lv_aload_n hx hb dX1_init_2 rfl (lv_at hl 1 rfl) ?_
  refine va_alen (v := nI 64) hx hb hK hP 1 0 rfl rfl rfl dX1_init_3 ?_
  refine lv_null hx hb dX1_init_4 ?_
  have hPc := hP.sub (ws' := [(aq, .inr (1, [.null, .null, .int 0, .null]))]) [0] rfl
  have hDc := hD.sub (ws' := [(aq, .inr (1, [.null, .null, .int 0, .null]))]) [0] (by decide) rfl
  have hKc := hK.sub (tys' := []) [] rfl
  have hFc := va_free (wc := [(aq, .inr (1, [.null, .null, .int 0, .null]))]) hD hS hA [0] rfl
  refine va_callv (va_runI (As := [.ref av, .int (nI 64), .null]) (rest := []) ⟨hx, hb, hml, hown, hts⟩ (metX1_init_2 l dC dI aq av tE s.heap.size ) (cwI 3 hts (lw_meth q30) rfl rfl rfl (hts _ q4) (hts _ q28) (hts _ q29) rfl (by decide +kernel) ⟨Nat.le_of_ble_eq_true rfl, Nat.le_of_ble_eq_true rfl⟩) ⟨fun a U g mk q => by obtain ⟨q0, q1, qP, qK, qD, qZ⟩ := q; exact ⟨q0, q1, qP, va_K.moved (u := U) (U := U.calling g mk a) (Vm.Alike.refl U.vm) qK, qD, va_Z.moved (U := U.calling g mk a) (Vm.Alike.refl U.vm) qZ⟩, fun U hU hW => ⟨rfl, by rw [hU], by rw [hU]; exact hPc, va_K.moved hW.alike hKc, hDc.weaken (fun _ _ _ _ => trivial), by rw [hU]; exact va_Z.moved hW.alike (va_Z.narrow (va_Z.kept hZ hS.2.1) hFc)⟩⟩ rfl rfl hl.1 rfl (lv_room (Nat.le_of_ble_eq_true rfl)) dX1_init_5 ⟨Nat.le_of_ble_eq_true rfl, Nat.le_of_ble_eq_true rfl⟩) hS (fun q _ h => hFc q h) hFc (fun u t H1 locs ht hvm hwq hB hz1 hk1 hS => ?_)
  have hw : True := hwq
  obtain ⟨ah, dH, hP1, hK1, hD1⟩ := hB
  rw [ht] at hP1
  obtain ⟨hP, hD⟩ := va_join (wr := [(av, .inl (dV, 64, .inl v))]) (w1 := [(aq, .inr (1, [.ref av, .ref ah, .int 0, .null])), (ah, .inl (dH, 64, .inl (fun _ => 0)))]) hP hD [0] [1] rfl rfl (by decide) (by decide) hk1 hFc hP1 hD1
  have hK1 := va_K.moved hvm.symm hK1
  have hK := hK.app (hK1.sub (tys' := [(dH, .int)]) [0] rfl)
  have hK : va_K (dC, dI) vwCl [(dV, .int), (dH, .int)] s := hK
  generalize H1 = H at hP hS ⊢
  have hP : va_P (dC, dI) vwCl [(av, .inl (dV, 64, .inl v)), (aq, .inr (1, [.ref av, .ref ah, .int 0, .null])), (ah, .inl (dH, 64, .inl (fun _ => 0)))] H := hP
  have hD : va_D A [(av, .inl (dV, 64, .inl v)), (aq, .inr (1, [.ref av, .ref ah, .int 0, .null])), (ah, .inl (dH, 64, .inl (fun _ => 0)))] := hD
  refine W.widen (k := 1) (n := 64) (Nat.le_of_ble_eq_true rfl) (Nat.le_of_ble_eq_true rfl) ?_
  have hP9 := hP.sub (ws' := [(aq, .inr (1, [.ref av, .ref ah, .int 0, .null])), (av, .inl (dV, 64, .inl v)), (ah, .inl (dH, 64, .inl (fun _ => 0)))]) [1, 0, 2] rfl
  have hD9 := hD.sub (ws' := [(aq, .inr (1, [.ref av, .ref ah, .int 0, .null])), (av, .inl (dV, 64, .inl v)), (ah, .inl (dH, 64, .inl (fun _ => 0)))]) [1, 0, 2] (by decide) rfl
  have hK9 := hK.sub (tys' := [(dV, .int), (dH, .int)]) [0, 1] rfl
  exact W.vret hx hb hr (fun t ht hW => ⟨⟨(), rfl, trivial, ah, dH, by rw [ht]; exact hP9, va_K.moved hW.alike hK9, hD9⟩, hS.F ht⟩) hS.2.2 dX1_init_8
end
section
/-! SemiHeapDesk -/
set_option maxHeartbeats 4000000 in
set_option maxRecDepth 100000 in
/-- change(i, v) -/
theorem metX0_change (l : Launch) (dC : Nat → ClassId) (dI : Nat → Nat → Nat) (ax : Nat) (av : Nat) (ab : Nat) (aq : Nat) (ah : Nat) (dV : ClassId) (dB : ClassId) (dH : ClassId) (v : Nat → Int32) (b : Nat → Int32) (f : Nat → Int32) (n : Nat) (p0 : Int32) (p1 : Int32) (k : Nat) (sz : Nat) (hI0 : sd_I v b f n) (hk : k < 64) (ek : p0 &&& 63 = nI k) : Met l yX0_change (ws_ yX0_change cX0_change 4 (some .boolean)) ({ frames := 0, cells := 0, slots := 0, locals := 0 }) (va_Pc [.ref ax, .int p0, .int p1] (fun U => U.heap.size = sz ∧ va_P (dC, dI) vwCl [(ax, .inr (0, [.ref av, .ref ab, .ref aq])), (av, .inl (dV, 64, .inl v)), (ab, .inl (dB, 64, .inl b)), (aq, .inr (1, [.ref av, .ref ah, .int (nI n), .null])), (ah, .inl (dH, 64, .inl f))] U.heap ∧ va_K (dC, dI) vwCl [(dV, .int), (dB, .boolean), (dH, .int)] U ∧ va_D (fun _ => True) [(ax, .inr (0, [.ref av, .ref ab, .ref aq])), (av, .inl (dV, 64, .inl v)), (ab, .inl (dB, 64, .inl b)), (aq, .inr (1, [.ref av, .ref ah, .int (nI n), .null])), (ah, .inl (dH, 64, .inl f))])) (va_Qi (fun (r : Int32) (u : Nat → Int32) => r = (if b k = 0 then 1 else 0) ∧ u = (if b k = 0 then upd v k (sd_mk p1 (nI k)) else v) ∧ sd_I u b f n) (fun (u : Nat → Int32) (t : State) => va_P (dC, dI) vwCl [(ax, .inr (0, [.ref av, .ref ab, .ref aq])), (av, .inl (dV, 64, .inl u)), (ab, .inl (dB, 64, .inl b)), (aq, .inr (1, [.ref av, .ref ah, .int (nI n), .null])), (ah, .inl (dH, 64, .inl f))] t.heap ∧ va_K (dC, dI) vwCl [(dV, .int), (dB, .boolean), (dH, .int)] t ∧ va_D (va_A [(ax, .inr (0, [.ref av, .ref ab, .ref aq])), (av, .inl (dV, 64, .inl v)), (ab, .inl (dB, 64, .inl b)), (aq, .inr (1, [.ref av, .ref ah, .int (nI n), .null])), (ah, .inl (dH, 64, .inl f))] sz) [(ax, .inr (0, [.ref av, .ref ab, .ref aq])), (av, .inl (dV, 64, .inl u)), (ab, .inl (dB, 64, .inl b)), (aq, .inr (1, [.ref av, .ref ah, .int (nI n), .null])), (ah, .inl (dH, 64, .inl f))]) (va_A [(ax, .inr (0, [.ref av, .ref ab, .ref aq])), (av, .inl (dV, 64, .inl v)), (ab, .inl (dB, 64, .inl b)), (aq, .inr (1, [.ref av, .ref ah, .int (nI n), .null])), (ah, .inl (dH, 64, .inl f))] sz)) 0 0 (va_A [(ax, .inr (0, [.ref av, .ref ab, .ref aq])), (av, .inl (dV, 64, .inl v)), (ab, .inl (dB, 64, .inl b)), (aq, .inr (1, [.ref av, .ref ah, .int (nI n), .null])), (ah, .inl (dH, 64, .inl f))] sz) := by
  refine Met.ofW (cc := cX0_change) (maxL := 4) (ret := (some .boolean)) (by decide) rfl ?_
  intro p e s m args below meth c s₁ B hml hvv
  obtain ⟨rfl, hsz, hP, hK, hD0⟩ := hvv
  have hx := B.exec
  have hb := B.bytes
  have hr := B.returns
  have hts := atoms_spec (ws := (ws_ yX0_change cX0_change 4 (some .boolean))) B.pre
  have hts : ∀ w ∈ lw_all, w.before _ s = true := fun w h => hts w (List.mem_cons_of_mem _ h)
  have hown : s.vm.findClass RX0 = some m.cls := findClass_of_methodNamed B.named
  have hlocks := B.notSynchronized
  subst hsz
  have hD := hD0.self (sz := s.heap.size)
  generalize hAe : va_A [(ax, .inr (0, [.ref av, .ref ab, .ref aq])), (av, .inl (dV, 64, .inl v)), (ab, .inl (dB, 64, .inl b)), (aq, .inr (1, [.ref av, .ref ah, .int (nI n), .null])), (ah, .inl (dH, 64, .inl f))] s.heap.size = A at hD ⊢
  have hA : ∀ q : Nat, s.heap.size ≤ q → A q := fun q h => by rw [← hAe]; exact Or.inr h
  have hS : va_S A s.heap s.heap [] := va_S.rf
  have hP : va_P (dC, dI) vwCl [(ax, .inr (0, [.ref av, .ref ab, .ref aq])), (av, .inl (dV, 64, .inl v)), (ab, .inl (dB, 64, .inl b)), (aq, .inr (1, [.ref av, .ref ah, .int (nI n), .null])), (ah, .inl (dH, 64, .inl f))] s.heap := hP
  have hl := lv_entry ([.ref ax, .int p0, .int p1]) (n := 4) (Nat.le_of_ble_eq_true rfl)
  rw [lg_entry_eq]
  generalize (lg_sl ([.ref ax, .int p0, .int p1]) ++ List.replicate (4 - (lg_sl ([.ref ax, .int p0, .int p1])).length) Slot.unset).toArray = ls at hl ⊢
  have hl : lv_has ls 4 [(0, .ref ax), (1, .int p0), (2, .int p1)] := hl
  refine lv_iload_n hx hb dX0_change_0 rfl (lv_at hl 1 rfl) ?_
  refine lv_bipush (v := 63) hx hb dX0_change_1 (by decide +kernel) ?_
  refine lv_iand hx hb dX0_change_3 ?_
  refine lv_topi (fun y_1 ey_1 => ?_)
  obtain rfl : y_1 = nI k := ey_1.trans (ek)
  refine lv_istore_n (lv' := [(3, .int (nI k)), (0, .ref ax), (1, .int p0), (2, .int p1)]) hx hb dX0_change_4 rfl hl (by decide) rfl (fun ls hl => ?_)
  refine lv_aload_n hx hb dX0_change_5 rfl (lv_at hl 1 rfl) ?_
  refine va_get (D := (dC, dI)) (ci := 0) (v := .ref ab) (C := RX0) (T := TX0) (N := 3) hx hb hts in_X0 hown hK hP 0 rfl rfl 1 (by decide) (hts _ q50) (fun _ h9 => h9) rfl dX0_change_6 ?_
  refine lv_iload_n hx hb dX0_change_9 rfl (lv_at hl 0 rfl) ?_
  refine va_zald hx hb hK hP 2 1 rfl rfl (vp_in_nI (by omega) (by omega)) dX0_change_10 ?_
  refine lv_topi (fun y_2 ey_2 => ?_)
  obtain rfl : y_2 = b k := ey_2.trans (congrArg b (nI_clamp (by omega)))
  refine lv_if_eq (tgt := 16) hx hb dX0_change_11 (by decide) (fun c11 => ?_) (fun c11 => ?_)
  · refine lv_aload_n hx hb dX0_change_16 rfl (lv_at hl 1 rfl) ?_
    refine va_get (D := (dC, dI)) (ci := 0) (v := .ref av) (C := RX0) (T := TX0) (N := 3) hx hb hts in_X0 hown hK hP 0 rfl rfl 0 (by decide) (hts _ q49) (fun _ h9 => h9) rfl dX0_change_17 ?_
    refine lv_iload_n hx hb dX0_change_20 rfl (lv_at hl 0 rfl) ?_
    refine lv_iload_n hx hb dX0_change_21 rfl (lv_at hl 3 rfl) ?_
    refine lv_bipush (v := (-64)) hx hb dX0_change_22 (by decide +kernel) ?_
    refine lv_iand hx hb dX0_change_24 ?_
    refine lv_iload_n hx hb dX0_change_25 rfl (lv_at hl 0 rfl) ?_
    refine lv_ior hx hb dX0_change_26 ?_
    refine va_iast hx hb hK hP hD hS 1 0 rfl rfl (vp_in_nI (by omega) (by omega)) dX0_change_27 (fun H locs hP hD hS => ?_)
    rw [nI_clamp (n := k) (by omega)] at hP hD
    rw [show upd v k ((p1 &&& (-64)) ||| (nI k)) = upd v k (sd_mk p1 (nI k)) from rfl] at hP hD
    have hP : va_P (dC, dI) vwCl [(ax, .inr (0, [.ref av, .ref ab, .ref aq])), (av, .inl (dV, 64, .inl (upd v k (sd_mk p1 (nI k))))), (ab, .inl (dB, 64, .inl b)), (aq, .inr (1, [.ref av, .ref ah, .int (nI n), .null])), (ah, .inl (dH, 64, .inl f))] H := hP
    have hD : va_D A [(ax, .inr (0, [.ref av, .ref ab, .ref aq])), (av, .inl (dV, 64, .inl (upd v k (sd_mk p1 (nI k))))), (ab, .inl (dB, 64, .inl b)), (aq, .inr (1, [.ref av, .ref ah, .int (nI n), .null])), (ah, .inl (dH, 64, .inl f))] := hD
    refine lv_iconst (v := 1) hx hb dX0_change_28 (by decide +kernel) ?_
    have hP9 := hP.sub (ws' := [(ax, .inr (0, [.ref av, .ref ab, .ref aq])), (av, .inl (dV, 64, .inl (upd v k (sd_mk p1 (nI k))))), (ab, .inl (dB, 64, .inl b)), (aq, .inr (1, [.ref av, .ref ah, .int (nI n), .null])), (ah, .inl (dH, 64, .inl f))]) [0, 1, 2, 3, 4] rfl
    have hD9 := hD.sub (ws' := [(ax, .inr (0, [.ref av, .ref ab, .ref aq])), (av, .inl (dV, 64, .inl (upd v k (sd_mk p1 (nI k))))), (ab, .inl (dB, 64, .inl b)), (aq, .inr (1, [.ref av, .ref ah, .int (nI n), .null])), (ah, .inl (dH, 64, .inl f))]) [0, 1, 2, 3, 4] (by decide) rfl
    have hK9 := hK.sub (tys' := [(dV, .int), (dB, .boolean), (dH, .int)]) [0, 1, 2] rfl
    exact W.zret (v := 1) hx hb hr rfl (fun t ht hW => ⟨⟨1, (upd v k (sd_mk p1 (nI k))), rfl, ⟨(if_pos c11).symm, (if_pos c11).symm, sd_change p1 hI0 hk c11⟩, by rw [ht]; exact hP9, va_K.moved hW.alike hK9, hD9⟩, hS.F ht⟩) hS.2.2 dX0_change_29
  · refine lv_iconst (v := 0) hx hb dX0_change_14 (by decide +kernel) ?_
    have hP9 := hP.sub (ws' := [(ax, .inr (0, [.ref av, .ref ab, .ref aq])), (av, .inl (dV, 64, .inl v)), (ab, .inl (dB, 64, .inl b)), (aq, .inr (1, [.ref av, .ref ah, .int (nI n), .null])), (ah, .inl (dH, 64, .inl f))]) [0, 1, 2, 3, 4] rfl
    have hD9 := hD.sub (ws' := [(ax, .inr (0, [.ref av, .ref ab, .ref aq])), (av, .inl (dV, 64, .inl v)), (ab, .inl (dB, 64, .inl b)), (aq, .inr (1, [.ref av, .ref ah, .int (nI n), .null])), (ah, .inl (dH, 64, .inl f))]) [0, 1, 2, 3, 4] (by decide) rfl
    have hK9 := hK.sub (tys' := [(dV, .int), (dB, .boolean), (dH, .int)]) [0, 1, 2] rfl
    exact W.zret (v := 0) hx hb hr rfl (fun t ht hW => ⟨⟨0, v, rfl, ⟨(if_neg c11).symm, (if_neg c11).symm, hI0⟩, by rw [ht]; exact hP9, va_K.moved hW.alike hK9, hD9⟩, hS.F ht⟩) hS.2.2 dX0_change_15
set_option maxHeartbeats 4000000 in
set_option maxRecDepth 100000 in
/-- enter(i) -/
theorem metX0_enter (l : Launch) (dC : Nat → ClassId) (dI : Nat → Nat → Nat) (ax : Nat) (av : Nat) (ab : Nat) (aq : Nat) (ah : Nat) (dV : ClassId) (dB : ClassId) (dH : ClassId) (v : Nat → Int32) (b : Nat → Int32) (f : Nat → Int32) (n : Nat) (p0 : Int32) (k : Nat) (sz : Nat) (hI0 : sd_I v b f n) (hk : k < 64) (ek : p0 &&& 63 = nI k) : Met l yX0_enter (ws_ yX0_enter cX0_enter 3 (some .boolean)) ({ frames := 2, cells := 0, slots := 0, locals := 49 }) (va_Pc [.ref ax, .int p0] (fun U => U.heap.size = sz ∧ va_P (dC, dI) vwCl [(ax, .inr (0, [.ref av, .ref ab, .ref aq])), (av, .inl (dV, 64, .inl v)), (ab, .inl (dB, 64, .inl b)), (aq, .inr (1, [.ref av, .ref ah, .int (nI n), .null])), (ah, .inl (dH, 64, .inl f))] U.heap ∧ va_K (dC, dI) vwCl [(dV, .int), (dB, .boolean), (dH, .int)] U ∧ va_D (fun _ => True) [(ax, .inr (0, [.ref av, .ref ab, .ref aq])), (av, .inl (dV, 64, .inl v)), (ab, .inl (dB, 64, .inl b)), (aq, .inr (1, [.ref av, .ref ah, .int (nI n), .null])), (ah, .inl (dH, 64, .inl f))])) (va_Qi (fun (r : Int32) (u : (Nat → Int32) × (Nat → Int32) × Nat) => r = (if b k = 0 then 1 else 0) ∧ u.1 = (if b k = 0 then upd b k 1 else b) ∧ sd_I v u.1 u.2.1 u.2.2) (fun (u : (Nat → Int32) × (Nat → Int32) × Nat) (t : State) => va_P (dC, dI) vwCl [(ax, .inr (0, [.ref av, .ref ab, .ref aq])), (av, .inl (dV, 64, .inl v)), (ab, .inl (dB, 64, .inl u.1)), (aq, .inr (1, [.ref av, .ref ah, .int (nI u.2.2), .null])), (ah, .inl (dH, 64, .inl u.2.1))] t.heap ∧ va_K (dC, dI) vwCl [(dV, .int), (dB, .boolean), (dH, .int)] t ∧ va_D (va_A [(ax, .inr (0, [.ref av, .ref ab, .ref aq])), (av, .inl (dV, 64, .inl v)), (ab, .inl (dB, 64, .inl b)), (aq, .inr (1, [.ref av, .ref ah, .int (nI n), .null])), (ah, .inl (dH, 64, .inl f))] sz) [(ax, .inr (0, [.ref av, .ref ab, .ref aq])), (av, .inl (dV, 64, .inl v)), (ab, .inl (dB, 64, .inl u.1)), (aq, .inr (1, [.ref av, .ref ah, .int (nI u.2.2), .null])), (ah, .inl (dH, 64, .inl u.2.1))]) (va_A [(ax, .inr (0, [.ref av, .ref ab, .ref aq])), (av, .inl (dV, 64, .inl v)), (ab, .inl (dB, 64, .inl b)), (aq, .inr (1, [.ref av, .ref ah, .int (nI n), .null])), (ah, .inl (dH, 64, .inl f))] sz)) 0 0 (va_A [(ax, .inr (0, [.ref av, .ref ab, .ref aq])), (av, .inl (dV, 64, .inl v)), (ab, .inl (dB, 64, .inl b)), (aq, .inr (1, [.ref av, .ref ah, .int (nI n), .null])), (ah, .inl (dH, 64, .inl f))] sz) := by
  refine Met.ofW (cc := cX0_enter) (maxL := 3) (ret := (some .boolean)) (by decide) rfl ?_
  intro p e s m args below meth c s₁ B hml hvv
  obtain ⟨rfl, hsz, hP, hK, hD0⟩ := hvv
  have hx := B.exec
  have hb := B.bytes
  have hr := B.returns
  have hts := atoms_spec (ws := (ws_ yX0_enter cX0_enter 3 (some .boolean))) B.pre
  have hts : ∀ w ∈ lw_all, w.before _ s = true := fun w h => hts w (List.mem_cons_of_mem _ h)
  have hown : s.vm.findClass RX0 = some m.cls := findClass_of_methodNamed B.named
  have hlocks := B.notSynchronized
  subst hsz
  have hD := hD0.self (sz := s.heap.size)
  generalize hAe : va_A [(ax, .inr (0, [.ref av, .ref ab, .ref aq])), (av, .inl (dV, 64, .inl v)), (ab, .inl (dB, 64, .inl b)), (aq, .inr (1, [.ref av, .ref ah, .int (nI n), .null])), (ah, .inl (dH, 64, .inl f))] s.heap.size = A at hD ⊢
  have hA : ∀ q : Nat, s.heap.size ≤ q → A q := fun q h => by rw [← hAe]; exact Or.inr h
  have hS : va_S A s.heap s.heap [] := va_S.rf
  have hP : va_P (dC, dI) vwCl [(ax, .inr (0, [.ref av, .ref ab, .ref aq])), (av, .inl (dV, 64, .inl v)), (ab, .inl (dB, 64, .inl b)), (aq, .inr (1, [.ref av, .ref ah, .int (nI n), .null])), (ah, .inl (dH, 64, .inl f))] s.heap := hP
  have hl := lv_entry ([.ref ax, .int p0]) (n := 3) (Nat.le_of_ble_eq_true rfl)
  rw [lg_entry_eq]
  generalize (lg_sl ([.ref ax, .int p0]) ++ List.replicate (3 - (lg_sl ([.ref ax, .int p0])).length) Slot.unset).toArray = ls at hl ⊢
  have hl : lv_has ls 3 [(0, .ref ax), (1, .int p0)] := hl
  refine lv_iload_n hx hb dX0_enter_0 rfl (lv_at hl 1 rfl) ?_
  refine lv_bipush (v := 63) hx hb dX0_enter_1 (by decide +kernel) ?_
  refine lv_iand hx hb dX0_enter_3 ?_
  refine lv_topi (fun y_1 ey_1 => ?_)
  obtain rfl : y_1 = nI k := ey_1.trans (ek)
  refine lv_istore_n (lv' := [(2, .int (nI k)), (0, .ref ax), (1, .int p0)]) hx hb dX0_enter_4 rfl hl (by decide) rfl (fun ls hl => ?_)
  refine lv_aload_n hx hb dX0_enter_5 rfl (lv_at hl 1 rfl) ?_
  refine va_get (D := (dC, dI)) (ci := 0) (v := .ref ab) (C := RX0) (T := TX0) (N := 3) hx hb hts in_X0 hown hK hP 0 rfl rfl 1 (by decide) (hts _ q50) (fun _ h9 => h9) rfl dX0_enter_6 ?_
  refine lv_iload_n hx hb dX0_enter_9 rfl (lv_at hl 0 rfl) ?_
  refine va_zald hx hb hK hP 2 1 rfl rfl (vp_in_nI (by omega) (by omega)) dX0_enter_10 ?_
  refine lv_topi (fun y_2 ey_2 => ?_)
  obtain rfl : y_2 = b k := ey_2.trans (congrArg b (nI_clamp (by omega)))
  refine lv_if_eq (tgt := 16) hx hb dX0_enter_11 (by decide) (fun c11 => ?_) (fun c11 => ?_)
  · refine lv_aload_n hx hb dX0_enter_16 rfl (lv_at hl 1 rfl) ?_
    refine va_get (D := (dC, dI)) (ci := 0) (v := .ref ab) (C := RX0) (T := TX0) (N := 3) hx hb hts in_X0 hown hK hP 0 rfl rfl 1 (by decide) (hts _ q50) (fun _ h9 => h9) rfl dX0_enter_17 ?_
    refine lv_iload_n hx hb dX0_enter_20 rfl (lv_at hl 0 rfl) ?_
    refine lv_iconst (v := 1) hx hb dX0_enter_21 (by decide +kernel) ?_
    refine va_zast hx hb hK hP hD hS 2 1 rfl rfl (vp_in_nI (by omega) (by omega)) dX0_enter_22 (fun H locs hP hD hS => ?_)
    rw [nI_clamp (n := k) (by omega), show vp_nar .boolean 1 = 1 from by decide +kernel] at hP hD
    have hP : va_P (dC, dI) vwCl [(ax, .inr (0, [.ref av, .ref ab, .ref aq])), (av, .inl (dV, 64, .inl v)), (ab, .inl (dB, 64, .inl (upd b k 1))), (aq, .inr (1, [.ref av, .ref ah, .int (nI n), .null])), (ah, .inl (dH, 64, .inl f))] H := hP
    have hD : va_D A [(ax, .inr (0, [.ref av, .ref ab, .ref aq])), (av, .inl (dV, 64, .inl v)), (ab, .inl (dB, 64, .inl (upd b k 1))), (aq, .inr (1, [.ref av, .ref ah, .int (nI n), .null])), (ah, .inl (dH, 64, .inl f))] := hD
    refine lv_aload_n hx hb dX0_enter_23 rfl (lv_at hl 1 rfl) ?_
    refine va_get (D := (dC, dI)) (ci := 0) (v := .ref aq) (C := RX0) (T := TX0) (N := 3) hx hb hts in_X0 hown hK hP 0 rfl rfl 2 (by decide) (hts _ q51) (fun _ h9 => h9) rfl dX0_enter_24 ?_
    refine lv_iload_n hx hb dX0_enter_27 rfl (lv_at hl 0 rfl) ?_
    have hPc := hP.sub (ws' := [(aq, .inr (1, [.ref av, .ref ah, .int (nI n), .null])), (av, .inl (dV, 64, .inl v)), (ah, .inl (dH, 64, .inl f))]) [3, 1, 4] rfl
    have hDc := hD.sub (ws' := [(aq, .inr (1, [.ref av, .ref ah, .int (nI n), .null])), (av, .inl (dV, 64, .inl v)), (ah, .inl (dH, 64, .inl f))]) [3, 1, 4] (by decide) rfl
    have hKc := hK.sub (tys' := [(dV, .int), (dH, .int)]) [0, 2] rfl
    have hFc := va_free (wc := [(aq, .inr (1, [.ref av, .ref ah, .int (nI n), .null])), (av, .inl (dV, 64, .inl v)), (ah, .inl (dH, 64, .inl f))]) hD hS hA [3, 1, 4] rfl
    refine va_callv (va_runV (As := [.int (nI k)]) (rest := []) ⟨hx, hb, hml, hown, hts⟩ (metX1_enqueue l dC dI aq av ah dV dH v f n k H.size (sd_lt hI0 hk c11) hk (sd_I_ok hI0) (sd_I_or hI0)) (cwV 1 hts (lw_V q67 q68 q69 q4 q70) rfl rfl rfl (by decide +kernel) ⟨Nat.le_of_ble_eq_true rfl, Nat.le_of_ble_eq_true rfl⟩) ⟨fun a U g mk q => by obtain ⟨q0, q1, qP, qK, qD⟩ := q; exact ⟨q0, q1, qP, va_K.moved (u := U) (U := U.calling g mk a) (Vm.Alike.refl U.vm) qK, qD⟩, va_recv hKc hPc (ci := 1) (q0 := 0) rfl rfl, fun U hU hW => ⟨rfl, by rw [hU], by rw [hU]; exact hPc, va_K.moved hW.alike hKc, hDc.weaken (fun _ _ _ _ => trivial)⟩⟩ rfl rfl hl.1 rfl (lv_room (Nat.le_of_ble_eq_true rfl)) dX0_enter_28 ⟨Nat.le_of_ble_eq_true rfl, Nat.le_of_ble_eq_true rfl⟩) hS (fun q _ h => hFc q h) hFc (fun g t H1 locs ht hvm hwq hB hz1 hk1 hS => ?_)
    have hw : hp_pm (upd f n (nI k)) g (n + 1) ∧ hp_or v g (n + 1) 0 := hwq
    obtain ⟨hP1, hK1, hD1⟩ := hB
    rw [ht] at hP1
    obtain ⟨hP, hD⟩ := va_join (wr := [(ax, .inr (0, [.ref av, .ref ab, .ref aq])), (ab, .inl (dB, 64, .inl (upd b k 1)))]) (w1 := [(aq, .inr (1, [.ref av, .ref ah, .int (nI (n + 1)), .null])), (av, .inl (dV, 64, .inl v)), (ah, .inl (dH, 64, .inl g))]) hP hD [3, 1, 4] [0, 2] rfl rfl (by decide) (by decide) hk1 hFc hP1 hD1
    generalize H1 = H at hP hS ⊢
    have hP : va_P (dC, dI) vwCl [(ax, .inr (0, [.ref av, .ref ab, .ref aq])), (ab, .inl (dB, 64, .inl (upd b k 1))), (aq, .inr (1, [.ref av, .ref ah, .int (nI (n + 1)), .null])), (av, .inl (dV, 64, .inl v)), (ah, .inl (dH, 64, .inl g))] H := hP
    have hD : va_D A [(ax, .inr (0, [.ref av, .ref ab, .ref aq])), (ab, .inl (dB, 64, .inl (upd b k 1))), (aq, .inr (1, [.ref av, .ref ah, .int (nI (n + 1)), .null])), (av, .inl (dV, 64, .inl v)), (ah, .inl (dH, 64, .inl g))] := hD
    refine lv_iconst (v := 1) hx hb dX0_enter_31 (by decide +kernel) ?_
    have hP9 := hP.sub (ws' := [(ax, .inr (0, [.ref av, .ref ab, .ref aq])), (av, .inl (dV, 64, .inl v)), (ab, .inl (dB, 64, .inl ((upd b k 1, g, n + 1).1))), (aq, .inr (1, [.ref av, .ref ah, .int (nI ((upd b k 1, g, n + 1).2.2)), .null])), (ah, .inl (dH, 64, .inl ((upd b k 1, g, n + 1).2.1)))]) [0, 3, 1, 2, 4] rfl
    have hD9 := hD.sub (ws' := [(ax, .inr (0, [.ref av, .ref ab, .ref aq])), (av, .inl (dV, 64, .inl v)), (ab, .inl (dB, 64, .inl ((upd b k 1, g, n + 1).1))), (aq, .inr (1, [.ref av, .ref ah, .int (nI ((upd b k 1, g, n + 1).2.2)), .null])), (ah, .inl (dH, 64, .inl ((upd b k 1, g, n + 1).2.1)))]) [0, 3, 1, 2, 4] (by decide) rfl
    have hK9 := hK.sub (tys' := [(dV, .int), (dB, .boolean), (dH, .int)]) [0, 1, 2] rfl
    exact W.zret (v := 1) hx hb hr rfl (fun t ht hW => ⟨⟨1, (upd b k 1, g, n + 1), rfl, ⟨(if_pos c11).symm, (if_pos c11).symm, sd_enter hI0 hk c11 hw.1 hw.2⟩, by rw [ht]; exact hP9, va_K.moved hW.alike hK9, hD9⟩, hS.F ht⟩) hS.2.2 dX0_enter_32
  · refine lv_iconst (v := 0) hx hb dX0_enter_14 (by decide +kernel) ?_
    have hP9 := hP.sub (ws' := [(ax, .inr (0, [.ref av, .ref ab, .ref aq])), (av, .inl (dV, 64, .inl v)), (ab, .inl (dB, 64, .inl ((b, f, n).1))), (aq, .inr (1, [.ref av, .ref ah, .int (nI ((b, f, n).2.2)), .null])), (ah, .inl (dH, 64, .inl ((b, f, n).2.1)))]) [0, 1, 2, 3, 4] rfl
    have hD9 := hD.sub (ws' := [(ax, .inr (0, [.ref av, .ref ab, .ref aq])), (av, .inl (dV, 64, .inl v)), (ab, .inl (dB, 64, .inl ((b, f, n).1))), (aq, .inr (1, [.ref av, .ref ah, .int (nI ((b, f, n).2.2)), .null])), (ah, .inl (dH, 64, .inl ((b, f, n).2.1)))]) [0, 1, 2, 3, 4] (by decide) rfl
    have hK9 := hK.sub (tys' := [(dV, .int), (dB, .boolean), (dH, .int)]) [0, 1, 2] rfl
    exact W.zret (v := 0) hx hb hr rfl (fun t ht hW => ⟨⟨0, (b, f, n), rfl, ⟨(if_neg c11).symm, (if_neg c11).symm, hI0⟩, by rw [ht]; exact hP9, va_K.moved hW.alike hK9, hD9⟩, hS.F ht⟩) hS.2.2 dX0_enter_15
set_option maxHeartbeats 4000000 in
set_option maxRecDepth 100000 in
/-- least() -/
theorem metX0_least (l : Launch) (dC : Nat → ClassId) (dI : Nat → Nat → Nat) (ax : Nat) (av : Nat) (ab : Nat) (aq : Nat) (ah : Nat) (dV : ClassId) (dB : ClassId) (dH : ClassId) (v : Nat → Int32) (b : Nat → Int32) (f : Nat → Int32) (n : Nat) (sz : Nat) (hI0 : sd_I v b f n) : Met l yX0_least (ws_ yX0_least cX0_least 1 (some .int)) ({ frames := 1, cells := 0, slots := 0, locals := 20 }) (va_Pc [.ref ax] (fun U => U.heap.size = sz ∧ va_P (dC, dI) vwCl [(ax, .inr (0, [.ref av, .ref ab, .ref aq])), (av, .inl (dV, 64, .inl v)), (ab, .inl (dB, 64, .inl b)), (aq, .inr (1, [.ref av, .ref ah, .int (nI n), .null])), (ah, .inl (dH, 64, .inl f))] U.heap ∧ va_K (dC, dI) vwCl [(dV, .int), (dB, .boolean), (dH, .int)] U ∧ va_D (fun _ => True) [(ax, .inr (0, [.ref av, .ref ab, .ref aq])), (av, .inl (dV, 64, .inl v)), (ab, .inl (dB, 64, .inl b)), (aq, .inr (1, [.ref av, .ref ah, .int (nI n), .null])), (ah, .inl (dH, 64, .inl f))])) (va_Qi (fun (r : Int32) (u : Unit) => r = sd_lp v b 64) (fun (u : Unit) (t : State) => va_P (dC, dI) vwCl [(ax, .inr (0, [.ref av, .ref ab, .ref aq])), (av, .inl (dV, 64, .inl v)), (ab, .inl (dB, 64, .inl b)), (aq, .inr (1, [.ref av, .ref ah, .int (nI n), .null])), (ah, .inl (dH, 64, .inl f))] t.heap ∧ va_K (dC, dI) vwCl [(dV, .int), (dB, .boolean), (dH, .int)] t ∧ va_D (va_A [(ax, .inr (0, [.ref av, .ref ab, .ref aq])), (av, .inl (dV, 64, .inl v)), (ab, .inl (dB, 64, .inl b)), (aq, .inr (1, [.ref av, .ref ah, .int (nI n), .null])), (ah, .inl (dH, 64, .inl f))] sz) [(ax, .inr (0, [.ref av, .ref ab, .ref aq])), (av, .inl (dV, 64, .inl v)), (ab, .inl (dB, 64, .inl b)), (aq, .inr (1, [.ref av, .ref ah, .int (nI n), .null])), (ah, .inl (dH, 64, .inl f))]) (va_A [(ax, .inr (0, [.ref av, .ref ab, .ref aq])), (av, .inl (dV, 64, .inl v)), (ab, .inl (dB, 64, .inl b)), (aq, .inr (1, [.ref av, .ref ah, .int (nI n), .null])), (ah, .inl (dH, 64, .inl f))] sz)) 0 0 (va_A [(ax, .inr (0, [.ref av, .ref ab, .ref aq])), (av, .inl (dV, 64, .inl v)), (ab, .inl (dB, 64, .inl b)), (aq, .inr (1, [.ref av, .ref ah, .int (nI n), .null])), (ah, .inl (dH, 64, .inl f))] sz) := by
  refine Met.ofW (cc := cX0_least) (maxL := 1) (ret := (some .int)) (by decide) rfl ?_
  intro p e s m args below meth c s₁ B hml hvv
  obtain ⟨rfl, hsz, hP, hK, hD0⟩ := hvv
  have hx := B.exec
  have hb := B.bytes
  have hr := B.returns
  have hts := atoms_spec (ws := (ws_ yX0_least cX0_least 1 (some .int))) B.pre
  have hts : ∀ w ∈ lw_all, w.before _ s = true := fun w h => hts w (List.mem_cons_of_mem _ h)
  have hown : s.vm.findClass RX0 = some m.cls := findClass_of_methodNamed B.named
  have hlocks := B.notSynchronized
  subst hsz
  have hD := hD0.self (sz := s.heap.size)
  generalize hAe : va_A [(ax, .inr (0, [.ref av, .ref ab, .ref aq])), (av, .inl (dV, 64, .inl v)), (ab, .inl (dB, 64, .inl b)), (aq, .inr (1, [.ref av, .ref ah, .int (nI n), .null])), (ah, .inl (dH, 64, .inl f))] s.heap.size = A at hD ⊢
  have hA : ∀ q : Nat, s.heap.size ≤ q → A q := fun q h => by rw [← hAe]; exact Or.inr h
  have hS : va_S A s.heap s.heap [] := va_S.rf
  have hP : va_P (dC, dI) vwCl [(ax, .inr (0, [.ref av, .ref ab, .ref aq])), (av, .inl (dV, 64, .inl v)), (ab, .inl (dB, 64, .inl b)), (aq, .inr (1, [.ref av, .ref ah, .int (nI n), .null])), (ah, .inl (dH, 64, .inl f))] s.heap := hP
  have hl := lv_entry ([.ref ax]) (n := 1) (Nat.le_of_ble_eq_true rfl)
  rw [lg_entry_eq]
  generalize (lg_sl ([.ref ax]) ++ List.replicate (1 - (lg_sl ([.ref ax])).length) Slot.unset).toArray = ls at hl ⊢
  have hl : lv_has ls 1 [(0, .ref ax)] := hl
  refine lv_aload_n hx hb dX0_least_0 rfl (lv_at hl 0 rfl) ?_
  refine va_get (D := (dC, dI)) (ci := 0) (v := .ref aq) (C := RX0) (T := TX0) (N := 3) hx hb hts in_X0 hown hK hP 0 rfl rfl 2 (by decide) (hts _ q51) (fun _ h9 => h9) rfl dX0_least_1 ?_
  have hPc := hP.sub (ws' := [(aq, .inr (1, [.ref av, .ref ah, .int (nI n), .null]))]) [3] rfl
  have hDc := hD.sub (ws' := [(aq, .inr (1, [.ref av, .ref ah, .int (nI n), .null]))]) [3] (by decide) rfl
  have hKc := hK.sub (tys' := []) [] rfl
  have hFc := va_free (wc := [(aq, .inr (1, [.ref av, .ref ah, .int (nI n), .null]))]) hD hS hA [3] rfl
  refine va_calli (va_runV (As := []) (rest := []) ⟨hx, hb, hml, hown, hts⟩ (metX1_size l dC dI aq av ah (nI n) s.heap.size ) (cwV 0 hts (lw_V q165 q166 q167 q4 q168) rfl rfl rfl (by decide +kernel) ⟨Nat.le_of_ble_eq_true rfl, Nat.le_of_ble_eq_true rfl⟩) ⟨fun a U g mk q => by obtain ⟨q0, q1, qP, qK, qD⟩ := q; exact ⟨q0, q1, qP, va_K.moved (u := U) (U := U.calling g mk a) (Vm.Alike.refl U.vm) qK, qD⟩, va_recv hKc hPc (ci := 1) (q0 := 0) rfl rfl, fun U hU hW => ⟨rfl, by rw [hU], by rw [hU]; exact hPc, va_K.moved hW.alike hKc, hDc.weaken (fun _ _ _ _ => trivial)⟩⟩ rfl rfl hl.1 rfl (lv_room (Nat.le_of_ble_eq_true rfl)) dX0_least_4 ⟨Nat.le_of_ble_eq_true rfl, Nat.le_of_ble_eq_true rfl⟩) hS (fun q _ h => hFc q h) hFc (fun r1 u t H1 locs ht hvm hwq hB hz1 hk1 hS => ?_)
  have hw : r1 = (nI n) := hwq
  subst hw
  obtain ⟨hP1, hK1, hD1⟩ := hB
  rw [ht] at hP1
  obtain ⟨hP, hD⟩ := va_join (wr := [(ax, .inr (0, [.ref av, .ref ab, .ref aq])), (av, .inl (dV, 64, .inl v)), (ab, .inl (dB, 64, .inl b)), (ah, .inl (dH, 64, .inl f))]) (w1 := [(aq, .inr (1, [.ref av, .ref ah, .int (nI n), .null]))]) hP hD [3] [0, 1, 2, 4] rfl rfl (by decide) (by decide) hk1 hFc hP1 hD1
  generalize H1 = H at hP hS ⊢
  have hP : va_P (dC, dI) vwCl [(ax, .inr (0, [.ref av, .ref ab, .ref aq])), (av, .inl (dV, 64, .inl v)), (ab, .inl (dB, 64, .inl b)), (ah, .inl (dH, 64, .inl f)), (aq, .inr (1, [.ref av, .ref ah, .int (nI n), .null]))] H := hP
  have hD : va_D A [(ax, .inr (0, [.ref av, .ref ab, .ref aq])), (av, .inl (dV, 64, .inl v)), (ab, .inl (dB, 64, .inl b)), (ah, .inl (dH, 64, .inl f)), (aq, .inr (1, [.ref av, .ref ah, .int (nI n), .null]))] := hD
  refine lv_if_ne (tgt := 14) hx hb dX0_least_7 (by decide) (fun c7 => ?_) (fun c7 => ?_)
  · have hn0 : 0 < n := by
      rcases Nat.eq_zero_or_pos n with q | q
      · exact absurd (by rw [q]; exact nI_0) c7
      · exact q
    have hneg : ¬ f 0 < 0 := fun q => sd_I_ok hI0 0 hn0 (Or.inl q)
    have hlp := sd_lp_f hI0 hn0
    refine lv_aload_n hx hb dX0_least_14 rfl (lv_at hl 0 rfl) ?_
    refine va_get (D := (dC, dI)) (ci := 0) (v := .ref aq) (C := RX0) (T := TX0) (N := 3) hx hb hts in_X0 hown hK hP 0 rfl rfl 2 (by decide) (hts _ q51) (fun _ h9 => h9) rfl dX0_least_15 ?_
    have hPc := hP.sub (ws' := [(aq, .inr (1, [.ref av, .ref ah, .int (nI n), .null])), (ah, .inl (dH, 64, .inl f))]) [4, 3] rfl
    have hDc := hD.sub (ws' := [(aq, .inr (1, [.ref av, .ref ah, .int (nI n), .null])), (ah, .inl (dH, 64, .inl f))]) [4, 3] (by decide) rfl
    have hKc := hK.sub (tys' := [(dH, .int)]) [2] rfl
    have hFc := va_free (wc := [(aq, .inr (1, [.ref av, .ref ah, .int (nI n), .null])), (ah, .inl (dH, 64, .inl f))]) hD hS hA [4, 3] rfl
    refine va_calli (va_runV (As := []) (rest := []) ⟨hx, hb, hml, hown, hts⟩ (metX1_first l dC dI aq av ah dH f n H.size hn0 (sd_I_le hI0)) (cwV 0 hts (lw_V q169 q170 q171 q4 q172) rfl rfl rfl (by decide +kernel) ⟨Nat.le_of_ble_eq_true rfl, Nat.le_of_ble_eq_true rfl⟩) ⟨fun a U g mk q => by obtain ⟨q0, q1, qP, qK, qD⟩ := q; exact ⟨q0, q1, qP, va_K.moved (u := U) (U := U.calling g mk a) (Vm.Alike.refl U.vm) qK, qD⟩, va_recv hKc hPc (ci := 1) (q0 := 0) rfl rfl, fun U hU hW => ⟨rfl, by rw [hU], by rw [hU]; exact hPc, va_K.moved hW.alike hKc, hDc.weaken (fun _ _ _ _ => trivial)⟩⟩ rfl rfl hl.1 rfl (lv_room (Nat.le_of_ble_eq_true rfl)) dX0_least_18 ⟨Nat.le_of_ble_eq_true rfl, Nat.le_of_ble_eq_true rfl⟩) hS (fun q _ h => hFc q h) hFc (fun r1 u t H1 locs ht hvm hwq hB hz1 hk1 hS => ?_)
    have hw : r1 = f 0 := hwq
    subst hw
    obtain ⟨hP1, hK1, hD1⟩ := hB
    rw [ht] at hP1
    obtain ⟨hP, hD⟩ := va_join (wr := [(ax, .inr (0, [.ref av, .ref ab, .ref aq])), (av, .inl (dV, 64, .inl v)), (ab, .inl (dB, 64, .inl b))]) (w1 := [(aq, .inr (1, [.ref av, .ref ah, .int (nI n), .null])), (ah, .inl (dH, 64, .inl f))]) hP hD [4, 3] [0, 1, 2] rfl rfl (by decide) (by decide) hk1 hFc hP1 hD1
    generalize H1 = H at hP hS ⊢
    have hP : va_P (dC, dI) vwCl [(ax, .inr (0, [.ref av, .ref ab, .ref aq])), (av, .inl (dV, 64, .inl v)), (ab, .inl (dB, 64, .inl b)), (aq, .inr (1, [.ref av, .ref ah, .int (nI n), .null])), (ah, .inl (dH, 64, .inl f))] H := hP
    have hD : va_D A [(ax, .inr (0, [.ref av, .ref ab, .ref aq])), (av, .inl (dV, 64, .inl v)), (ab, .inl (dB, 64, .inl b)), (aq, .inr (1, [.ref av, .ref ah, .int (nI n), .null])), (ah, .inl (dH, 64, .inl f))] := hD
    have hP9 := hP.sub (ws' := [(ax, .inr (0, [.ref av, .ref ab, .ref aq])), (av, .inl (dV, 64, .inl v)), (ab, .inl (dB, 64, .inl b)), (aq, .inr (1, [.ref av, .ref ah, .int (nI n), .null])), (ah, .inl (dH, 64, .inl f))]) [0, 1, 2, 3, 4] rfl
    have hD9 := hD.sub (ws' := [(ax, .inr (0, [.ref av, .ref ab, .ref aq])), (av, .inl (dV, 64, .inl v)), (ab, .inl (dB, 64, .inl b)), (aq, .inr (1, [.ref av, .ref ah, .int (nI n), .null])), (ah, .inl (dH, 64, .inl f))]) [0, 1, 2, 3, 4] (by decide) rfl
    have hK9 := hK.sub (tys' := [(dV, .int), (dB, .boolean), (dH, .int)]) [0, 1, 2] rfl
    exact W.iret (v := (f 0)) hx hb hr (fun t ht hW => ⟨⟨(f 0), (), rfl, hlp.symm, by rw [ht]; exact hP9, va_K.moved hW.alike hK9, hD9⟩, hS.F ht⟩) hS.2.2 dX0_least_21
  · have hz : n = 0 := by
      rcases Nat.eq_zero_or_pos n with q | q
      · exact q
      · exact absurd c7 (nI_ne0 q (by have := sd_I_le hI0; omega))
    have hlp : sd_lp v b 64 = -1 := by rw [hz] at hI0; exact sd_lp_0 hI0
    have hneg : sd_lp v b 64 < 0 := by rw [hlp]; decide
    refine lv_iconst (v := (-1)) hx hb dX0_least_10 (by decide +kernel) ?_
    refine lv_goto (tgt := 21) hx hb dX0_least_11 (by decide) ?_
    have hP9 := hP.sub (ws' := [(ax, .inr (0, [.ref av, .ref ab, .ref aq])), (av, .inl (dV, 64, .inl v)), (ab, .inl (dB, 64, .inl b)), (aq, .inr (1, [.ref av, .ref ah, .int (nI n), .null])), (ah, .inl (dH, 64, .inl f))]) [0, 1, 2, 4, 3] rfl
    have hD9 := hD.sub (ws' := [(ax, .inr (0, [.ref av, .ref ab, .ref aq])), (av, .inl (dV, 64, .inl v)), (ab, .inl (dB, 64, .inl b)), (aq, .inr (1, [.ref av, .ref ah, .int (nI n), .null])), (ah, .inl (dH, 64, .inl f))]) [0, 1, 2, 4, 3] (by decide) rfl
    have hK9 := hK.sub (tys' := [(dV, .int), (dB, .boolean), (dH, .int)]) [0, 1, 2] rfl
    exact W.iret (v := (-1)) hx hb hr (fun t ht hW => ⟨⟨(-1), (), rfl, hlp.symm, by rw [ht]; exact hP9, va_K.moved hW.alike hK9, hD9⟩, hS.F ht⟩) hS.2.2 dX0_least_21
set_option maxHeartbeats 4000000 in
set_option maxRecDepth 100000 in
/-- take() -/
theorem metX0_take (l : Launch) (dC : Nat → ClassId) (dI : Nat → Nat → Nat) (ax : Nat) (av : Nat) (ab : Nat) (aq : Nat) (ah : Nat) (dV : ClassId) (dB : ClassId) (dH : ClassId) (v : Nat → Int32) (b : Nat → Int32) (f : Nat → Int32) (n : Nat) (sz : Nat) (hI0 : sd_I v b f n) : Met l yX0_take (ws_ yX0_take cX0_take 2 (some .int)) ({ frames := 2, cells := 0, slots := 0, locals := 50 }) (va_Pc [.ref ax] (fun U => U.heap.size = sz ∧ va_P (dC, dI) vwCl [(ax, .inr (0, [.ref av, .ref ab, .ref aq])), (av, .inl (dV, 64, .inl v)), (ab, .inl (dB, 64, .inl b)), (aq, .inr (1, [.ref av, .ref ah, .int (nI n), .null])), (ah, .inl (dH, 64, .inl f))] U.heap ∧ va_K (dC, dI) vwCl [(dV, .int), (dB, .boolean), (dH, .int)] U ∧ va_D (fun _ => True) [(ax, .inr (0, [.ref av, .ref ab, .ref aq])), (av, .inl (dV, 64, .inl v)), (ab, .inl (dB, 64, .inl b)), (aq, .inr (1, [.ref av, .ref ah, .int (nI n), .null])), (ah, .inl (dH, 64, .inl f))])) (va_Qi (fun (r : Int32) (u : (Nat → Int32) × (Nat → Int32) × Nat) => r = sd_lp v b 64 ∧ u.1 = (if sd_lp v b 64 < 0 then b else upd b (sd_lp v b 64).toNatClampNeg 0) ∧ sd_I v u.1 u.2.1 u.2.2) (fun (u : (Nat → Int32) × (Nat → Int32) × Nat) (t : State) => va_P (dC, dI) vwCl [(ax, .inr (0, [.ref av, .ref ab, .ref aq])), (av, .inl (dV, 64, .inl v)), (ab, .inl (dB, 64, .inl u.1)), (aq, .inr (1, [.ref av, .ref ah, .int (nI u.2.2), .null])), (ah, .inl (dH, 64, .inl u.2.1))] t.heap ∧ va_K (dC, dI) vwCl [(dV, .int), (dB, .boolean), (dH, .int)] t ∧ va_D (va_A [(ax, .inr (0, [.ref av, .ref ab, .ref aq])), (av, .inl (dV, 64, .inl v)), (ab, .inl (dB, 64, .inl b)), (aq, .inr (1, [.ref av, .ref ah, .int (nI n), .null])), (ah, .inl (dH, 64, .inl f))] sz) [(ax, .inr (0, [.ref av, .ref ab, .ref aq])), (av, .inl (dV, 64, .inl v)), (ab, .inl (dB, 64, .inl u.1)), (aq, .inr (1, [.ref av, .ref ah, .int (nI u.2.2), .null])), (ah, .inl (dH, 64, .inl u.2.1))]) (va_A [(ax, .inr (0, [.ref av, .ref ab, .ref aq])), (av, .inl (dV, 64, .inl v)), (ab, .inl (dB, 64, .inl b)), (aq, .inr (1, [.ref av, .ref ah, .int (nI n), .null])), (ah, .inl (dH, 64, .inl f))] sz)) 0 0 (va_A [(ax, .inr (0, [.ref av, .ref ab, .ref aq])), (av, .inl (dV, 64, .inl v)), (ab, .inl (dB, 64, .inl b)), (aq, .inr (1, [.ref av, .ref ah, .int (nI n), .null])), (ah, .inl (dH, 64, .inl f))] sz) := by
  refine Met.ofW (cc := cX0_take) (maxL := 2) (ret := (some .int)) (by decide) rfl ?_
  intro p e s m args below meth c s₁ B hml hvv
  obtain ⟨rfl, hsz, hP, hK, hD0⟩ := hvv
  have hx := B.exec
  have hb := B.bytes
  have hr := B.returns
  have hts := atoms_spec (ws := (ws_ yX0_take cX0_take 2 (some .int))) B.pre
  have hts : ∀ w ∈ lw_all, w.before _ s = true := fun w h => hts w (List.mem_cons_of_mem _ h)
  have hown : s.vm.findClass RX0 = some m.cls := findClass_of_methodNamed B.named
  have hlocks := B.notSynchronized
  subst hsz
  have hD := hD0.self (sz := s.heap.size)
  generalize hAe : va_A [(ax, .inr (0, [.ref av, .ref ab, .ref aq])), (av, .inl (dV, 64, .inl v)), (ab, .inl (dB, 64, .inl b)), (aq, .inr (1, [.ref av, .ref ah, .int (nI n), .null])), (ah, .inl (dH, 64, .inl f))] s.heap.size = A at hD ⊢
  have hA : ∀ q : Nat, s.heap.size ≤ q → A q := fun q h => by rw [← hAe]; exact Or.inr h
  have hS : va_S A s.heap s.heap [] := va_S.rf
  have hP : va_P (dC, dI) vwCl [(ax, .inr (0, [.ref av, .ref ab, .ref aq])), (av, .inl (dV, 64, .inl v)), (ab, .inl (dB, 64, .inl b)), (aq, .inr (1, [.ref av, .ref ah, .int (nI n), .null])), (ah, .inl (dH, 64, .inl f))] s.heap := hP
  have hl := lv_entry ([.ref ax]) (n := 2) (Nat.le_of_ble_eq_true rfl)
  rw [lg_entry_eq]
  generalize (lg_sl ([.ref ax]) ++ List.replicate (2 - (lg_sl ([.ref ax])).length) Slot.unset).toArray = ls at hl ⊢
  have hl : lv_has ls 2 [(0, .ref ax)] := hl
  refine lv_aload_n hx hb dX0_take_0 rfl (lv_at hl 0 rfl) ?_
  refine va_get (D := (dC, dI)) (ci := 0) (v := .ref aq) (C := RX0) (T := TX0) (N := 3) hx hb hts in_X0 hown hK hP 0 rfl rfl 2 (by decide) (hts _ q51) (fun _ h9 => h9) rfl dX0_take_1 ?_
  have hPc := hP.sub (ws' := [(aq, .inr (1, [.ref av, .ref ah, .int (nI n), .null]))]) [3] rfl
  have hDc := hD.sub (ws' := [(aq, .inr (1, [.ref av, .ref ah, .int (nI n), .null]))]) [3] (by decide) rfl
  have hKc := hK.sub (tys' := []) [] rfl
  have hFc := va_free (wc := [(aq, .inr (1, [.ref av, .ref ah, .int (nI n), .null]))]) hD hS hA [3] rfl
  refine va_calli (va_runV (As := []) (rest := []) ⟨hx, hb, hml, hown, hts⟩ (metX1_size l dC dI aq av ah (nI n) s.heap.size ) (cwV 0 hts (lw_V q165 q166 q167 q4 q168) rfl rfl rfl (by decide +kernel) ⟨Nat.le_of_ble_eq_true rfl, Nat.le_of_ble_eq_true rfl⟩) ⟨fun a U g mk q => by obtain ⟨q0, q1, qP, qK, qD⟩ := q; exact ⟨q0, q1, qP, va_K.moved (u := U) (U := U.calling g mk a) (Vm.Alike.refl U.vm) qK, qD⟩, va_recv hKc hPc (ci := 1) (q0 := 0) rfl rfl, fun U hU hW => ⟨rfl, by rw [hU], by rw [hU]; exact hPc, va_K.moved hW.alike hKc, hDc.weaken (fun _ _ _ _ => trivial)⟩⟩ rfl rfl hl.1 rfl (lv_room (Nat.le_of_ble_eq_true rfl)) dX0_take_4 ⟨Nat.le_of_ble_eq_true rfl, Nat.le_of_ble_eq_true rfl⟩) hS (fun q _ h => hFc q h) hFc (fun r1 u t H1 locs ht hvm hwq hB hz1 hk1 hS => ?_)
  have hw : r1 = (nI n) := hwq
  subst hw
  obtain ⟨hP1, hK1, hD1⟩ := hB
  rw [ht] at hP1
  obtain ⟨hP, hD⟩ := va_join (wr := [(ax, .inr (0, [.ref av, .ref ab, .ref aq])), (av, .inl (dV, 64, .inl v)), (ab, .inl (dB, 64, .inl b)), (ah, .inl (dH, 64, .inl f))]) (w1 := [(aq, .inr (1, [.ref av, .ref ah, .int (nI n), .null]))]) hP hD [3] [0, 1, 2, 4] rfl rfl (by decide) (by decide) hk1 hFc hP1 hD1
  generalize H1 = H at hP hS ⊢
  have hP : va_P (dC, dI) vwCl [(ax, .inr (0, [.ref av, .ref ab, .ref aq])), (av, .inl (dV, 64, .inl v)), (ab, .inl (dB, 64, .inl b)), (ah, .inl (dH, 64, .inl f)), (aq, .inr (1, [.ref av, .ref ah, .int (nI n), .null]))] H := hP
  have hD : va_D A [(ax, .inr (0, [.ref av, .ref ab, .ref aq])), (av, .inl (dV, 64, .inl v)), (ab, .inl (dB, 64, .inl b)), (ah, .inl (dH, 64, .inl f)), (aq, .inr (1, [.ref av, .ref ah, .int (nI n), .null]))] := hD
  refine lv_if_ne (tgt := 12) hx hb dX0_take_7 (by decide) (fun c7 => ?_) (fun c7 => ?_)
  · have hn0 : 0 < n := by
      rcases Nat.eq_zero_or_pos n with q | q
      · exact absurd (by rw [q]; exact nI_0) c7
      · exact q
    have hneg : ¬ f 0 < 0 := fun q => sd_I_ok hI0 0 hn0 (Or.inl q)
    have hlp := sd_lp_f hI0 hn0
    refine lv_aload_n hx hb dX0_take_12 rfl (lv_at hl 0 rfl) ?_
    refine va_get (D := (dC, dI)) (ci := 0) (v := .ref aq) (C := RX0) (T := TX0) (N := 3) hx hb hts in_X0 hown hK hP 0 rfl rfl 2 (by decide) (hts _ q51) (fun _ h9 => h9) rfl dX0_take_13 ?_
    have hPc := hP.sub (ws' := [(aq, .inr (1, [.ref av, .ref ah, .int (nI n), .null])), (av, .inl (dV, 64, .inl v)), (ah, .inl (dH, 64, .inl f))]) [4, 1, 3] rfl
    have hDc := hD.sub (ws' := [(aq, .inr (1, [.ref av, .ref ah, .int (nI n), .null])), (av, .inl (dV, 64, .inl v)), (ah, .inl (dH, 64, .inl f))]) [4, 1, 3] (by decide) rfl
    have hKc := hK.sub (tys' := [(dV, .int), (dH, .int)]) [0, 2] rfl
    have hFc := va_free (wc := [(aq, .inr (1, [.ref av, .ref ah, .int (nI n), .null])), (av, .inl (dV, 64, .inl v)), (ah, .inl (dH, 64, .inl f))]) hD hS hA [4, 1, 3] rfl
    refine va_calli (va_runV (As := []) (rest := []) ⟨hx, hb, hml, hown, hts⟩ (metX1_dequeue l dC dI aq av ah dV dH v f n H.size hn0 (sd_I_le hI0) (sd_I_ok hI0) (sd_I_or hI0)) (cwV 0 hts (lw_V q198 q199 q200 q4 q201) rfl rfl rfl (by decide +kernel) ⟨Nat.le_of_ble_eq_true rfl, Nat.le_of_ble_eq_true rfl⟩) ⟨fun a U g mk q => by obtain ⟨q0, q1, qP, qK, qD⟩ := q; exact ⟨q0, q1, qP, va_K.moved (u := U) (U := U.calling g mk a) (Vm.Alike.refl U.vm) qK, qD⟩, va_recv hKc hPc (ci := 1) (q0 := 0) rfl rfl, fun U hU hW => ⟨rfl, by rw [hU], by rw [hU]; exact hPc, va_K.moved hW.alike hKc, hDc.weaken (fun _ _ _ _ => trivial)⟩⟩ rfl rfl hl.1 rfl (lv_room (Nat.le_of_ble_eq_true rfl)) dX0_take_16 ⟨Nat.le_of_ble_eq_true rfl, Nat.le_of_ble_eq_true rfl⟩) hS (fun q _ h => hFc q h) hFc (fun r1 g t H1 locs ht hvm hwq hB hz1 hk1 hS => ?_)
    have hw : r1 = f 0 ∧ hp_pm (upd f 0 (f (n - 1))) g (n - 1) ∧ hp_or v g (n - 1) 0 := hwq
    obtain ⟨r1e, hw⟩ := hw
    subst r1e
    obtain ⟨hP1, hK1, hD1⟩ := hB
    rw [ht] at hP1
    obtain ⟨hP, hD⟩ := va_join (wr := [(ax, .inr (0, [.ref av, .ref ab, .ref aq])), (ab, .inl (dB, 64, .inl b))]) (w1 := [(aq, .inr (1, [.ref av, .ref ah, .int (nI (n - 1)), .null])), (av, .inl (dV, 64, .inl v)), (ah, .inl (dH, 64, .inl g))]) hP hD [4, 1, 3] [0, 2] rfl rfl (by decide) (by decide) hk1 hFc hP1 hD1
    generalize H1 = H at hP hS ⊢
    have hP : va_P (dC, dI) vwCl [(ax, .inr (0, [.ref av, .ref ab, .ref aq])), (ab, .inl (dB, 64, .inl b)), (aq, .inr (1, [.ref av, .ref ah, .int (nI (n - 1)), .null])), (av, .inl (dV, 64, .inl v)), (ah, .inl (dH, 64, .inl g))] H := hP
    have hD : va_D A [(ax, .inr (0, [.ref av, .ref ab, .ref aq])), (ab, .inl (dB, 64, .inl b)), (aq, .inr (1, [.ref av, .ref ah, .int (nI (n - 1)), .null])), (av, .inl (dV, 64, .inl v)), (ah, .inl (dH, 64, .inl g))] := hD
    refine lv_istore_n (lv' := [(1, .int (f 0)), (0, .ref ax)]) hx hb dX0_take_19 rfl hl (by decide) rfl (fun ls hl => ?_)
    refine lv_aload_n hx hb dX0_take_20 rfl (lv_at hl 1 rfl) ?_
    refine va_get (D := (dC, dI)) (ci := 0) (v := .ref ab) (C := RX0) (T := TX0) (N := 3) hx hb hts in_X0 hown hK hP 0 rfl rfl 1 (by decide) (hts _ q50) (fun _ h9 => h9) rfl dX0_take_21 ?_
    refine lv_iload_n hx hb dX0_take_24 rfl (lv_at hl 0 rfl) ?_
    refine lv_iconst (v := 0) hx hb dX0_take_25 (by decide +kernel) ?_
    refine va_zast hx hb hK hP hD hS 1 1 rfl rfl (sd_I_ok hI0 0 hn0) dX0_take_26 (fun H locs hP hD hS => ?_)
    rw [show vp_nar .boolean 0 = 0 from by decide +kernel] at hP hD
    have hP : va_P (dC, dI) vwCl [(ax, .inr (0, [.ref av, .ref ab, .ref aq])), (ab, .inl (dB, 64, .inl (upd b (f 0).toNatClampNeg 0))), (aq, .inr (1, [.ref av, .ref ah, .int (nI (n - 1)), .null])), (av, .inl (dV, 64, .inl v)), (ah, .inl (dH, 64, .inl g))] H := hP
    have hD : va_D A [(ax, .inr (0, [.ref av, .ref ab, .ref aq])), (ab, .inl (dB, 64, .inl (upd b (f 0).toNatClampNeg 0))), (aq, .inr (1, [.ref av, .ref ah, .int (nI (n - 1)), .null])), (av, .inl (dV, 64, .inl v)), (ah, .inl (dH, 64, .inl g))] := hD
    refine lv_iload_n hx hb dX0_take_27 rfl (lv_at hl 0 rfl) ?_
    have hP9 := hP.sub (ws' := [(ax, .inr (0, [.ref av, .ref ab, .ref aq])), (av, .inl (dV, 64, .inl v)), (ab, .inl (dB, 64, .inl ((upd b (f 0).toNatClampNeg 0, g, n - 1).1))), (aq, .inr (1, [.ref av, .ref ah, .int (nI ((upd b (f 0).toNatClampNeg 0, g, n - 1).2.2)), .null])), (ah, .inl (dH, 64, .inl ((upd b (f 0).toNatClampNeg 0, g, n - 1).2.1)))]) [0, 3, 1, 2, 4] rfl
    have hD9 := hD.sub (ws' := [(ax, .inr (0, [.ref av, .ref ab, .ref aq])), (av, .inl (dV, 64, .inl v)), (ab, .inl (dB, 64, .inl ((upd b (f 0).toNatClampNeg 0, g, n - 1).1))), (aq, .inr (1, [.ref av, .ref ah, .int (nI ((upd b (f 0).toNatClampNeg 0, g, n - 1).2.2)), .null])), (ah, .inl (dH, 64, .inl ((upd b (f 0).toNatClampNeg 0, g, n - 1).2.1)))]) [0, 3, 1, 2, 4] (by decide) rfl
    have hK9 := hK.sub (tys' := [(dV, .int), (dB, .boolean), (dH, .int)]) [0, 1, 2] rfl
    exact W.iret (v := (f 0)) hx hb hr (fun t ht hW => ⟨⟨(f 0), (upd b (f 0).toNatClampNeg 0, g, n - 1), rfl, ⟨hlp.symm, by rw [hlp]; exact (if_neg hneg).symm, sd_take hI0 hn0 hw.1 hw.2⟩, by rw [ht]; exact hP9, va_K.moved hW.alike hK9, hD9⟩, hS.F ht⟩) hS.2.2 dX0_take_28
  · have hz : n = 0 := by
      rcases Nat.eq_zero_or_pos n with q | q
      · exact q
      · exact absurd c7 (nI_ne0 q (by have := sd_I_le hI0; omega))
    have hlp : sd_lp v b 64 = -1 := by rw [hz] at hI0; exact sd_lp_0 hI0
    have hneg : sd_lp v b 64 < 0 := by rw [hlp]; decide
    refine lv_iconst (v := (-1)) hx hb dX0_take_10 (by decide +kernel) ?_
    have hP9 := hP.sub (ws' := [(ax, .inr (0, [.ref av, .ref ab, .ref aq])), (av, .inl (dV, 64, .inl v)), (ab, .inl (dB, 64, .inl ((b, f, n).1))), (aq, .inr (1, [.ref av, .ref ah, .int (nI ((b, f, n).2.2)), .null])), (ah, .inl (dH, 64, .inl ((b, f, n).2.1)))]) [0, 1, 2, 4, 3] rfl
    have hD9 := hD.sub (ws' := [(ax, .inr (0, [.ref av, .ref ab, .ref aq])), (av, .inl (dV, 64, .inl v)), (ab, .inl (dB, 64, .inl ((b, f, n).1))), (aq, .inr (1, [.ref av, .ref ah, .int (nI ((b, f, n).2.2)), .null])), (ah, .inl (dH, 64, .inl ((b, f, n).2.1)))]) [0, 1, 2, 4, 3] (by decide) rfl
    have hK9 := hK.sub (tys' := [(dV, .int), (dB, .boolean), (dH, .int)]) [0, 1, 2] rfl
    exact W.iret (v := (-1)) hx hb hr (fun t ht hW => ⟨⟨(-1), (b, f, n), rfl, ⟨hlp.symm, (if_pos hneg).symm, hI0⟩, by rw [ht]; exact hP9, va_K.moved hW.alike hK9, hD9⟩, hS.F ht⟩) hS.2.2 dX0_take_11
set_option maxHeartbeats 4000000 in
set_option maxRecDepth 100000 in
/-- headChanged(v) -/
theorem metX0_headChanged (l : Launch) (dC : Nat → ClassId) (dI : Nat → Nat → Nat) (ax : Nat) (av : Nat) (ab : Nat) (aq : Nat) (ah : Nat) (dV : ClassId) (dB : ClassId) (dH : ClassId) (v : Nat → Int32) (b : Nat → Int32) (f : Nat → Int32) (n : Nat) (p0 : Int32) (sz : Nat) (hI0 : sd_I v b f n) : Met l yX0_headChanged (ws_ yX0_headChanged cX0_headChanged 3 (some .boolean)) ({ frames := 2, cells := 0, slots := 0, locals := 49 }) (va_Pc [.ref ax, .int p0] (fun U => U.heap.size = sz ∧ va_P (dC, dI) vwCl [(ax, .inr (0, [.ref av, .ref ab, .ref aq])), (av, .inl (dV, 64, .inl v)), (ab, .inl (dB, 64, .inl b)), (aq, .inr (1, [.ref av, .ref ah, .int (nI n), .null])), (ah, .inl (dH, 64, .inl f))] U.heap ∧ va_K (dC, dI) vwCl [(dV, .int), (dB, .boolean), (dH, .int)] U ∧ va_D (fun _ => True) [(ax, .inr (0, [.ref av, .ref ab, .ref aq])), (av, .inl (dV, 64, .inl v)), (ab, .inl (dB, 64, .inl b)), (aq, .inr (1, [.ref av, .ref ah, .int (nI n), .null])), (ah, .inl (dH, 64, .inl f))])) (va_Qi (fun (r : Int32) (u : (Nat → Int32) × (Nat → Int32)) => r = (if sd_lp v b 64 < 0 then 0 else 1) ∧ u.1 = (if sd_lp v b 64 < 0 then v else upd v (sd_lp v b 64).toNatClampNeg (sd_mk p0 (sd_lp v b 64))) ∧ sd_I u.1 b u.2 n) (fun (u : (Nat → Int32) × (Nat → Int32)) (t : State) => va_P (dC, dI) vwCl [(ax, .inr (0, [.ref av, .ref ab, .ref aq])), (av, .inl (dV, 64, .inl u.1)), (ab, .inl (dB, 64, .inl b)), (aq, .inr (1, [.ref av, .ref ah, .int (nI n), .null])), (ah, .inl (dH, 64, .inl u.2))] t.heap ∧ va_K (dC, dI) vwCl [(dV, .int), (dB, .boolean), (dH, .int)] t ∧ va_D (va_A [(ax, .inr (0, [.ref av, .ref ab, .ref aq])), (av, .inl (dV, 64, .inl v)), (ab, .inl (dB, 64, .inl b)), (aq, .inr (1, [.ref av, .ref ah, .int (nI n), .null])), (ah, .inl (dH, 64, .inl f))] sz) [(ax, .inr (0, [.ref av, .ref ab, .ref aq])), (av, .inl (dV, 64, .inl u.1)), (ab, .inl (dB, 64, .inl b)), (aq, .inr (1, [.ref av, .ref ah, .int (nI n), .null])), (ah, .inl (dH, 64, .inl u.2))]) (va_A [(ax, .inr (0, [.ref av, .ref ab, .ref aq])), (av, .inl (dV, 64, .inl v)), (ab, .inl (dB, 64, .inl b)), (aq, .inr (1, [.ref av, .ref ah, .int (nI n), .null])), (ah, .inl (dH, 64, .inl f))] sz)) 0 0 (va_A [(ax, .inr (0, [.ref av, .ref ab, .ref aq])), (av, .inl (dV, 64, .inl v)), (ab, .inl (dB, 64, .inl b)), (aq, .inr (1, [.ref av, .ref ah, .int (nI n), .null])), (ah, .inl (dH, 64, .inl f))] sz) := by
  refine Met.ofW (cc := cX0_headChanged) (maxL := 3) (ret := (some .boolean)) (by decide) rfl ?_
  intro p e s m args below meth c s₁ B hml hvv
  obtain ⟨rfl, hsz, hP, hK, hD0⟩ := hvv
  have hx := B.exec
  have hb := B.bytes
  have hr := B.returns
  have hts := atoms_spec (ws := (ws_ yX0_headChanged cX0_headChanged 3 (some .boolean))) B.pre
  have hts : ∀ w ∈ lw_all, w.before _ s = true := fun w h => hts w (List.mem_cons_of_mem _ h)
  have hown : s.vm.findClass RX0 = some m.cls := findClass_of_methodNamed B.named
  have hlocks := B.notSynchronized
  subst hsz
  have hD := hD0.self (sz := s.heap.size)
  generalize hAe : va_A [(ax, .inr (0, [.ref av, .ref ab, .ref aq])), (av, .inl (dV, 64, .inl v)), (ab, .inl (dB, 64, .inl b)), (aq, .inr (1, [.ref av, .ref ah, .int (nI n), .null])), (ah, .inl (dH, 64, .inl f))] s.heap.size = A at hD ⊢
  have hA : ∀ q : Nat, s.heap.size ≤ q → A q := fun q h => by rw [← hAe]; exact Or.inr h
  have hS : va_S A s.heap s.heap [] := va_S.rf
  have hP : va_P (dC, dI) vwCl [(ax, .inr (0, [.ref av, .ref ab, .ref aq])), (av, .inl (dV, 64, .inl v)), (ab, .inl (dB, 64, .inl b)), (aq, .inr (1, [.ref av, .ref ah, .int (nI n), .null])), (ah, .inl (dH, 64, .inl f))] s.heap := hP
  have hl := lv_entry ([.ref ax, .int p0]) (n := 3) (Nat.le_of_ble_eq_true rfl)
  rw [lg_entry_eq]
  generalize (lg_sl ([.ref ax, .int p0]) ++ List.replicate (3 - (lg_sl ([.ref ax, .int p0])).length) Slot.unset).toArray = ls at hl ⊢
  have hl : lv_has ls 3 [(0, .ref ax), (1, .int p0)] := hl
  refine lv_aload_n hx hb dX0_headChanged_0 rfl (lv_at hl 0 rfl) ?_
  refine va_get (D := (dC, dI)) (ci := 0) (v := .ref aq) (C := RX0) (T := TX0) (N := 3) hx hb hts in_X0 hown hK hP 0 rfl rfl 2 (by decide) (hts _ q51) (fun _ h9 => h9) rfl dX0_headChanged_1 ?_
  have hPc := hP.sub (ws' := [(aq, .inr (1, [.ref av, .ref ah, .int (nI n), .null]))]) [3] rfl
  have hDc := hD.sub (ws' := [(aq, .inr (1, [.ref av, .ref ah, .int (nI n), .null]))]) [3] (by decide) rfl
  have hKc := hK.sub (tys' := []) [] rfl
  have hFc := va_free (wc := [(aq, .inr (1, [.ref av, .ref ah, .int (nI n), .null]))]) hD hS hA [3] rfl
  refine va_calli (va_runV (As := []) (rest := []) ⟨hx, hb, hml, hown, hts⟩ (metX1_size l dC dI aq av ah (nI n) s.heap.size ) (cwV 0 hts (lw_V q165 q166 q167 q4 q168) rfl rfl rfl (by decide +kernel) ⟨Nat.le_of_ble_eq_true rfl, Nat.le_of_ble_eq_true rfl⟩) ⟨fun a U g mk q => by obtain ⟨q0, q1, qP, qK, qD⟩ := q; exact ⟨q0, q1, qP, va_K.moved (u := U) (U := U.calling g mk a) (Vm.Alike.refl U.vm) qK, qD⟩, va_recv hKc hPc (ci := 1) (q0 := 0) rfl rfl, fun U hU hW => ⟨rfl, by rw [hU], by rw [hU]; exact hPc, va_K.moved hW.alike hKc, hDc.weaken (fun _ _ _ _ => trivial)⟩⟩ rfl rfl hl.1 rfl (lv_room (Nat.le_of_ble_eq_true rfl)) dX0_headChanged_4 ⟨Nat.le_of_ble_eq_true rfl, Nat.le_of_ble_eq_true rfl⟩) hS (fun q _ h => hFc q h) hFc (fun r1 u t H1 locs ht hvm hwq hB hz1 hk1 hS => ?_)
  have hw : r1 = (nI n) := hwq
  subst hw
  obtain ⟨hP1, hK1, hD1⟩ := hB
  rw [ht] at hP1
  obtain ⟨hP, hD⟩ := va_join (wr := [(ax, .inr (0, [.ref av, .ref ab, .ref aq])), (av, .inl (dV, 64, .inl v)), (ab, .inl (dB, 64, .inl b)), (ah, .inl (dH, 64, .inl f))]) (w1 := [(aq, .inr (1, [.ref av, .ref ah, .int (nI n), .null]))]) hP hD [3] [0, 1, 2, 4] rfl rfl (by decide) (by decide) hk1 hFc hP1 hD1
  generalize H1 = H at hP hS ⊢
  have hP : va_P (dC, dI) vwCl [(ax, .inr (0, [.ref av, .ref ab, .ref aq])), (av, .inl (dV, 64, .inl v)), (ab, .inl (dB, 64, .inl b)), (ah, .inl (dH, 64, .inl f)), (aq, .inr (1, [.ref av, .ref ah, .int (nI n), .null]))] H := hP
  have hD : va_D A [(ax, .inr (0, [.ref av, .ref ab, .ref aq])), (av, .inl (dV, 64, .inl v)), (ab, .inl (dB, 64, .inl b)), (ah, .inl (dH, 64, .inl f)), (aq, .inr (1, [.ref av, .ref ah, .int (nI n), .null]))] := hD
  refine lv_if_ne (tgt := 12) hx hb dX0_headChanged_7 (by decide) (fun c7 => ?_) (fun c7 => ?_)
  · have hn0 : 0 < n := by
      rcases Nat.eq_zero_or_pos n with q | q
      · exact absurd (by rw [q]; exact nI_0) c7
      · exact q
    have hneg : ¬ f 0 < 0 := fun q => sd_I_ok hI0 0 hn0 (Or.inl q)
    have hlp := sd_lp_f hI0 hn0
    refine lv_aload_n hx hb dX0_headChanged_12 rfl (lv_at hl 0 rfl) ?_
    refine va_get (D := (dC, dI)) (ci := 0) (v := .ref aq) (C := RX0) (T := TX0) (N := 3) hx hb hts in_X0 hown hK hP 0 rfl rfl 2 (by decide) (hts _ q51) (fun _ h9 => h9) rfl dX0_headChanged_13 ?_
    have hPc := hP.sub (ws' := [(aq, .inr (1, [.ref av, .ref ah, .int (nI n), .null])), (ah, .inl (dH, 64, .inl f))]) [4, 3] rfl
    have hDc := hD.sub (ws' := [(aq, .inr (1, [.ref av, .ref ah, .int (nI n), .null])), (ah, .inl (dH, 64, .inl f))]) [4, 3] (by decide) rfl
    have hKc := hK.sub (tys' := [(dH, .int)]) [2] rfl
    have hFc := va_free (wc := [(aq, .inr (1, [.ref av, .ref ah, .int (nI n), .null])), (ah, .inl (dH, 64, .inl f))]) hD hS hA [4, 3] rfl
    refine va_calli (va_runV (As := []) (rest := []) ⟨hx, hb, hml, hown, hts⟩ (metX1_first l dC dI aq av ah dH f n H.size hn0 (sd_I_le hI0)) (cwV 0 hts (lw_V q169 q170 q171 q4 q172) rfl rfl rfl (by decide +kernel) ⟨Nat.le_of_ble_eq_true rfl, Nat.le_of_ble_eq_true rfl⟩) ⟨fun a U g mk q => by obtain ⟨q0, q1, qP, qK, qD⟩ := q; exact ⟨q0, q1, qP, va_K.moved (u := U) (U := U.calling g mk a) (Vm.Alike.refl U.vm) qK, qD⟩, va_recv hKc hPc (ci := 1) (q0 := 0) rfl rfl, fun U hU hW => ⟨rfl, by rw [hU], by rw [hU]; exact hPc, va_K.moved hW.alike hKc, hDc.weaken (fun _ _ _ _ => trivial)⟩⟩ rfl rfl hl.1 rfl (lv_room (Nat.le_of_ble_eq_true rfl)) dX0_headChanged_16 ⟨Nat.le_of_ble_eq_true rfl, Nat.le_of_ble_eq_true rfl⟩) hS (fun q _ h => hFc q h) hFc (fun r1 u t H1 locs ht hvm hwq hB hz1 hk1 hS => ?_)
    have hw : r1 = f 0 := hwq
    subst hw
    obtain ⟨hP1, hK1, hD1⟩ := hB
    rw [ht] at hP1
    obtain ⟨hP, hD⟩ := va_join (wr := [(ax, .inr (0, [.ref av, .ref ab, .ref aq])), (av, .inl (dV, 64, .inl v)), (ab, .inl (dB, 64, .inl b))]) (w1 := [(aq, .inr (1, [.ref av, .ref ah, .int (nI n), .null])), (ah, .inl (dH, 64, .inl f))]) hP hD [4, 3] [0, 1, 2] rfl rfl (by decide) (by decide) hk1 hFc hP1 hD1
    generalize H1 = H at hP hS ⊢
    have hP : va_P (dC, dI) vwCl [(ax, .inr (0, [.ref av, .ref ab, .ref aq])), (av, .inl (dV, 64, .inl v)), (ab, .inl (dB, 64, .inl b)), (aq, .inr (1, [.ref av, .ref ah, .int (nI n), .null])), (ah, .inl (dH, 64, .inl f))] H := hP
    have hD : va_D A [(ax, .inr (0, [.ref av, .ref ab, .ref aq])), (av, .inl (dV, 64, .inl v)), (ab, .inl (dB, 64, .inl b)), (aq, .inr (1, [.ref av, .ref ah, .int (nI n), .null])), (ah, .inl (dH, 64, .inl f))] := hD
    refine lv_istore_n (lv' := [(2, .int (f 0)), (0, .ref ax), (1, .int p0)]) hx hb dX0_headChanged_19 rfl hl (by decide) rfl (fun ls hl => ?_)
    refine lv_aload_n hx hb dX0_headChanged_20 rfl (lv_at hl 1 rfl) ?_
    refine va_get (D := (dC, dI)) (ci := 0) (v := .ref av) (C := RX0) (T := TX0) (N := 3) hx hb hts in_X0 hown hK hP 0 rfl rfl 0 (by decide) (hts _ q49) (fun _ h9 => h9) rfl dX0_headChanged_21 ?_
    refine lv_iload_n hx hb dX0_headChanged_24 rfl (lv_at hl 0 rfl) ?_
    refine lv_iload_n hx hb dX0_headChanged_25 rfl (lv_at hl 2 rfl) ?_
    refine lv_bipush (v := (-64)) hx hb dX0_headChanged_26 (by decide +kernel) ?_
    refine lv_iand hx hb dX0_headChanged_28 ?_
    refine lv_iload_n hx hb dX0_headChanged_29 rfl (lv_at hl 0 rfl) ?_
    refine lv_ior hx hb dX0_headChanged_30 ?_
    refine va_iast hx hb hK hP hD hS 1 0 rfl rfl (sd_I_ok hI0 0 hn0) dX0_headChanged_31 (fun H locs hP hD hS => ?_)
    rw [show upd v (f 0).toNatClampNeg ((p0 &&& (-64)) ||| (f 0)) = upd v (f 0).toNatClampNeg (sd_mk p0 (f 0)) from rfl] at hP hD
    have hP : va_P (dC, dI) vwCl [(ax, .inr (0, [.ref av, .ref ab, .ref aq])), (av, .inl (dV, 64, .inl (upd v (f 0).toNatClampNeg (sd_mk p0 (f 0))))), (ab, .inl (dB, 64, .inl b)), (aq, .inr (1, [.ref av, .ref ah, .int (nI n), .null])), (ah, .inl (dH, 64, .inl f))] H := hP
    have hD : va_D A [(ax, .inr (0, [.ref av, .ref ab, .ref aq])), (av, .inl (dV, 64, .inl (upd v (f 0).toNatClampNeg (sd_mk p0 (f 0))))), (ab, .inl (dB, 64, .inl b)), (aq, .inr (1, [.ref av, .ref ah, .int (nI n), .null])), (ah, .inl (dH, 64, .inl f))] := hD
    refine lv_aload_n hx hb dX0_headChanged_32 rfl (lv_at hl 1 rfl) ?_
    refine va_get (D := (dC, dI)) (ci := 0) (v := .ref aq) (C := RX0) (T := TX0) (N := 3) hx hb hts in_X0 hown hK hP 0 rfl rfl 2 (by decide) (hts _ q51) (fun _ h9 => h9) rfl dX0_headChanged_33 ?_
    have hPc := hP.sub (ws' := [(aq, .inr (1, [.ref av, .ref ah, .int (nI n), .null])), (av, .inl (dV, 64, .inl (upd v (f 0).toNatClampNeg (sd_mk p0 (f 0))))), (ah, .inl (dH, 64, .inl f))]) [3, 1, 4] rfl
    have hDc := hD.sub (ws' := [(aq, .inr (1, [.ref av, .ref ah, .int (nI n), .null])), (av, .inl (dV, 64, .inl (upd v (f 0).toNatClampNeg (sd_mk p0 (f 0))))), (ah, .inl (dH, 64, .inl f))]) [3, 1, 4] (by decide) rfl
    have hKc := hK.sub (tys' := [(dV, .int), (dH, .int)]) [0, 2] rfl
    have hFc := va_free (wc := [(aq, .inr (1, [.ref av, .ref ah, .int (nI n), .null])), (av, .inl (dV, 64, .inl (upd v (f 0).toNatClampNeg (sd_mk p0 (f 0))))), (ah, .inl (dH, 64, .inl f))]) hD hS hA [3, 1, 4] rfl
    refine va_callv (va_runV (As := []) (rest := []) ⟨hx, hb, hml, hown, hts⟩ (metX1_changed l dC dI aq av ah dV dH (upd v (f 0).toNatClampNeg (sd_mk p0 (f 0))) f n H.size hn0 (sd_I_le hI0) (sd_I_ok hI0) (sd_head_or _ hI0 hn0)) (cwV 0 hts (lw_V q209 q210 q211 q4 q212) rfl rfl rfl (by decide +kernel) ⟨Nat.le_of_ble_eq_true rfl, Nat.le_of_ble_eq_true rfl⟩) ⟨fun a U g mk q => by obtain ⟨q0, q1, qP, qK, qD⟩ := q; exact ⟨q0, q1, qP, va_K.moved (u := U) (U := U.calling g mk a) (Vm.Alike.refl U.vm) qK, qD⟩, va_recv hKc hPc (ci := 1) (q0 := 0) rfl rfl, fun U hU hW => ⟨rfl, by rw [hU], by rw [hU]; exact hPc, va_K.moved hW.alike hKc, hDc.weaken (fun _ _ _ _ => trivial)⟩⟩ rfl rfl hl.1 rfl (lv_room (Nat.le_of_ble_eq_true rfl)) dX0_headChanged_36 ⟨Nat.le_of_ble_eq_true rfl, Nat.le_of_ble_eq_true rfl⟩) hS (fun q _ h => hFc q h) hFc (fun g t H1 locs ht hvm hwq hB hz1 hk1 hS => ?_)
    have hw : hp_pm f g n ∧ hp_or (upd v (f 0).toNatClampNeg (sd_mk p0 (f 0))) g n 0 := hwq
    obtain ⟨hP1, hK1, hD1⟩ := hB
    rw [ht] at hP1
    obtain ⟨hP, hD⟩ := va_join (wr := [(ax, .inr (0, [.ref av, .ref ab, .ref aq])), (ab, .inl (dB, 64, .inl b))]) (w1 := [(aq, .inr (1, [.ref av, .ref ah, .int (nI n), .null])), (av, .inl (dV, 64, .inl (upd v (f 0).toNatClampNeg (sd_mk p0 (f 0))))), (ah, .inl (dH, 64, .inl g))]) hP hD [3, 1, 4] [0, 2] rfl rfl (by decide) (by decide) hk1 hFc hP1 hD1
    generalize H1 = H at hP hS ⊢
    have hP : va_P (dC, dI) vwCl [(ax, .inr (0, [.ref av, .ref ab, .ref aq])), (ab, .inl (dB, 64, .inl b)), (aq, .inr (1, [.ref av, .ref ah, .int (nI n), .null])), (av, .inl (dV, 64, .inl (upd v (f 0).toNatClampNeg (sd_mk p0 (f 0))))), (ah, .inl (dH, 64, .inl g))] H := hP
    have hD : va_D A [(ax, .inr (0, [.ref av, .ref ab, .ref aq])), (ab, .inl (dB, 64, .inl b)), (aq, .inr (1, [.ref av, .ref ah, .int (nI n), .null])), (av, .inl (dV, 64, .inl (upd v (f 0).toNatClampNeg (sd_mk p0 (f 0))))), (ah, .inl (dH, 64, .inl g))] := hD
    refine lv_iconst (v := 1) hx hb dX0_headChanged_39 (by decide +kernel) ?_
    have hP9 := hP.sub (ws' := [(ax, .inr (0, [.ref av, .ref ab, .ref aq])), (av, .inl (dV, 64, .inl ((upd v (f 0).toNatClampNeg (sd_mk p0 (f 0)), g).1))), (ab, .inl (dB, 64, .inl b)), (aq, .inr (1, [.ref av, .ref ah, .int (nI n), .null])), (ah, .inl (dH, 64, .inl ((upd v (f 0).toNatClampNeg (sd_mk p0 (f 0)), g).2)))]) [0, 3, 1, 2, 4] rfl
    have hD9 := hD.sub (ws' := [(ax, .inr (0, [.ref av, .ref ab, .ref aq])), (av, .inl (dV, 64, .inl ((upd v (f 0).toNatClampNeg (sd_mk p0 (f 0)), g).1))), (ab, .inl (dB, 64, .inl b)), (aq, .inr (1, [.ref av, .ref ah, .int (nI n), .null])), (ah, .inl (dH, 64, .inl ((upd v (f 0).toNatClampNeg (sd_mk p0 (f 0)), g).2)))]) [0, 3, 1, 2, 4] (by decide) rfl
    have hK9 := hK.sub (tys' := [(dV, .int), (dB, .boolean), (dH, .int)]) [0, 1, 2] rfl
    exact W.zret (v := 1) hx hb hr rfl (fun t ht hW => ⟨⟨1, (upd v (f 0).toNatClampNeg (sd_mk p0 (f 0)), g), rfl, ⟨by rw [hlp]; exact (if_neg hneg).symm, by rw [hlp]; exact (if_neg hneg).symm, sd_re hI0 (sd_head_low p0 hI0 hn0) hw.1 hw.2⟩, by rw [ht]; exact hP9, va_K.moved hW.alike hK9, hD9⟩, hS.F ht⟩) hS.2.2 dX0_headChanged_40
  · have hz : n = 0 := by
      rcases Nat.eq_zero_or_pos n with q | q
      · exact q
      · exact absurd c7 (nI_ne0 q (by have := sd_I_le hI0; omega))
    have hlp : sd_lp v b 64 = -1 := by rw [hz] at hI0; exact sd_lp_0 hI0
    have hneg : sd_lp v b 64 < 0 := by rw [hlp]; decide
    refine lv_iconst (v := 0) hx hb dX0_headChanged_10 (by decide +kernel) ?_
    have hP9 := hP.sub (ws' := [(ax, .inr (0, [.ref av, .ref ab, .ref aq])), (av, .inl (dV, 64, .inl ((v, f).1))), (ab, .inl (dB, 64, .inl b)), (aq, .inr (1, [.ref av, .ref ah, .int (nI n), .null])), (ah, .inl (dH, 64, .inl ((v, f).2)))]) [0, 1, 2, 4, 3] rfl
    have hD9 := hD.sub (ws' := [(ax, .inr (0, [.ref av, .ref ab, .ref aq])), (av, .inl (dV, 64, .inl ((v, f).1))), (ab, .inl (dB, 64, .inl b)), (aq, .inr (1, [.ref av, .ref ah, .int (nI n), .null])), (ah, .inl (dH, 64, .inl ((v, f).2)))]) [0, 1, 2, 4, 3] (by decide) rfl
    have hK9 := hK.sub (tys' := [(dV, .int), (dB, .boolean), (dH, .int)]) [0, 1, 2] rfl
    exact W.zret (v := 0) hx hb hr rfl (fun t ht hW => ⟨⟨0, (v, f), rfl, ⟨(if_pos hneg).symm, (if_pos hneg).symm, hI0⟩, by rw [ht]; exact hP9, va_K.moved hW.alike hK9, hD9⟩, hS.F ht⟩) hS.2.2 dX0_headChanged_11
set_option maxHeartbeats 4000000 in
set_option maxRecDepth 100000 in
/-- all(step) -/
theorem metX0_all (l : Launch) (dC : Nat → ClassId) (dI : Nat → Nat → Nat) (ax : Nat) (av : Nat) (ab : Nat) (aq : Nat) (ah : Nat) (dV : ClassId) (dB : ClassId) (dH : ClassId) (v : Nat → Int32) (b : Nat → Int32) (f : Nat → Int32) (n : Nat) (p0 : Int32) (sz : Nat) (hI0 : sd_I v b f n) : Met l yX0_all (ws_ yX0_all cX0_all 3 none) ({ frames := 3, cells := 0, slots := 0, locals := 73 }) (va_Pc [.ref ax, .int p0] (fun U => U.heap.size = sz ∧ va_P (dC, dI) vwCl [(ax, .inr (0, [.ref av, .ref ab, .ref aq])), (av, .inl (dV, 64, .inl v)), (ab, .inl (dB, 64, .inl b)), (aq, .inr (1, [.ref av, .ref ah, .int (nI n), .null])), (ah, .inl (dH, 64, .inl f))] U.heap ∧ va_K (dC, dI) vwCl [(dV, .int), (dB, .boolean), (dH, .int)] U ∧ va_D (fun _ => True) [(ax, .inr (0, [.ref av, .ref ab, .ref aq])), (av, .inl (dV, 64, .inl v)), (ab, .inl (dB, 64, .inl b)), (aq, .inr (1, [.ref av, .ref ah, .int (nI n), .null])), (ah, .inl (dH, 64, .inl f))])) (va_Qv (fun (u : Nat → Int32) => sd_I (sd_al v p0 64) b u n) (fun (u : Nat → Int32) (t : State) => va_P (dC, dI) vwCl [(ax, .inr (0, [.ref av, .ref ab, .ref aq])), (av, .inl (dV, 64, .inl (sd_al v p0 64))), (ab, .inl (dB, 64, .inl b)), (aq, .inr (1, [.ref av, .ref ah, .int (nI n), .null])), (ah, .inl (dH, 64, .inl u))] t.heap ∧ va_K (dC, dI) vwCl [(dV, .int), (dB, .boolean), (dH, .int)] t ∧ va_D (va_A [(ax, .inr (0, [.ref av, .ref ab, .ref aq])), (av, .inl (dV, 64, .inl v)), (ab, .inl (dB, 64, .inl b)), (aq, .inr (1, [.ref av, .ref ah, .int (nI n), .null])), (ah, .inl (dH, 64, .inl f))] sz) [(ax, .inr (0, [.ref av, .ref ab, .ref aq])), (av, .inl (dV, 64, .inl (sd_al v p0 64))), (ab, .inl (dB, 64, .inl b)), (aq, .inr (1, [.ref av, .ref ah, .int (nI n), .null])), (ah, .inl (dH, 64, .inl u))]) (va_A [(ax, .inr (0, [.ref av, .ref ab, .ref aq])), (av, .inl (dV, 64, .inl v)), (ab, .inl (dB, 64, .inl b)), (aq, .inr (1, [.ref av, .ref ah, .int (nI n), .null])), (ah, .inl (dH, 64, .inl f))] sz)) 0 0 (va_A [(ax, .inr (0, [.ref av, .ref ab, .ref aq])), (av, .inl (dV, 64, .inl v)), (ab, .inl (dB, 64, .inl b)), (aq, .inr (1, [.ref av, .ref ah, .int (nI n), .null])), (ah, .inl (dH, 64, .inl f))] sz) := by
  refine Met.ofW (cc := cX0_all) (maxL := 3) (ret := none) (by decide) rfl ?_
  intro p e s m args below meth c s₁ B hml hvv
  obtain ⟨rfl, hsz, hP, hK, hD0⟩ := hvv
  have hx := B.exec
  have hb := B.bytes
  have hr := B.returns
  have hts := atoms_spec (ws := (ws_ yX0_all cX0_all 3 none)) B.pre
  have hts : ∀ w ∈ lw_all, w.before _ s = true := fun w h => hts w (List.mem_cons_of_mem _ h)
  have hown : s.vm.findClass RX0 = some m.cls := findClass_of_methodNamed B.named
  have hlocks := B.notSynchronized
  subst hsz
  have hD := hD0.self (sz := s.heap.size)
  generalize hAe : va_A [(ax, .inr (0, [.ref av, .ref ab, .ref aq])), (av, .inl (dV, 64, .inl v)), (ab, .inl (dB, 64, .inl b)), (aq, .inr (1, [.ref av, .ref ah, .int (nI n), .null])), (ah, .inl (dH, 64, .inl f))] s.heap.size = A at hD ⊢
  have hA : ∀ q : Nat, s.heap.size ≤ q → A q := fun q h => by rw [← hAe]; exact Or.inr h
  have hS : va_S A s.heap s.heap [] := va_S.rf
  have hP : va_P (dC, dI) vwCl [(ax, .inr (0, [.ref av, .ref ab, .ref aq])), (av, .inl (dV, 64, .inl v)), (ab, .inl (dB, 64, .inl b)), (aq, .inr (1, [.ref av, .ref ah, .int (nI n), .null])), (ah, .inl (dH, 64, .inl f))] s.heap := hP
  have hl := lv_entry ([.ref ax, .int p0]) (n := 3) (Nat.le_of_ble_eq_true rfl)
  rw [lg_entry_eq]
  generalize (lg_sl ([.ref ax, .int p0]) ++ List.replicate (3 - (lg_sl ([.ref ax, .int p0])).length) Slot.unset).toArray = ls at hl ⊢
  have hl : lv_has ls 3 [(0, .ref ax), (1, .int p0)] := hl
  refine lv_iconst (v := (nI 0)) hx hb dX0_all_0 (by decide +kernel) ?_
  refine lv_istore_n (lv' := [(2, .int (nI 0)), (0, .ref ax), (1, .int p0)]) hx hb dX0_all_1 rfl hl (by decide) rfl (fun ls hl => ?_)
  have hP : va_P (dC, dI) vwCl [(ax, .inr (0, [.ref av, .ref ab, .ref aq])), (av, .inl (dV, 64, .inl (sd_al v p0 0))), (ab, .inl (dB, 64, .inl b)), (aq, .inr (1, [.ref av, .ref ah, .int (nI n), .null])), (ah, .inl (dH, 64, .inl f))] s.heap := by rw [sd_al_0]; exact hP
  have hD : va_D A [(ax, .inr (0, [.ref av, .ref ab, .ref aq])), (av, .inl (dV, 64, .inl (sd_al v p0 0))), (ab, .inl (dB, 64, .inl b)), (aq, .inr (1, [.ref av, .ref ah, .int (nI n), .null])), (ah, .inl (dH, 64, .inl f))] := by rw [sd_al_0]; exact hD
  refine wl_loop (σ := Nat) (fun x => 64 - x) (fun (x : Nat) (H : Heap) (locs : List Loc) (ls : Array Slot) => va_P (dC, dI) vwCl [(ax, .inr (0, [.ref av, .ref ab, .ref aq])), (av, .inl (dV, 64, .inl (sd_al v p0 x))), (ab, .inl (dB, 64, .inl b)), (aq, .inr (1, [.ref av, .ref ah, .int (nI n), .null])), (ah, .inl (dH, 64, .inl f))] H ∧ va_D A [(ax, .inr (0, [.ref av, .ref ab, .ref aq])), (av, .inl (dV, 64, .inl (sd_al v p0 x))), (ab, .inl (dB, 64, .inl b)), (aq, .inr (1, [.ref av, .ref ah, .int (nI n), .null])), (ah, .inl (dH, 64, .inl f))] ∧ va_S A s.heap H locs ∧ lv_has ls 3 [(0, .ref ax), (1, .int p0), (2, .int (nI x))] ∧ (x ≤ 64)) (fun x H locs ls hI ih => ?_) (0) _ _ _ ⟨hP.sub (ws' := [(ax, .inr (0, [.ref av, .ref ab, .ref aq])), (av, .inl (dV, 64, .inl (sd_al v p0 0))), (ab, .inl (dB, 64, .inl b)), (aq, .inr (1, [.ref av, .ref ah, .int (nI n), .null])), (ah, .inl (dH, 64, .inl f))]) [0, 1, 2, 3, 4] rfl, hD.sub (ws' := [(ax, .inr (0, [.ref av, .ref ab, .ref aq])), (av, .inl (dV, 64, .inl (sd_al v p0 0))), (ab, .inl (dB, 64, .inl b)), (aq, .inr (1, [.ref av, .ref ah, .int (nI n), .null])), (ah, .inl (dH, 64, .inl f))]) [0, 1, 2, 3, 4] (by decide) rfl, hS, lv_sub hl [1, 2, 0] rfl, Nat.zero_le 64⟩
  obtain ⟨i, ei⟩ : ∃ y, y = x := ⟨_, rfl⟩
  subst ei
  obtain ⟨hP, hD, hS, hl, hI⟩ := hI
  have hP : va_P (dC, dI) vwCl [(ax, .inr (0, [.ref av, .ref ab, .ref aq])), (av, .inl (dV, 64, .inl (sd_al v p0 i))), (ab, .inl (dB, 64, .inl b)), (aq, .inr (1, [.ref av, .ref ah, .int (nI n), .null])), (ah, .inl (dH, 64, .inl f))] H := hP
  have hD : va_D A [(ax, .inr (0, [.ref av, .ref ab, .ref aq])), (av, .inl (dV, 64, .inl (sd_al v p0 i))), (ab, .inl (dB, 64, .inl b)), (aq, .inr (1, [.ref av, .ref ah, .int (nI n), .null])), (ah, .inl (dH, 64, .inl f))] := hD
  have hl : lv_has ls 3 [(0, .ref ax), (1, .int p0), (2, .int (nI i))] := hl
  have hI : i ≤ 64 := hI
  refine lv_iload_n hx hb dX0_all_2 rfl (lv_at hl 2 rfl) ?_
  refine lv_bipush (v := (nI 64)) hx hb dX0_all_3 (by decide +kernel) ?_
  refine lv_icmp_ge (tgt := 38) hx hb dX0_all_5 (by decide) (fun c5 => ?_) (fun c5 => ?_)
  · obtain rfl : i = 64 := by
      have q : 64 ≤ i := (nI_leI (by omega) (by omega)).mp c5
      omega
    refine lv_aload_n hx hb dX0_all_38 rfl (lv_at hl 0 rfl) ?_
    refine va_get (D := (dC, dI)) (ci := 0) (v := .ref aq) (C := RX0) (T := TX0) (N := 3) hx hb hts in_X0 hown hK hP 0 rfl rfl 2 (by decide) (hts _ q51) (fun _ h9 => h9) rfl dX0_all_39 ?_
    have hPc := hP.sub (ws' := [(aq, .inr (1, [.ref av, .ref ah, .int (nI n), .null])), (av, .inl (dV, 64, .inl (sd_al v p0 64))), (ah, .inl (dH, 64, .inl f))]) [3, 1, 4] rfl
    have hDc := hD.sub (ws' := [(aq, .inr (1, [.ref av, .ref ah, .int (nI n), .null])), (av, .inl (dV, 64, .inl (sd_al v p0 64))), (ah, .inl (dH, 64, .inl f))]) [3, 1, 4] (by decide) rfl
    have hKc := hK.sub (tys' := [(dV, .int), (dH, .int)]) [0, 2] rfl
    have hFc := va_free (wc := [(aq, .inr (1, [.ref av, .ref ah, .int (nI n), .null])), (av, .inl (dV, 64, .inl (sd_al v p0 64))), (ah, .inl (dH, 64, .inl f))]) hD hS hA [3, 1, 4] rfl
    refine va_callv (va_runV (As := []) (rest := []) ⟨hx, hb, hml, hown, hts⟩ (metX1_allChanged l dC dI aq av ah dV dH (sd_al v p0 64) f n H.size (sd_I_le hI0) (sd_I_ok hI0)) (cwV 0 hts (lw_V q217 q218 q219 q4 q220) rfl rfl rfl (by decide +kernel) ⟨Nat.le_of_ble_eq_true rfl, Nat.le_of_ble_eq_true rfl⟩) ⟨fun a U g mk q => by obtain ⟨q0, q1, qP, qK, qD⟩ := q; exact ⟨q0, q1, qP, va_K.moved (u := U) (U := U.calling g mk a) (Vm.Alike.refl U.vm) qK, qD⟩, va_recv hKc hPc (ci := 1) (q0 := 0) rfl rfl, fun U hU hW => ⟨rfl, by rw [hU], by rw [hU]; exact hPc, va_K.moved hW.alike hKc, hDc.weaken (fun _ _ _ _ => trivial)⟩⟩ rfl rfl hl.1 rfl (lv_room (Nat.le_of_ble_eq_true rfl)) dX0_all_42 ⟨Nat.le_of_ble_eq_true rfl, Nat.le_of_ble_eq_true rfl⟩) hS (fun q _ h => hFc q h) hFc (fun g t H1 locs ht hvm hwq hB hz1 hk1 hS => ?_)
    have hw : hp_pm f g n ∧ hp_or (sd_al v p0 64) g n 0 := hwq
    obtain ⟨hP1, hK1, hD1⟩ := hB
    rw [ht] at hP1
    obtain ⟨hP, hD⟩ := va_join (wr := [(ax, .inr (0, [.ref av, .ref ab, .ref aq])), (ab, .inl (dB, 64, .inl b))]) (w1 := [(aq, .inr (1, [.ref av, .ref ah, .int (nI n), .null])), (av, .inl (dV, 64, .inl (sd_al v p0 64))), (ah, .inl (dH, 64, .inl g))]) hP hD [3, 1, 4] [0, 2] rfl rfl (by decide) (by decide) hk1 hFc hP1 hD1
    generalize H1 = H at hP hS ⊢
    have hP : va_P (dC, dI) vwCl [(ax, .inr (0, [.ref av, .ref ab, .ref aq])), (ab, .inl (dB, 64, .inl b)), (aq, .inr (1, [.ref av, .ref ah, .int (nI n), .null])), (av, .inl (dV, 64, .inl (sd_al v p0 64))), (ah, .inl (dH, 64, .inl g))] H := hP
    have hD : va_D A [(ax, .inr (0, [.ref av, .ref ab, .ref aq])), (ab, .inl (dB, 64, .inl b)), (aq, .inr (1, [.ref av, .ref ah, .int (nI n), .null])), (av, .inl (dV, 64, .inl (sd_al v p0 64))), (ah, .inl (dH, 64, .inl g))] := hD
    have hP9 := hP.sub (ws' := [(ax, .inr (0, [.ref av, .ref ab, .ref aq])), (av, .inl (dV, 64, .inl (sd_al v p0 64))), (ab, .inl (dB, 64, .inl b)), (aq, .inr (1, [.ref av, .ref ah, .int (nI n), .null])), (ah, .inl (dH, 64, .inl g))]) [0, 3, 1, 2, 4] rfl
    have hD9 := hD.sub (ws' := [(ax, .inr (0, [.ref av, .ref ab, .ref aq])), (av, .inl (dV, 64, .inl (sd_al v p0 64))), (ab, .inl (dB, 64, .inl b)), (aq, .inr (1, [.ref av, .ref ah, .int (nI n), .null])), (ah, .inl (dH, 64, .inl g))]) [0, 3, 1, 2, 4] (by decide) rfl
    have hK9 := hK.sub (tys' := [(dV, .int), (dB, .boolean), (dH, .int)]) [0, 1, 2] rfl
    exact W.vret hx hb hr (fun t ht hW => ⟨⟨g, rfl, sd_re hI0 (sd_all_low v p0) hw.1 hw.2, by rw [ht]; exact hP9, va_K.moved hW.alike hK9, hD9⟩, hS.F ht⟩) hS.2.2 dX0_all_45
  · have hlt : i < 64 := by
      rcases Nat.lt_or_ge i 64 with q | q
      · exact q
      · exact absurd (nI_le q (by omega)) c5
    refine lv_aload_n hx hb dX0_all_8 rfl (lv_at hl 0 rfl) ?_
    refine va_get (D := (dC, dI)) (ci := 0) (v := .ref av) (C := RX0) (T := TX0) (N := 3) hx hb hts in_X0 hown hK hP 0 rfl rfl 0 (by decide) (hts _ q49) (fun _ h9 => h9) rfl dX0_all_9 ?_
    refine lv_iload_n hx hb dX0_all_12 rfl (lv_at hl 2 rfl) ?_
    refine lv_aload_n hx hb dX0_all_13 rfl (lv_at hl 0 rfl) ?_
    refine va_get (D := (dC, dI)) (ci := 0) (v := .ref av) (C := RX0) (T := TX0) (N := 3) hx hb hts in_X0 hown hK hP 0 rfl rfl 0 (by decide) (hts _ q49) (fun _ h9 => h9) rfl dX0_all_14 ?_
    refine lv_iload_n hx hb dX0_all_17 rfl (lv_at hl 2 rfl) ?_
    refine va_iald hx hb hK hP 1 0 rfl rfl (vp_in_nI (by omega) (by omega)) dX0_all_18 ?_
    refine lv_topi (fun y_1 ey_1 => ?_)
    obtain rfl : y_1 = v i := ey_1.trans ((congrArg (sd_al v p0 i) (nI_clamp (by omega))).trans (sd_al_r v p0 i))
    refine lv_iload_n hx hb dX0_all_19 rfl (lv_at hl 1 rfl) ?_
    refine lv_iload_n hx hb dX0_all_20 rfl (lv_at hl 2 rfl) ?_
    refine lv_imul hx hb dX0_all_21 ?_
    refine lv_bipush (v := 64) hx hb dX0_all_22 (by decide +kernel) ?_
    refine lv_imul hx hb dX0_all_24 ?_
    refine lv_iadd hx hb dX0_all_25 ?_
    refine lv_bipush (v := (-64)) hx hb dX0_all_26 (by decide +kernel) ?_
    refine lv_iand hx hb dX0_all_28 ?_
    refine lv_iload_n hx hb dX0_all_29 rfl (lv_at hl 2 rfl) ?_
    refine lv_ior hx hb dX0_all_30 ?_
    refine va_iast hx hb hK hP hD hS 1 0 rfl rfl (vp_in_nI (by omega) (by omega)) dX0_all_31 (fun H locs hP hD hS => ?_)
    rw [nI_clamp (n := i) (by omega)] at hP hD
    rw [show upd (sd_al v p0 i) i ((((v i) + ((p0 * (nI i)) * 64)) &&& (-64)) ||| (nI i)) = sd_al v p0 (i + 1) from sd_al_s v p0 i] at hP hD
    have hP : va_P (dC, dI) vwCl [(ax, .inr (0, [.ref av, .ref ab, .ref aq])), (av, .inl (dV, 64, .inl (sd_al v p0 (i + 1)))), (ab, .inl (dB, 64, .inl b)), (aq, .inr (1, [.ref av, .ref ah, .int (nI n), .null])), (ah, .inl (dH, 64, .inl f))] H := hP
    have hD : va_D A [(ax, .inr (0, [.ref av, .ref ab, .ref aq])), (av, .inl (dV, 64, .inl (sd_al v p0 (i + 1)))), (ab, .inl (dB, 64, .inl b)), (aq, .inr (1, [.ref av, .ref ah, .int (nI n), .null])), (ah, .inl (dH, 64, .inl f))] := hD
    refine lv_iinc (v := nI (i + 1)) (lv' := [(2, .int (nI (i + 1))), (0, .ref ax), (1, .int p0)]) hx hb dX0_all_32 hl (k := 2) rfl (by rw [← nI_1]; rfl) (by decide) rfl (fun ls hl => ?_)
    refine lv_goto (tgt := 2) hx hb dX0_all_35 (by decide) ?_
    exact ih ((i + 1)) _ _ _ (by first | omega | (dsimp only; omega)) ⟨hP.sub (ws' := [(ax, .inr (0, [.ref av, .ref ab, .ref aq])), (av, .inl (dV, 64, .inl (sd_al v p0 (i + 1)))), (ab, .inl (dB, 64, .inl b)), (aq, .inr (1, [.ref av, .ref ah, .int (nI n), .null])), (ah, .inl (dH, 64, .inl f))]) [0, 1, 2, 3, 4] rfl, hD.sub (ws' := [(ax, .inr (0, [.ref av, .ref ab, .ref aq])), (av, .inl (dV, 64, .inl (sd_al v p0 (i + 1)))), (ab, .inl (dB, 64, .inl b)), (aq, .inr (1, [.ref av, .ref ah, .int (nI n), .null])), (ah, .inl (dH, 64, .inl f))]) [0, 1, 2, 3, 4] (by decide) rfl, hS, lv_sub hl [1, 2, 0] rfl, by omega⟩
set_option maxHeartbeats 4000000 in
set_option maxRecDepth 100000 in
/-- front() -/
theorem metX0_front (l : Launch) (dC : Nat → ClassId) (dI : Nat → Nat → Nat) (ax : Nat) (av : Nat) (ab : Nat) (aq : Nat) (ah : Nat) (dV : ClassId) (dB : ClassId) (dH : ClassId) (v : Nat → Int32) (b : Nat → Int32) (f : Nat → Int32) (n : Nat) (sz : Nat) (hI0 : sd_I v b f n) : Met l yX0_front (ws_ yX0_front cX0_front 3 (some .int)) ({ frames := 3, cells := 1, slots := 64, locals := 63 }) (va_Pc [.ref ax] (fun U => U.heap.size = sz ∧ va_P (dC, dI) vwCl [(ax, .inr (0, [.ref av, .ref ab, .ref aq])), (av, .inl (dV, 64, .inl v)), (ab, .inl (dB, 64, .inl b)), (aq, .inr (1, [.ref av, .ref ah, .int (nI n), .null])), (ah, .inl (dH, 64, .inl f))] U.heap ∧ va_K (dC, dI) vwCl [(dV, .int), (dB, .boolean), (dH, .int)] U ∧ va_D (fun _ => True) [(ax, .inr (0, [.ref av, .ref ab, .ref aq])), (av, .inl (dV, 64, .inl v)), (ab, .inl (dB, 64, .inl b)), (aq, .inr (1, [.ref av, .ref ah, .int (nI n), .null])), (ah, .inl (dH, 64, .inl f))])) (va_Qi (fun (r : Int32) (u : Unit) => r = (if sd_lp v b 64 < 0 then 0 else 100 * nI (sd_mn v b (sd_lp v b 64) 64) + sd_lp v b 64)) (fun (u : Unit) (t : State) => va_P (dC, dI) vwCl [(ax, .inr (0, [.ref av, .ref ab, .ref aq])), (av, .inl (dV, 64, .inl v)), (ab, .inl (dB, 64, .inl b)), (aq, .inr (1, [.ref av, .ref ah, .int (nI n), .null])), (ah, .inl (dH, 64, .inl f))] t.heap ∧ va_K (dC, dI) vwCl [(dV, .int), (dB, .boolean), (dH, .int)] t ∧ va_D (va_A [(ax, .inr (0, [.ref av, .ref ab, .ref aq])), (av, .inl (dV, 64, .inl v)), (ab, .inl (dB, 64, .inl b)), (aq, .inr (1, [.ref av, .ref ah, .int (nI n), .null])), (ah, .inl (dH, 64, .inl f))] sz) [(ax, .inr (0, [.ref av, .ref ab, .ref aq])), (av, .inl (dV, 64, .inl v)), (ab, .inl (dB, 64, .inl b)), (aq, .inr (1, [.ref av, .ref ah, .int (nI n), .null])), (ah, .inl (dH, 64, .inl f))]) (va_A [(ax, .inr (0, [.ref av, .ref ab, .ref aq])), (av, .inl (dV, 64, .inl v)), (ab, .inl (dB, 64, .inl b)), (aq, .inr (1, [.ref av, .ref ah, .int (nI n), .null])), (ah, .inl (dH, 64, .inl f))] sz)) 1 64 (va_A [(ax, .inr (0, [.ref av, .ref ab, .ref aq])), (av, .inl (dV, 64, .inl v)), (ab, .inl (dB, 64, .inl b)), (aq, .inr (1, [.ref av, .ref ah, .int (nI n), .null])), (ah, .inl (dH, 64, .inl f))] sz) := by
  refine Met.ofW (cc := cX0_front) (maxL := 3) (ret := (some .int)) (by decide) rfl ?_
  intro p e s m args below meth c s₁ B hml hvv
  obtain ⟨rfl, hsz, hP, hK, hD0⟩ := hvv
  have hx := B.exec
  have hb := B.bytes
  have hr := B.returns
  have hts := atoms_spec (ws := (ws_ yX0_front cX0_front 3 (some .int))) B.pre
  have hts : ∀ w ∈ lw_all, w.before _ s = true := fun w h => hts w (List.mem_cons_of_mem _ h)
  have hown : s.vm.findClass RX0 = some m.cls := findClass_of_methodNamed B.named
  have hlocks := B.notSynchronized
  subst hsz
  have hD := hD0.self (sz := s.heap.size)
  generalize hAe : va_A [(ax, .inr (0, [.ref av, .ref ab, .ref aq])), (av, .inl (dV, 64, .inl v)), (ab, .inl (dB, 64, .inl b)), (aq, .inr (1, [.ref av, .ref ah, .int (nI n), .null])), (ah, .inl (dH, 64, .inl f))] s.heap.size = A at hD ⊢
  have hA : ∀ q : Nat, s.heap.size ≤ q → A q := fun q h => by rw [← hAe]; exact Or.inr h
  have hS : va_S A s.heap s.heap [] := va_S.rf
  have hP : va_P (dC, dI) vwCl [(ax, .inr (0, [.ref av, .ref ab, .ref aq])), (av, .inl (dV, 64, .inl v)), (ab, .inl (dB, 64, .inl b)), (aq, .inr (1, [.ref av, .ref ah, .int (nI n), .null])), (ah, .inl (dH, 64, .inl f))] s.heap := hP
  have hl := lv_entry ([.ref ax]) (n := 3) (Nat.le_of_ble_eq_true rfl)
  rw [lg_entry_eq]
  generalize (lg_sl ([.ref ax]) ++ List.replicate (3 - (lg_sl ([.ref ax])).length) Slot.unset).toArray = ls at hl ⊢
  have hl : lv_has ls 3 [(0, .ref ax)] := hl
  refine lv_aload_n hx hb dX0_front_0 rfl (lv_at hl 0 rfl) ?_
  refine va_get (D := (dC, dI)) (ci := 0) (v := .ref aq) (C := RX0) (T := TX0) (N := 3) hx hb hts in_X0 hown hK hP 0 rfl rfl 2 (by decide) (hts _ q51) (fun _ h9 => h9) rfl dX0_front_1 ?_
  have hPc := hP.sub (ws' := [(aq, .inr (1, [.ref av, .ref ah, .int (nI n), .null]))]) [3] rfl
  have hDc := hD.sub (ws' := [(aq, .inr (1, [.ref av, .ref ah, .int (nI n), .null]))]) [3] (by decide) rfl
  have hKc := hK.sub (tys' := []) [] rfl
  have hFc := va_free (wc := [(aq, .inr (1, [.ref av, .ref ah, .int (nI n), .null]))]) hD hS hA [3] rfl
  refine va_calli (va_runV (As := []) (rest := []) ⟨hx, hb, hml, hown, hts⟩ (metX1_size l dC dI aq av ah (nI n) s.heap.size ) (cwV 0 hts (lw_V q165 q166 q167 q4 q168) rfl rfl rfl (by decide +kernel) ⟨Nat.le_of_ble_eq_true rfl, Nat.le_of_ble_eq_true rfl⟩) ⟨fun a U g mk q => by obtain ⟨q0, q1, qP, qK, qD⟩ := q; exact ⟨q0, q1, qP, va_K.moved (u := U) (U := U.calling g mk a) (Vm.Alike.refl U.vm) qK, qD⟩, va_recv hKc hPc (ci := 1) (q0 := 0) rfl rfl, fun U hU hW => ⟨rfl, by rw [hU], by rw [hU]; exact hPc, va_K.moved hW.alike hKc, hDc.weaken (fun _ _ _ _ => trivial)⟩⟩ rfl rfl hl.1 rfl (lv_room (Nat.le_of_ble_eq_true rfl)) dX0_front_4 ⟨Nat.le_of_ble_eq_true rfl, Nat.le_of_ble_eq_true rfl⟩) hS (fun q _ h => hFc q h) hFc (fun r1 u t H1 locs ht hvm hwq hB hz1 hk1 hS => ?_)
  have hw : r1 = (nI n) := hwq
  subst hw
  obtain ⟨hP1, hK1, hD1⟩ := hB
  rw [ht] at hP1
  obtain ⟨hP, hD⟩ := va_join (wr := [(ax, .inr (0, [.ref av, .ref ab, .ref aq])), (av, .inl (dV, 64, .inl v)), (ab, .inl (dB, 64, .inl b)), (ah, .inl (dH, 64, .inl f))]) (w1 := [(aq, .inr (1, [.ref av, .ref ah, .int (nI n), .null]))]) hP hD [3] [0, 1, 2, 4] rfl rfl (by decide) (by decide) hk1 hFc hP1 hD1
  generalize H1 = H at hP hS ⊢
  have hP : va_P (dC, dI) vwCl [(ax, .inr (0, [.ref av, .ref ab, .ref aq])), (av, .inl (dV, 64, .inl v)), (ab, .inl (dB, 64, .inl b)), (ah, .inl (dH, 64, .inl f)), (aq, .inr (1, [.ref av, .ref ah, .int (nI n), .null]))] H := hP
  have hD : va_D A [(ax, .inr (0, [.ref av, .ref ab, .ref aq])), (av, .inl (dV, 64, .inl v)), (ab, .inl (dB, 64, .inl b)), (ah, .inl (dH, 64, .inl f)), (aq, .inr (1, [.ref av, .ref ah, .int (nI n), .null]))] := hD
  refine lv_if_ne (tgt := 12) hx hb dX0_front_7 (by decide) (fun c7 => ?_) (fun c7 => ?_)
  · have hn0 : 0 < n := by
      rcases Nat.eq_zero_or_pos n with q | q
      · exact absurd (by rw [q]; exact nI_0) c7
      · exact q
    have hneg : ¬ f 0 < 0 := fun q => sd_I_ok hI0 0 hn0 (Or.inl q)
    have hlp := sd_lp_f hI0 hn0
    refine lv_bipush (v := (nI 64)) hx hb dX0_front_12 (by decide +kernel) ?_
    refine va_newa (atype := .int) (ty := .int) (N' := 64) (a0 := (64, .inl (fun _ => 0))) hx hb (hts _ q47) rfl hK hP hD hS hA (fun cA => rfl) (by decide +kernel) (by decide +kernel) (Nat.le_of_ble_eq_true rfl) (Nat.le_of_ble_eq_true rfl) (Nat.le_of_ble_eq_true rfl) dX0_front_14 (fun az dZ H hK hP hD hS => ?_)
    have hK : va_K (dC, dI) vwCl [(dV, .int), (dB, .boolean), (dH, .int), (dZ, .int)] s := hK
    have hP : va_P (dC, dI) vwCl [(ax, .inr (0, [.ref av, .ref ab, .ref aq])), (av, .inl (dV, 64, .inl v)), (ab, .inl (dB, 64, .inl b)), (ah, .inl (dH, 64, .inl f)), (aq, .inr (1, [.ref av, .ref ah, .int (nI n), .null])), (az, .inl (dZ, 64, .inl (fun _ => 0)))] H := hP
    have hD : va_D A [(ax, .inr (0, [.ref av, .ref ab, .ref aq])), (av, .inl (dV, 64, .inl v)), (ab, .inl (dB, 64, .inl b)), (ah, .inl (dH, 64, .inl f)), (aq, .inr (1, [.ref av, .ref ah, .int (nI n), .null])), (az, .inl (dZ, 64, .inl (fun _ => 0)))] := hD
    refine W.widen (k := 1) (n := 64) (Nat.le_of_ble_eq_true rfl) (Nat.le_of_ble_eq_true rfl) ?_
    refine lv_astore_n (lv' := [(1, .ref az), (0, .ref ax)]) hx hb dX0_front_16 rfl hl (by decide) rfl (fun ls hl => ?_)
    refine lv_aload_n hx hb dX0_front_17 rfl (lv_at hl 1 rfl) ?_
    refine va_get (D := (dC, dI)) (ci := 0) (v := .ref aq) (C := RX0) (T := TX0) (N := 3) hx hb hts in_X0 hown hK hP 0 rfl rfl 2 (by decide) (hts _ q51) (fun _ h9 => h9) rfl dX0_front_18 ?_
    refine lv_aload_n hx hb dX0_front_21 rfl (lv_at hl 0 rfl) ?_
    have hPc := hP.sub (ws' := [(aq, .inr (1, [.ref av, .ref ah, .int (nI n), .null])), (av, .inl (dV, 64, .inl v)), (ah, .inl (dH, 64, .inl f)), (az, .inl (dZ, 64, .inl (fun _ => 0)))]) [4, 1, 3, 5] rfl
    have hDc := hD.sub (ws' := [(aq, .inr (1, [.ref av, .ref ah, .int (nI n), .null])), (av, .inl (dV, 64, .inl v)), (ah, .inl (dH, 64, .inl f)), (az, .inl (dZ, 64, .inl (fun _ => 0)))]) [4, 1, 3, 5] (by decide) rfl
    have hKc := hK.sub (tys' := [(dV, .int), (dH, .int), (dZ, .int)]) [0, 2, 3] rfl
    have hFc := va_free (wc := [(aq, .inr (1, [.ref av, .ref ah, .int (nI n), .null])), (av, .inl (dV, 64, .inl v)), (ah, .inl (dH, 64, .inl f)), (az, .inl (dZ, 64, .inl (fun _ => 0)))]) hD hS hA [4, 1, 3, 5] rfl
    refine va_calli (va_runV (As := [.ref az]) (rest := []) ⟨hx, hb, hml, hown, hts⟩ (metX1_front l dC dI aq av ah dV dH v f n az dZ (fun _ => 0) H.size hn0 (sd_I_le hI0) (sd_I_ok hI0) (sd_fne hI0)) (cwV 1 hts (lw_V q229 q230 q231 q4 q232) rfl rfl rfl (by decide +kernel) ⟨Nat.le_of_ble_eq_true rfl, Nat.le_of_ble_eq_true rfl⟩) ⟨fun a U g mk q => by obtain ⟨q0, q1, qP, qK, qD⟩ := q; exact ⟨q0, q1, qP, va_K.moved (u := U) (U := U.calling g mk a) (Vm.Alike.refl U.vm) qK, qD⟩, va_recv hKc hPc (ci := 1) (q0 := 0) rfl rfl, fun U hU hW => ⟨rfl, by rw [hU], by rw [hU]; exact hPc, va_K.moved hW.alike hKc, hDc.weaken (fun _ _ _ _ => trivial)⟩⟩ rfl rfl hl.1 rfl (lv_room (Nat.le_of_ble_eq_true rfl)) dX0_front_22 ⟨Nat.le_of_ble_eq_true rfl, Nat.le_of_ble_eq_true rfl⟩) hS (fun q _ h => hFc q h) hFc (fun r1 u t H1 locs ht hvm hwq hB hz1 hk1 hS => ?_)
    have hw : r1 = nI 1 := hwq
    subst hw
    obtain ⟨hP1, hK1, hD1⟩ := hB
    rw [ht] at hP1
    obtain ⟨hP, hD⟩ := va_join (wr := [(ax, .inr (0, [.ref av, .ref ab, .ref aq])), (ab, .inl (dB, 64, .inl b))]) (w1 := [(aq, .inr (1, [.ref av, .ref ah, .int (nI n), .null])), (av, .inl (dV, 64, .inl v)), (ah, .inl (dH, 64, .inl f)), (az, .inl (dZ, 64, .inl (upd (fun _ => 0) 0 (f 0))))]) hP hD [4, 1, 3, 5] [0, 2] rfl rfl (by decide) (by decide) hk1 hFc hP1 hD1
    generalize H1 = H at hP hS ⊢
    have hP : va_P (dC, dI) vwCl [(ax, .inr (0, [.ref av, .ref ab, .ref aq])), (ab, .inl (dB, 64, .inl b)), (aq, .inr (1, [.ref av, .ref ah, .int (nI n), .null])), (av, .inl (dV, 64, .inl v)), (ah, .inl (dH, 64, .inl f)), (az, .inl (dZ, 64, .inl (upd (fun _ => 0) 0 (f 0))))] H := hP
    have hD : va_D A [(ax, .inr (0, [.ref av, .ref ab, .ref aq])), (ab, .inl (dB, 64, .inl b)), (aq, .inr (1, [.ref av, .ref ah, .int (nI n), .null])), (av, .inl (dV, 64, .inl v)), (ah, .inl (dH, 64, .inl f)), (az, .inl (dZ, 64, .inl (upd (fun _ => 0) 0 (f 0))))] := hD
    refine lv_istore_n (lv' := [(2, .int (nI 1)), (1, .ref az), (0, .ref ax)]) hx hb dX0_front_25 rfl hl (by decide) rfl (fun ls hl => ?_)
    refine lv_bipush (v := 100) hx hb dX0_front_26 (by decide +kernel) ?_
    refine lv_iload_n hx hb dX0_front_28 rfl (lv_at hl 0 rfl) ?_
    refine lv_imul hx hb dX0_front_29 ?_
    refine lv_aload_n hx hb dX0_front_30 rfl (lv_at hl 1 rfl) ?_
    refine lv_iconst (v := (nI 0)) hx hb dX0_front_31 (by decide +kernel) ?_
    refine va_iald hx hb hK hP 5 3 rfl rfl (vp_in_nI (by omega) (by omega)) dX0_front_32 ?_
    refine lv_topi (fun y_1 ey_1 => ?_)
    obtain rfl : y_1 = f 0 := ey_1.trans ((congrArg (upd (fun _ => 0) 0 (f 0)) (nI_clamp (by omega))).trans (pk_us))
    refine lv_iadd hx hb dX0_front_33 ?_
    have hP9 := hP.sub (ws' := [(ax, .inr (0, [.ref av, .ref ab, .ref aq])), (av, .inl (dV, 64, .inl v)), (ab, .inl (dB, 64, .inl b)), (aq, .inr (1, [.ref av, .ref ah, .int (nI n), .null])), (ah, .inl (dH, 64, .inl f))]) [0, 3, 1, 2, 4] rfl
    have hD9 := hD.sub (ws' := [(ax, .inr (0, [.ref av, .ref ab, .ref aq])), (av, .inl (dV, 64, .inl v)), (ab, .inl (dB, 64, .inl b)), (aq, .inr (1, [.ref av, .ref ah, .int (nI n), .null])), (ah, .inl (dH, 64, .inl f))]) [0, 3, 1, 2, 4] (by decide) rfl
    have hK9 := hK.sub (tys' := [(dV, .int), (dB, .boolean), (dH, .int)]) [0, 1, 2] rfl
    exact W.iret (v := ((100 * (nI 1)) + (f 0))) hx hb hr (fun t ht hW => ⟨⟨((100 * (nI 1)) + (f 0)), (), rfl, sd_front hI0 hn0, by rw [ht]; exact hP9, va_K.moved hW.alike hK9, hD9⟩, hS.F ht⟩) hS.2.2 dX0_front_34
  · have hz : n = 0 := by
      rcases Nat.eq_zero_or_pos n with q | q
      · exact q
      · exact absurd c7 (nI_ne0 q (by have := sd_I_le hI0; omega))
    have hlp : sd_lp v b 64 = -1 := by rw [hz] at hI0; exact sd_lp_0 hI0
    have hneg : sd_lp v b 64 < 0 := by rw [hlp]; decide
    refine lv_iconst (v := 0) hx hb dX0_front_10 (by decide +kernel) ?_
    have hP9 := hP.sub (ws' := [(ax, .inr (0, [.ref av, .ref ab, .ref aq])), (av, .inl (dV, 64, .inl v)), (ab, .inl (dB, 64, .inl b)), (aq, .inr (1, [.ref av, .ref ah, .int (nI n), .null])), (ah, .inl (dH, 64, .inl f))]) [0, 1, 2, 4, 3] rfl
    have hD9 := hD.sub (ws' := [(ax, .inr (0, [.ref av, .ref ab, .ref aq])), (av, .inl (dV, 64, .inl v)), (ab, .inl (dB, 64, .inl b)), (aq, .inr (1, [.ref av, .ref ah, .int (nI n), .null])), (ah, .inl (dH, 64, .inl f))]) [0, 1, 2, 4, 3] (by decide) rfl
    have hK9 := hK.sub (tys' := [(dV, .int), (dB, .boolean), (dH, .int)]) [0, 1, 2] rfl
    refine W.widen (k := 1) (n := 64) (Nat.le_of_ble_eq_true rfl) (Nat.le_of_ble_eq_true rfl) ?_
    exact W.iret (v := 0) hx hb hr (fun t ht hW => ⟨⟨0, (), rfl, (if_pos hneg).symm, by rw [ht]; exact hP9, va_K.moved hW.alike hK9, hD9⟩, hS.F ht⟩) hS.2.2 dX0_front_11
set_option maxHeartbeats 4000000 in
set_option maxRecDepth 100000 in
/-- waiting() -/
theorem metX0_waiting (l : Launch) (dC : Nat → ClassId) (dI : Nat → Nat → Nat) (ax : Nat) (av : Nat) (ab : Nat) (aq : Nat) (ah : Nat) (dV : ClassId) (dB : ClassId) (dH : ClassId) (v : Nat → Int32) (b : Nat → Int32) (f : Nat → Int32) (n : Nat) (sz : Nat) (hI0 : sd_I v b f n) : Met l yX0_waiting (ws_ yX0_waiting cX0_waiting 1 (some .int)) ({ frames := 1, cells := 0, slots := 0, locals := 20 }) (va_Pc [.ref ax] (fun U => U.heap.size = sz ∧ va_P (dC, dI) vwCl [(ax, .inr (0, [.ref av, .ref ab, .ref aq])), (av, .inl (dV, 64, .inl v)), (ab, .inl (dB, 64, .inl b)), (aq, .inr (1, [.ref av, .ref ah, .int (nI n), .null])), (ah, .inl (dH, 64, .inl f))] U.heap ∧ va_K (dC, dI) vwCl [(dV, .int), (dB, .boolean), (dH, .int)] U ∧ va_D (fun _ => True) [(ax, .inr (0, [.ref av, .ref ab, .ref aq])), (av, .inl (dV, 64, .inl v)), (ab, .inl (dB, 64, .inl b)), (aq, .inr (1, [.ref av, .ref ah, .int (nI n), .null])), (ah, .inl (dH, 64, .inl f))])) (va_Qi (fun (r : Int32) (u : Unit) => r = nI (sd_ct b 64)) (fun (u : Unit) (t : State) => va_P (dC, dI) vwCl [(ax, .inr (0, [.ref av, .ref ab, .ref aq])), (av, .inl (dV, 64, .inl v)), (ab, .inl (dB, 64, .inl b)), (aq, .inr (1, [.ref av, .ref ah, .int (nI n), .null])), (ah, .inl (dH, 64, .inl f))] t.heap ∧ va_K (dC, dI) vwCl [(dV, .int), (dB, .boolean), (dH, .int)] t ∧ va_D (va_A [(ax, .inr (0, [.ref av, .ref ab, .ref aq])), (av, .inl (dV, 64, .inl v)), (ab, .inl (dB, 64, .inl b)), (aq, .inr (1, [.ref av, .ref ah, .int (nI n), .null])), (ah, .inl (dH, 64, .inl f))] sz) [(ax, .inr (0, [.ref av, .ref ab, .ref aq])), (av, .inl (dV, 64, .inl v)), (ab, .inl (dB, 64, .inl b)), (aq, .inr (1, [.ref av, .ref ah, .int (nI n), .null])), (ah, .inl (dH, 64, .inl f))]) (va_A [(ax, .inr (0, [.ref av, .ref ab, .ref aq])), (av, .inl (dV, 64, .inl v)), (ab, .inl (dB, 64, .inl b)), (aq, .inr (1, [.ref av, .ref ah, .int (nI n), .null])), (ah, .inl (dH, 64, .inl f))] sz)) 0 0 (va_A [(ax, .inr (0, [.ref av, .ref ab, .ref aq])), (av, .inl (dV, 64, .inl v)), (ab, .inl (dB, 64, .inl b)), (aq, .inr (1, [.ref av, .ref ah, .int (nI n), .null])), (ah, .inl (dH, 64, .inl f))] sz) := by
  refine Met.ofW (cc := cX0_waiting) (maxL := 1) (ret := (some .int)) (by decide) rfl ?_
  intro p e s m args below meth c s₁ B hml hvv
  obtain ⟨rfl, hsz, hP, hK, hD0⟩ := hvv
  have hx := B.exec
  have hb := B.bytes
  have hr := B.returns
  have hts := atoms_spec (ws := (ws_ yX0_waiting cX0_waiting 1 (some .int))) B.pre
  have hts : ∀ w ∈ lw_all, w.before _ s = true := fun w h => hts w (List.mem_cons_of_mem _ h)
  have hown : s.vm.findClass RX0 = some m.cls := findClass_of_methodNamed B.named
  have hlocks := B.notSynchronized
  subst hsz
  have hD := hD0.self (sz := s.heap.size)
  generalize hAe : va_A [(ax, .inr (0, [.ref av, .ref ab, .ref aq])), (av, .inl (dV, 64, .inl v)), (ab, .inl (dB, 64, .inl b)), (aq, .inr (1, [.ref av, .ref ah, .int (nI n), .null])), (ah, .inl (dH, 64, .inl f))] s.heap.size = A at hD ⊢
  have hA : ∀ q : Nat, s.heap.size ≤ q → A q := fun q h => by rw [← hAe]; exact Or.inr h
  have hS : va_S A s.heap s.heap [] := va_S.rf
  have hP : va_P (dC, dI) vwCl [(ax, .inr (0, [.ref av, .ref ab, .ref aq])), (av, .inl (dV, 64, .inl v)), (ab, .inl (dB, 64, .inl b)), (aq, .inr (1, [.ref av, .ref ah, .int (nI n), .null])), (ah, .inl (dH, 64, .inl f))] s.heap := hP
  have hl := lv_entry ([.ref ax]) (n := 1) (Nat.le_of_ble_eq_true rfl)
  rw [lg_entry_eq]
  generalize (lg_sl ([.ref ax]) ++ List.replicate (1 - (lg_sl ([.ref ax])).length) Slot.unset).toArray = ls at hl ⊢
  have hl : lv_has ls 1 [(0, .ref ax)] := hl
  refine lv_aload_n hx hb dX0_waiting_0 rfl (lv_at hl 0 rfl) ?_
  refine va_get (D := (dC, dI)) (ci := 0) (v := .ref aq) (C := RX0) (T := TX0) (N := 3) hx hb hts in_X0 hown hK hP 0 rfl rfl 2 (by decide) (hts _ q51) (fun _ h9 => h9) rfl dX0_waiting_1 ?_
  have hPc := hP.sub (ws' := [(aq, .inr (1, [.ref av, .ref ah, .int (nI n), .null]))]) [3] rfl
  have hDc := hD.sub (ws' := [(aq, .inr (1, [.ref av, .ref ah, .int (nI n), .null]))]) [3] (by decide) rfl
  have hKc := hK.sub (tys' := []) [] rfl
  have hFc := va_free (wc := [(aq, .inr (1, [.ref av, .ref ah, .int (nI n), .null]))]) hD hS hA [3] rfl
  refine va_calli (va_runV (As := []) (rest := []) ⟨hx, hb, hml, hown, hts⟩ (metX1_size l dC dI aq av ah (nI n) s.heap.size ) (cwV 0 hts (lw_V q165 q166 q167 q4 q168) rfl rfl rfl (by decide +kernel) ⟨Nat.le_of_ble_eq_true rfl, Nat.le_of_ble_eq_true rfl⟩) ⟨fun a U g mk q => by obtain ⟨q0, q1, qP, qK, qD⟩ := q; exact ⟨q0, q1, qP, va_K.moved (u := U) (U := U.calling g mk a) (Vm.Alike.refl U.vm) qK, qD⟩, va_recv hKc hPc (ci := 1) (q0 := 0) rfl rfl, fun U hU hW => ⟨rfl, by rw [hU], by rw [hU]; exact hPc, va_K.moved hW.alike hKc, hDc.weaken (fun _ _ _ _ => trivial)⟩⟩ rfl rfl hl.1 rfl (lv_room (Nat.le_of_ble_eq_true rfl)) dX0_waiting_4 ⟨Nat.le_of_ble_eq_true rfl, Nat.le_of_ble_eq_true rfl⟩) hS (fun q _ h => hFc q h) hFc (fun r1 u t H1 locs ht hvm hwq hB hz1 hk1 hS => ?_)
  have hw : r1 = (nI n) := hwq
  subst hw
  obtain ⟨hP1, hK1, hD1⟩ := hB
  rw [ht] at hP1
  obtain ⟨hP, hD⟩ := va_join (wr := [(ax, .inr (0, [.ref av, .ref ab, .ref aq])), (av, .inl (dV, 64, .inl v)), (ab, .inl (dB, 64, .inl b)), (ah, .inl (dH, 64, .inl f))]) (w1 := [(aq, .inr (1, [.ref av, .ref ah, .int (nI n), .null]))]) hP hD [3] [0, 1, 2, 4] rfl rfl (by decide) (by decide) hk1 hFc hP1 hD1
  generalize H1 = H at hP hS ⊢
  have hP : va_P (dC, dI) vwCl [(ax, .inr (0, [.ref av, .ref ab, .ref aq])), (av, .inl (dV, 64, .inl v)), (ab, .inl (dB, 64, .inl b)), (ah, .inl (dH, 64, .inl f)), (aq, .inr (1, [.ref av, .ref ah, .int (nI n), .null]))] H := hP
  have hD : va_D A [(ax, .inr (0, [.ref av, .ref ab, .ref aq])), (av, .inl (dV, 64, .inl v)), (ab, .inl (dB, 64, .inl b)), (ah, .inl (dH, 64, .inl f)), (aq, .inr (1, [.ref av, .ref ah, .int (nI n), .null]))] := hD
  have hP9 := hP.sub (ws' := [(ax, .inr (0, [.ref av, .ref ab, .ref aq])), (av, .inl (dV, 64, .inl v)), (ab, .inl (dB, 64, .inl b)), (aq, .inr (1, [.ref av, .ref ah, .int (nI n), .null])), (ah, .inl (dH, 64, .inl f))]) [0, 1, 2, 4, 3] rfl
  have hD9 := hD.sub (ws' := [(ax, .inr (0, [.ref av, .ref ab, .ref aq])), (av, .inl (dV, 64, .inl v)), (ab, .inl (dB, 64, .inl b)), (aq, .inr (1, [.ref av, .ref ah, .int (nI n), .null])), (ah, .inl (dH, 64, .inl f))]) [0, 1, 2, 4, 3] (by decide) rfl
  have hK9 := hK.sub (tys' := [(dV, .int), (dB, .boolean), (dH, .int)]) [0, 1, 2] rfl
  exact W.iret (v := (nI n)) hx hb hr (fun t ht hW => ⟨⟨(nI n), (), rfl, by rw [sd_I_ct hI0], by rw [ht]; exact hP9, va_K.moved hW.alike hK9, hD9⟩, hS.F ht⟩) hS.2.2 dX0_waiting_7
set_option maxHeartbeats 4000000 in
set_option maxRecDepth 100000 in
/-- value(i) -/
theorem metX0_value (l : Launch) (dC : Nat → ClassId) (dI : Nat → Nat → Nat) (ax : Nat) (av : Nat) (ab : Nat) (aq : Nat) (ah : Nat) (dV : ClassId) (dB : ClassId) (dH : ClassId) (v : Nat → Int32) (b : Nat → Int32) (f : Nat → Int32) (n : Nat) (p0 : Int32) (k : Nat) (sz : Nat) (hI0 : sd_I v b f n) (hk : k < 64) (ek : p0 &&& 63 = nI k) : Met l yX0_value (ws_ yX0_value cX0_value 2 (some .int)) ({ frames := 0, cells := 0, slots := 0, locals := 0 }) (va_Pc [.ref ax, .int p0] (fun U => U.heap.size = sz ∧ va_P (dC, dI) vwCl [(ax, .inr (0, [.ref av, .ref ab, .ref aq])), (av, .inl (dV, 64, .inl v)), (ab, .inl (dB, 64, .inl b)), (aq, .inr (1, [.ref av, .ref ah, .int (nI n), .null])), (ah, .inl (dH, 64, .inl f))] U.heap ∧ va_K (dC, dI) vwCl [(dV, .int), (dB, .boolean), (dH, .int)] U ∧ va_D (fun _ => True) [(ax, .inr (0, [.ref av, .ref ab, .ref aq])), (av, .inl (dV, 64, .inl v)), (ab, .inl (dB, 64, .inl b)), (aq, .inr (1, [.ref av, .ref ah, .int (nI n), .null])), (ah, .inl (dH, 64, .inl f))])) (va_Qi (fun (r : Int32) (u : Unit) => r = v k) (fun (u : Unit) (t : State) => va_P (dC, dI) vwCl [(ax, .inr (0, [.ref av, .ref ab, .ref aq])), (av, .inl (dV, 64, .inl v)), (ab, .inl (dB, 64, .inl b)), (aq, .inr (1, [.ref av, .ref ah, .int (nI n), .null])), (ah, .inl (dH, 64, .inl f))] t.heap ∧ va_K (dC, dI) vwCl [(dV, .int), (dB, .boolean), (dH, .int)] t ∧ va_D (va_A [(ax, .inr (0, [.ref av, .ref ab, .ref aq])), (av, .inl (dV, 64, .inl v)), (ab, .inl (dB, 64, .inl b)), (aq, .inr (1, [.ref av, .ref ah, .int (nI n), .null])), (ah, .inl (dH, 64, .inl f))] sz) [(ax, .inr (0, [.ref av, .ref ab, .ref aq])), (av, .inl (dV, 64, .inl v)), (ab, .inl (dB, 64, .inl b)), (aq, .inr (1, [.ref av, .ref ah, .int (nI n), .null])), (ah, .inl (dH, 64, .inl f))]) (va_A [(ax, .inr (0, [.ref av, .ref ab, .ref aq])), (av, .inl (dV, 64, .inl v)), (ab, .inl (dB, 64, .inl b)), (aq, .inr (1, [.ref av, .ref ah, .int (nI n), .null])), (ah, .inl (dH, 64, .inl f))] sz)) 0 0 (va_A [(ax, .inr (0, [.ref av, .ref ab, .ref aq])), (av, .inl (dV, 64, .inl v)), (ab, .inl (dB, 64, .inl b)), (aq, .inr (1, [.ref av, .ref ah, .int (nI n), .null])), (ah, .inl (dH, 64, .inl f))] sz) := by
  refine Met.ofW (cc := cX0_value) (maxL := 2) (ret := (some .int)) (by decide) rfl ?_
  intro p e s m args below meth c s₁ B hml hvv
  obtain ⟨rfl, hsz, hP, hK, hD0⟩ := hvv
  have hx := B.exec
  have hb := B.bytes
  have hr := B.returns
  have hts := atoms_spec (ws := (ws_ yX0_value cX0_value 2 (some .int))) B.pre
  have hts : ∀ w ∈ lw_all, w.before _ s = true := fun w h => hts w (List.mem_cons_of_mem _ h)
  have hown : s.vm.findClass RX0 = some m.cls := findClass_of_methodNamed B.named
  have hlocks := B.notSynchronized
  subst hsz
  have hD := hD0.self (sz := s.heap.size)
  generalize hAe : va_A [(ax, .inr (0, [.ref av, .ref ab, .ref aq])), (av, .inl (dV, 64, .inl v)), (ab, .inl (dB, 64, .inl b)), (aq, .inr (1, [.ref av, .ref ah, .int (nI n), .null])), (ah, .inl (dH, 64, .inl f))] s.heap.size = A at hD ⊢
  have hA : ∀ q : Nat, s.heap.size ≤ q → A q := fun q h => by rw [← hAe]; exact Or.inr h
  have hS : va_S A s.heap s.heap [] := va_S.rf
  have hP : va_P (dC, dI) vwCl [(ax, .inr (0, [.ref av, .ref ab, .ref aq])), (av, .inl (dV, 64, .inl v)), (ab, .inl (dB, 64, .inl b)), (aq, .inr (1, [.ref av, .ref ah, .int (nI n), .null])), (ah, .inl (dH, 64, .inl f))] s.heap := hP
  have hl := lv_entry ([.ref ax, .int p0]) (n := 2) (Nat.le_of_ble_eq_true rfl)
  rw [lg_entry_eq]
  generalize (lg_sl ([.ref ax, .int p0]) ++ List.replicate (2 - (lg_sl ([.ref ax, .int p0])).length) Slot.unset).toArray = ls at hl ⊢
  have hl : lv_has ls 2 [(0, .ref ax), (1, .int p0)] := hl
  refine lv_aload_n hx hb dX0_value_0 rfl (lv_at hl 0 rfl) ?_
  refine va_get (D := (dC, dI)) (ci := 0) (v := .ref av) (C := RX0) (T := TX0) (N := 3) hx hb hts in_X0 hown hK hP 0 rfl rfl 0 (by decide) (hts _ q49) (fun _ h9 => h9) rfl dX0_value_1 ?_
  refine lv_iload_n hx hb dX0_value_4 rfl (lv_at hl 1 rfl) ?_
  refine lv_bipush (v := 63) hx hb dX0_value_5 (by decide +kernel) ?_
  refine lv_iand hx hb dX0_value_7 ?_
  refine lv_topi (fun y_1 ey_1 => ?_)
  obtain rfl : y_1 = nI k := ey_1.trans (ek)
  refine va_iald hx hb hK hP 1 0 rfl rfl (vp_in_nI (by omega) (by omega)) dX0_value_8 ?_
  refine lv_topi (fun y_2 ey_2 => ?_)
  obtain rfl : y_2 = v k := ey_2.trans (congrArg v (nI_clamp (by omega)))
  have hP9 := hP.sub (ws' := [(ax, .inr (0, [.ref av, .ref ab, .ref aq])), (av, .inl (dV, 64, .inl v)), (ab, .inl (dB, 64, .inl b)), (aq, .inr (1, [.ref av, .ref ah, .int (nI n), .null])), (ah, .inl (dH, 64, .inl f))]) [0, 1, 2, 3, 4] rfl
  have hD9 := hD.sub (ws' := [(ax, .inr (0, [.ref av, .ref ab, .ref aq])), (av, .inl (dV, 64, .inl v)), (ab, .inl (dB, 64, .inl b)), (aq, .inr (1, [.ref av, .ref ah, .int (nI n), .null])), (ah, .inl (dH, 64, .inl f))]) [0, 1, 2, 3, 4] (by decide) rfl
  have hK9 := hK.sub (tys' := [(dV, .int), (dB, .boolean), (dH, .int)]) [0, 1, 2] rfl
  exact W.iret (v := (v k)) hx hb hr (fun t ht hW => ⟨⟨(v k), (), rfl, rfl, by rw [ht]; exact hP9, va_K.moved hW.alike hK9, hD9⟩, hS.F ht⟩) hS.2.2 dX0_value_9
set_option maxHeartbeats 4000000 in
set_option maxRecDepth 100000 in
/-- drain() -/
theorem metX0_drain (l : Launch) (dC : Nat → ClassId) (dI : Nat → Nat → Nat) (ax : Nat) (av : Nat) (ab : Nat) (aq : Nat) (ah : Nat) (dV : ClassId) (dB : ClassId) (dH : ClassId) (v : Nat → Int32) (b : Nat → Int32) (f : Nat → Int32) (n : Nat) (sz : Nat) (hI0 : sd_I v b f n) : Met l yX0_drain (ws_ yX0_drain cX0_drain 2 none) ({ frames := 1, cells := 0, slots := 0, locals := 20 }) (va_Pc [.ref ax] (fun U => U.heap.size = sz ∧ va_P (dC, dI) vwCl [(ax, .inr (0, [.ref av, .ref ab, .ref aq])), (av, .inl (dV, 64, .inl v)), (ab, .inl (dB, 64, .inl b)), (aq, .inr (1, [.ref av, .ref ah, .int (nI n), .null])), (ah, .inl (dH, 64, .inl f))] U.heap ∧ va_K (dC, dI) vwCl [(dV, .int), (dB, .boolean), (dH, .int)] U ∧ va_D (fun _ => True) [(ax, .inr (0, [.ref av, .ref ab, .ref aq])), (av, .inl (dV, 64, .inl v)), (ab, .inl (dB, 64, .inl b)), (aq, .inr (1, [.ref av, .ref ah, .int (nI n), .null])), (ah, .inl (dH, 64, .inl f))])) (va_Qv (fun (u : Unit) => sd_I v (sd_cl b 64) f 0) (fun (u : Unit) (t : State) => va_P (dC, dI) vwCl [(ax, .inr (0, [.ref av, .ref ab, .ref aq])), (av, .inl (dV, 64, .inl v)), (ab, .inl (dB, 64, .inl (sd_cl b 64))), (aq, .inr (1, [.ref av, .ref ah, .int (nI 0), .null])), (ah, .inl (dH, 64, .inl f))] t.heap ∧ va_K (dC, dI) vwCl [(dV, .int), (dB, .boolean), (dH, .int)] t ∧ va_D (va_A [(ax, .inr (0, [.ref av, .ref ab, .ref aq])), (av, .inl (dV, 64, .inl v)), (ab, .inl (dB, 64, .inl b)), (aq, .inr (1, [.ref av, .ref ah, .int (nI n), .null])), (ah, .inl (dH, 64, .inl f))] sz) [(ax, .inr (0, [.ref av, .ref ab, .ref aq])), (av, .inl (dV, 64, .inl v)), (ab, .inl (dB, 64, .inl (sd_cl b 64))), (aq, .inr (1, [.ref av, .ref ah, .int (nI 0), .null])), (ah, .inl (dH, 64, .inl f))]) (va_A [(ax, .inr (0, [.ref av, .ref ab, .ref aq])), (av, .inl (dV, 64, .inl v)), (ab, .inl (dB, 64, .inl b)), (aq, .inr (1, [.ref av, .ref ah, .int (nI n), .null])), (ah, .inl (dH, 64, .inl f))] sz)) 0 0 (va_A [(ax, .inr (0, [.ref av, .ref ab, .ref aq])), (av, .inl (dV, 64, .inl v)), (ab, .inl (dB, 64, .inl b)), (aq, .inr (1, [.ref av, .ref ah, .int (nI n), .null])), (ah, .inl (dH, 64, .inl f))] sz) := by
  refine Met.ofW (cc := cX0_drain) (maxL := 2) (ret := none) (by decide) rfl ?_
  intro p e s m args below meth c s₁ B hml hvv
  obtain ⟨rfl, hsz, hP, hK, hD0⟩ := hvv
  have hx := B.exec
  have hb := B.bytes
  have hr := B.returns
  have hts := atoms_spec (ws := (ws_ yX0_drain cX0_drain 2 none)) B.pre
  have hts : ∀ w ∈ lw_all, w.before _ s = true := fun w h => hts w (List.mem_cons_of_mem _ h)
  have hown : s.vm.findClass RX0 = some m.cls := findClass_of_methodNamed B.named
  have hlocks := B.notSynchronized
  subst hsz
  have hD := hD0.self (sz := s.heap.size)
  generalize hAe : va_A [(ax, .inr (0, [.ref av, .ref ab, .ref aq])), (av, .inl (dV, 64, .inl v)), (ab, .inl (dB, 64, .inl b)), (aq, .inr (1, [.ref av, .ref ah, .int (nI n), .null])), (ah, .inl (dH, 64, .inl f))] s.heap.size = A at hD ⊢
  have hA : ∀ q : Nat, s.heap.size ≤ q → A q := fun q h => by rw [← hAe]; exact Or.inr h
  have hS : va_S A s.heap s.heap [] := va_S.rf
  have hP : va_P (dC, dI) vwCl [(ax, .inr (0, [.ref av, .ref ab, .ref aq])), (av, .inl (dV, 64, .inl v)), (ab, .inl (dB, 64, .inl b)), (aq, .inr (1, [.ref av, .ref ah, .int (nI n), .null])), (ah, .inl (dH, 64, .inl f))] s.heap := hP
  have hl := lv_entry ([.ref ax]) (n := 2) (Nat.le_of_ble_eq_true rfl)
  rw [lg_entry_eq]
  generalize (lg_sl ([.ref ax]) ++ List.replicate (2 - (lg_sl ([.ref ax])).length) Slot.unset).toArray = ls at hl ⊢
  have hl : lv_has ls 2 [(0, .ref ax)] := hl
  refine lv_aload_n hx hb dX0_drain_0 rfl (lv_at hl 0 rfl) ?_
  refine va_get (D := (dC, dI)) (ci := 0) (v := .ref aq) (C := RX0) (T := TX0) (N := 3) hx hb hts in_X0 hown hK hP 0 rfl rfl 2 (by decide) (hts _ q51) (fun _ h9 => h9) rfl dX0_drain_1 ?_
  have hPc := hP.sub (ws' := [(aq, .inr (1, [.ref av, .ref ah, .int (nI n), .null]))]) [3] rfl
  have hDc := hD.sub (ws' := [(aq, .inr (1, [.ref av, .ref ah, .int (nI n), .null]))]) [3] (by decide) rfl
  have hKc := hK.sub (tys' := []) [] rfl
  have hFc := va_free (wc := [(aq, .inr (1, [.ref av, .ref ah, .int (nI n), .null]))]) hD hS hA [3] rfl
  refine va_callv (va_runV (As := []) (rest := []) ⟨hx, hb, hml, hown, hts⟩ (metX1_clear l dC dI aq av ah (nI n) s.heap.size ) (cwV 0 hts (lw_V q254 q255 q256 q4 q257) rfl rfl rfl (by decide +kernel) ⟨Nat.le_of_ble_eq_true rfl, Nat.le_of_ble_eq_true rfl⟩) ⟨fun a U g mk q => by obtain ⟨q0, q1, qP, qK, qD⟩ := q; exact ⟨q0, q1, qP, va_K.moved (u := U) (U := U.calling g mk a) (Vm.Alike.refl U.vm) qK, qD⟩, va_recv hKc hPc (ci := 1) (q0 := 0) rfl rfl, fun U hU hW => ⟨rfl, by rw [hU], by rw [hU]; exact hPc, va_K.moved hW.alike hKc, hDc.weaken (fun _ _ _ _ => trivial)⟩⟩ rfl rfl hl.1 rfl (lv_room (Nat.le_of_ble_eq_true rfl)) dX0_drain_4 ⟨Nat.le_of_ble_eq_true rfl, Nat.le_of_ble_eq_true rfl⟩) hS (fun q _ h => hFc q h) hFc (fun u t H1 locs ht hvm hwq hB hz1 hk1 hS => ?_)
  have hw : True := hwq
  obtain ⟨hP1, hK1, hD1⟩ := hB
  rw [ht] at hP1
  obtain ⟨hP, hD⟩ := va_join (wr := [(ax, .inr (0, [.ref av, .ref ab, .ref aq])), (av, .inl (dV, 64, .inl v)), (ab, .inl (dB, 64, .inl b)), (ah, .inl (dH, 64, .inl f))]) (w1 := [(aq, .inr (1, [.ref av, .ref ah, .int (nI 0), .null]))]) hP hD [3] [0, 1, 2, 4] rfl rfl (by decide) (by decide) hk1 hFc hP1 hD1
  generalize H1 = H at hP hS ⊢
  have hP : va_P (dC, dI) vwCl [(ax, .inr (0, [.ref av, .ref ab, .ref aq])), (av, .inl (dV, 64, .inl v)), (ab, .inl (dB, 64, .inl b)), (ah, .inl (dH, 64, .inl f)), (aq, .inr (1, [.ref av, .ref ah, .int (nI 0), .null]))] H := hP
  have hD : va_D A [(ax, .inr (0, [.ref av, .ref ab, .ref aq])), (av, .inl (dV, 64, .inl v)), (ab, .inl (dB, 64, .inl b)), (ah, .inl (dH, 64, .inl f)), (aq, .inr (1, [.ref av, .ref ah, .int (nI 0), .null]))] := hD
  refine lv_iconst (v := (nI 0)) hx hb dX0_drain_7 (by decide +kernel) ?_
  refine lv_istore_n (lv' := [(1, .int (nI 0)), (0, .ref ax)]) hx hb dX0_drain_8 rfl hl (by decide) rfl (fun ls hl => ?_)
  have hP : va_P (dC, dI) vwCl [(ax, .inr (0, [.ref av, .ref ab, .ref aq])), (av, .inl (dV, 64, .inl v)), (ab, .inl (dB, 64, .inl (sd_cl b 0))), (ah, .inl (dH, 64, .inl f)), (aq, .inr (1, [.ref av, .ref ah, .int (nI 0), .null]))] H := by rw [sd_cl_0]; exact hP
  have hD : va_D A [(ax, .inr (0, [.ref av, .ref ab, .ref aq])), (av, .inl (dV, 64, .inl v)), (ab, .inl (dB, 64, .inl (sd_cl b 0))), (ah, .inl (dH, 64, .inl f)), (aq, .inr (1, [.ref av, .ref ah, .int (nI 0), .null]))] := by rw [sd_cl_0]; exact hD
  refine wl_loop (σ := Nat) (fun x => 64 - x) (fun (x : Nat) (H : Heap) (locs : List Loc) (ls : Array Slot) => va_P (dC, dI) vwCl [(ax, .inr (0, [.ref av, .ref ab, .ref aq])), (av, .inl (dV, 64, .inl v)), (ab, .inl (dB, 64, .inl (sd_cl b x))), (aq, .inr (1, [.ref av, .ref ah, .int (nI 0), .null])), (ah, .inl (dH, 64, .inl f))] H ∧ va_D A [(ax, .inr (0, [.ref av, .ref ab, .ref aq])), (av, .inl (dV, 64, .inl v)), (ab, .inl (dB, 64, .inl (sd_cl b x))), (aq, .inr (1, [.ref av, .ref ah, .int (nI 0), .null])), (ah, .inl (dH, 64, .inl f))] ∧ va_S A s.heap H locs ∧ lv_has ls 2 [(0, .ref ax), (1, .int (nI x))] ∧ (x ≤ 64)) (fun x H locs ls hI ih => ?_) (0) _ _ _ ⟨hP.sub (ws' := [(ax, .inr (0, [.ref av, .ref ab, .ref aq])), (av, .inl (dV, 64, .inl v)), (ab, .inl (dB, 64, .inl (sd_cl b 0))), (aq, .inr (1, [.ref av, .ref ah, .int (nI 0), .null])), (ah, .inl (dH, 64, .inl f))]) [0, 1, 2, 4, 3] rfl, hD.sub (ws' := [(ax, .inr (0, [.ref av, .ref ab, .ref aq])), (av, .inl (dV, 64, .inl v)), (ab, .inl (dB, 64, .inl (sd_cl b 0))), (aq, .inr (1, [.ref av, .ref ah, .int (nI 0), .null])), (ah, .inl (dH, 64, .inl f))]) [0, 1, 2, 4, 3] (by decide) rfl, hS, lv_sub hl [1, 0] rfl, Nat.zero_le 64⟩
  obtain ⟨i, ei⟩ : ∃ y, y = x := ⟨_, rfl⟩
  subst ei
  obtain ⟨hP, hD, hS, hl, hI⟩ := hI
  have hP : va_P (dC, dI) vwCl [(ax, .inr (0, [.ref av, .ref ab, .ref aq])), (av, .inl (dV, 64, .inl v)), (ab, .inl (dB, 64, .inl (sd_cl b i))), (aq, .inr (1, [.ref av, .ref ah, .int (nI 0), .null])), (ah, .inl (dH, 64, .inl f))] H := hP
  have hD : va_D A [(ax, .inr (0, [.ref av, .ref ab, .ref aq])), (av, .inl (dV, 64, .inl v)), (ab, .inl (dB, 64, .inl (sd_cl b i))), (aq, .inr (1, [.ref av, .ref ah, .int (nI 0), .null])), (ah, .inl (dH, 64, .inl f))] := hD
  have hl : lv_has ls 2 [(0, .ref ax), (1, .int (nI i))] := hl
  have hI : i ≤ 64 := hI
  refine lv_iload_n hx hb dX0_drain_9 rfl (lv_at hl 1 rfl) ?_
  refine lv_bipush (v := (nI 64)) hx hb dX0_drain_10 (by decide +kernel) ?_
  refine lv_icmp_ge (tgt := 28) hx hb dX0_drain_12 (by decide) (fun c12 => ?_) (fun c12 => ?_)
  · obtain rfl : i = 64 := by
      have q : 64 ≤ i := (nI_leI (by omega) (by omega)).mp c12
      omega
    have hP9 := hP.sub (ws' := [(ax, .inr (0, [.ref av, .ref ab, .ref aq])), (av, .inl (dV, 64, .inl v)), (ab, .inl (dB, 64, .inl (sd_cl b 64))), (aq, .inr (1, [.ref av, .ref ah, .int (nI 0), .null])), (ah, .inl (dH, 64, .inl f))]) [0, 1, 2, 3, 4] rfl
    have hD9 := hD.sub (ws' := [(ax, .inr (0, [.ref av, .ref ab, .ref aq])), (av, .inl (dV, 64, .inl v)), (ab, .inl (dB, 64, .inl (sd_cl b 64))), (aq, .inr (1, [.ref av, .ref ah, .int (nI 0), .null])), (ah, .inl (dH, 64, .inl f))]) [0, 1, 2, 3, 4] (by decide) rfl
    have hK9 := hK.sub (tys' := [(dV, .int), (dB, .boolean), (dH, .int)]) [0, 1, 2] rfl
    exact W.vret hx hb hr (fun t ht hW => ⟨⟨(), rfl, sd_drain hI0, by rw [ht]; exact hP9, va_K.moved hW.alike hK9, hD9⟩, hS.F ht⟩) hS.2.2 dX0_drain_28
  · have hlt : i < 64 := by
      rcases Nat.lt_or_ge i 64 with q | q
      · exact q
      · exact absurd (nI_le q (by omega)) c12
    refine lv_aload_n hx hb dX0_drain_15 rfl (lv_at hl 0 rfl) ?_
    refine va_get (D := (dC, dI)) (ci := 0) (v := .ref ab) (C := RX0) (T := TX0) (N := 3) hx hb hts in_X0 hown hK hP 0 rfl rfl 1 (by decide) (hts _ q50) (fun _ h9 => h9) rfl dX0_drain_16 ?_
    refine lv_iload_n hx hb dX0_drain_19 rfl (lv_at hl 1 rfl) ?_
    refine lv_iconst (v := 0) hx hb dX0_drain_20 (by decide +kernel) ?_
    refine va_zast hx hb hK hP hD hS 2 1 rfl rfl (vp_in_nI (by omega) (by omega)) dX0_drain_21 (fun H locs hP hD hS => ?_)
    rw [nI_clamp (n := i) (by omega), show vp_nar .boolean 0 = 0 from by decide +kernel] at hP hD
    rw [show upd (sd_cl b i) i 0 = sd_cl b (i + 1) from sd_cl_s b i] at hP hD
    have hP : va_P (dC, dI) vwCl [(ax, .inr (0, [.ref av, .ref ab, .ref aq])), (av, .inl (dV, 64, .inl v)), (ab, .inl (dB, 64, .inl (sd_cl b (i + 1)))), (aq, .inr (1, [.ref av, .ref ah, .int (nI 0), .null])), (ah, .inl (dH, 64, .inl f))] H := hP
    have hD : va_D A [(ax, .inr (0, [.ref av, .ref ab, .ref aq])), (av, .inl (dV, 64, .inl v)), (ab, .inl (dB, 64, .inl (sd_cl b (i + 1)))), (aq, .inr (1, [.ref av, .ref ah, .int (nI 0), .null])), (ah, .inl (dH, 64, .inl f))] := hD
    refine lv_iinc (v := nI (i + 1)) (lv' := [(1, .int (nI (i + 1))), (0, .ref ax)]) hx hb dX0_drain_22 hl (k := 1) rfl (by rw [← nI_1]; rfl) (by decide) rfl (fun ls hl => ?_)
    refine lv_goto (tgt := 9) hx hb dX0_drain_25 (by decide) ?_
    exact ih ((i + 1)) _ _ _ (by first | omega | (dsimp only; omega)) ⟨hP.sub (ws' := [(ax, .inr (0, [.ref av, .ref ab, .ref aq])), (av, .inl (dV, 64, .inl v)), (ab, .inl (dB, 64, .inl (sd_cl b (i + 1)))), (aq, .inr (1, [.ref av, .ref ah, .int (nI 0), .null])), (ah, .inl (dH, 64, .inl f))]) [0, 1, 2, 3, 4] rfl, hD.sub (ws' := [(ax, .inr (0, [.ref av, .ref ab, .ref aq])), (av, .inl (dV, 64, .inl v)), (ab, .inl (dB, 64, .inl (sd_cl b (i + 1)))), (aq, .inr (1, [.ref av, .ref ah, .int (nI 0), .null])), (ah, .inl (dH, 64, .inl f))]) [0, 1, 2, 3, 4] (by decide) rfl, hS, lv_sub hl [1, 0] rfl, by omega⟩
set_option maxHeartbeats 4000000 in
set_option maxRecDepth 100000 in
/-- SemiHeapDesk() -/
theorem metX0_init (l : Launch) (dC : Nat → ClassId) (dI : Nat → Nat → Nat) (ax : Nat) (tE : Nat) (sz : Nat)  : Met l yX0_init (ws_ yX0_init cX0_init 2 none) ({ frames := 3, cells := 4, slots := 196, locals := 64 }) (va_Pc [.ref ax] (fun U => U.heap.size = sz ∧ va_P (dC, dI) vwCl [(ax, .inr (0, [.null, .null, .null]))] U.heap ∧ va_K (dC, dI) vwCl [] U ∧ va_D (fun _ => True) [(ax, .inr (0, [.null, .null, .null]))] ∧ va_Z "IntArrays" "EMPTY_ARRAY" "[I" (.ref tE) (va_A [(ax, .inr (0, [.null, .null, .null]))] sz) U U.heap)) (va_Qv (fun (u : Unit) => True) (fun (u : Unit) (t : State) => ∃ (av : Nat), ∃ (ab : Nat), ∃ (aq : Nat), ∃ (ah : Nat), ∃ (dV : ClassId), ∃ (dB : ClassId), ∃ (dH : ClassId), va_P (dC, dI) vwCl [(ax, .inr (0, [.ref av, .ref ab, .ref aq])), (av, .inl (dV, 64, .inl (sd_in 64))), (ab, .inl (dB, 64, .inl (fun _ => 0))), (aq, .inr (1, [.ref av, .ref ah, .int (nI 0), .null])), (ah, .inl (dH, 64, .inl (fun _ => 0)))] t.heap ∧ va_K (dC, dI) vwCl [(dV, .int), (dB, .boolean), (dH, .int)] t ∧ va_D (va_A [(ax, .inr (0, [.null, .null, .null]))] sz) [(ax, .inr (0, [.ref av, .ref ab, .ref aq])), (av, .inl (dV, 64, .inl (sd_in 64))), (ab, .inl (dB, 64, .inl (fun _ => 0))), (aq, .inr (1, [.ref av, .ref ah, .int (nI 0), .null])), (ah, .inl (dH, 64, .inl (fun _ => 0)))]) (va_A [(ax, .inr (0, [.null, .null, .null]))] sz)) 4 196 (va_A [(ax, .inr (0, [.null, .null, .null]))] sz) := by
  refine Met.ofW (cc := cX0_init) (maxL := 2) (ret := none) (by decide) rfl ?_
  intro p e s m args below meth c s₁ B hml hvv
  obtain ⟨rfl, hsz, hP, hK, hD0, hZ⟩ := hvv
  have hx := B.exec
  have hb := B.bytes
  have hr := B.returns
  have hts := atoms_spec (ws := (ws_ yX0_init cX0_init 2 none)) B.pre
  have hts : ∀ w ∈ lw_all, w.before _ s = true := fun w h => hts w (List.mem_cons_of_mem _ h)
  have hown : s.vm.findClass RX0 = some m.cls := findClass_of_methodNamed B.named
  have hlocks := B.notSynchronized
  have hin : meth.name = "<init>" := (name_of_methodNamed B.named B.method).1
  subst hsz
  have hD := hD0.self (sz := s.heap.size)
  generalize hAe : va_A [(ax, .inr (0, [.null, .null, .null]))] s.heap.size = A at hD hZ ⊢
  have hA : ∀ q : Nat, s.heap.size ≤ q → A q := fun q h => by rw [← hAe]; exact Or.inr h
  have hS : va_S A s.heap s.heap [] := va_S.rf
  have hP : va_P (dC, dI) vwCl [(ax, .inr (0, [.null, .null, .null]))] s.heap := hP
  have hl := lv_entry ([.ref ax]) (n := 2) (Nat.le_of_ble_eq_true rfl)
  rw [lg_entry_eq]
  generalize (lg_sl ([.ref ax]) ++ List.replicate (2 - (lg_sl ([.ref ax])).length) Slot.unset).toArray = ls at hl ⊢
  have hl : lv_has ls 2 [(0, .ref ax)] := hl
  refine lv_aload_n hx hb dX0_init_0 rfl (lv_at hl 0 rfl) ?_
  refine W.objInit hx hb hown (hts _ q20) (hts _ q21) (hts _ q22) rfl (by rw [hml]; exact hl.1) rfl dX0_init_1 (Nat.le_of_ble_eq_true rfl) (Nat.le_of_ble_eq_true rfl) ?_
  refine W.eq (g2 := F0 m 4 ls []) rfl ?_
  refine lv_aload_n hx hb dX0_init_4 rfl (lv_at hl 0 rfl) ?_
  refine lv_bipush (v := (nI 64)) hx hb dX0_init_5 (by decide +kernel) ?_
  refine va_newa (atype := .int) (ty := .int) (N' := 64) (a0 := (64, .inl (fun _ => 0))) hx hb (hts _ q47) rfl hK hP hD hS hA (fun cA => rfl) (by decide +kernel) (by decide +kernel) (Nat.le_of_ble_eq_true rfl) (Nat.le_of_ble_eq_true rfl) (Nat.le_of_ble_eq_true rfl) dX0_init_7 (fun av dV H hK hP hD hS => ?_)
  have hK : va_K (dC, dI) vwCl [(dV, .int)] s := hK
  have hP : va_P (dC, dI) vwCl [(ax, .inr (0, [.null, .null, .null])), (av, .inl (dV, 64, .inl (fun _ => 0)))] H := hP
  have hD : va_D A [(ax, .inr (0, [.null, .null, .null])), (av, .inl (dV, 64, .inl (fun _ => 0)))] := hD
  refine W.widen (k := 1) (n := 64) (Nat.le_of_ble_eq_true rfl) (Nat.le_of_ble_eq_true rfl) ?_
  refine va_putF (D := (dC, dI)) (ci := 0) (v := .ref av) (ty := .array .int) (C := RX0) (T := TX0) (N := 3) hx hb hts in_X0 tyX0 tyX0_ok nmX0 hown hK hP hD hS 0 rfl rfl 0 (by decide) (hts _ q49) (fun _ h9 => h9) rfl hin rfl (by decide +kernel) rfl rfl (Nat.le_of_ble_eq_true rfl) dX0_init_9 (fun H locs hP hD hS => ?_)
  have hP : va_P (dC, dI) vwCl [(ax, .inr (0, [.ref av, .null, .null])), (av, .inl (dV, 64, .inl (fun _ => 0)))] H := hP
  have hD : va_D A [(ax, .inr (0, [.ref av, .null, .null])), (av, .inl (dV, 64, .inl (fun _ => 0)))] := hD
  refine lv_aload_n hx hb dX0_init_12 rfl (lv_at hl 0 rfl) ?_
  refine lv_bipush (v := (nI 64)) hx hb dX0_init_13 (by decide +kernel) ?_
  refine va_newa (atype := .boolean) (ty := .boolean) (N' := 64) (a0 := (64, .inl (fun _ => 0))) hx hb (hts _ q48) rfl hK hP hD hS hA (fun cA => rfl) (by decide +kernel) (by decide +kernel) (Nat.le_of_ble_eq_true rfl) (Nat.le_of_ble_eq_true rfl) (Nat.le_of_ble_eq_true rfl) dX0_init_15 (fun ab dB H hK hP hD hS => ?_)
  have hK : va_K (dC, dI) vwCl [(dV, .int), (dB, .boolean)] s := hK
  have hP : va_P (dC, dI) vwCl [(ax, .inr (0, [.ref av, .null, .null])), (av, .inl (dV, 64, .inl (fun _ => 0))), (ab, .inl (dB, 64, .inl (fun _ => 0)))] H := hP
  have hD : va_D A [(ax, .inr (0, [.ref av, .null, .null])), (av, .inl (dV, 64, .inl (fun _ => 0))), (ab, .inl (dB, 64, .inl (fun _ => 0)))] := hD
  refine W.widen (k := 2) (n := 128) (Nat.le_of_ble_eq_true rfl) (Nat.le_of_ble_eq_true rfl) ?_
  refine va_putF (D := (dC, dI)) (ci := 0) (v := .ref ab) (ty := .array .boolean) (C := RX0) (T := TX0) (N := 3) hx hb hts in_X0 tyX0 tyX0_ok nmX0 hown hK hP hD hS 0 rfl rfl 1 (by decide) (hts _ q50) (fun _ h9 => h9) rfl hin rfl (by decide +kernel) rfl rfl (Nat.le_of_ble_eq_true rfl) dX0_init_17 (fun H locs hP hD hS => ?_)
  have hP : va_P (dC, dI) vwCl [(ax, .inr (0, [.ref av, .ref ab, .null])), (av, .inl (dV, 64, .inl (fun _ => 0))), (ab, .inl (dB, 64, .inl (fun _ => 0)))] H := hP
  have hD : va_D A [(ax, .inr (0, [.ref av, .ref ab, .null])), (av, .inl (dV, 64, .inl (fun _ => 0))), (ab, .inl (dB, 64, .inl (fun _ => 0)))] := hD
  refine lv_iconst (v := (nI 0)) hx hb dX0_init_20 (by decide +kernel) ?_
  refine lv_istore_n (lv' := [(1, .int (nI 0)), (0, .ref ax)]) hx hb dX0_init_21 rfl hl (by decide) rfl (fun ls hl => ?_)
  have hP : va_P (dC, dI) vwCl [(ax, .inr (0, [.ref av, .ref ab, .null])), (av, .inl (dV, 64, .inl (sd_in 0))), (ab, .inl (dB, 64, .inl (fun _ => 0)))] H := by rw [sd_in_0]; exact hP
  have hD : va_D A [(ax, .inr (0, [.ref av, .ref ab, .null])), (av, .inl (dV, 64, .inl (sd_in 0))), (ab, .inl (dB, 64, .inl (fun _ => 0)))] := by rw [sd_in_0]; exact hD
  refine wl_loop (σ := Nat) (fun x => 64 - x) (fun (x : Nat) (H : Heap) (locs : List Loc) (ls : Array Slot) => va_P (dC, dI) vwCl [(ax, .inr (0, [.ref av, .ref ab, .null])), (av, .inl (dV, 64, .inl (sd_in x))), (ab, .inl (dB, 64, .inl (fun _ => 0)))] H ∧ va_D A [(ax, .inr (0, [.ref av, .ref ab, .null])), (av, .inl (dV, 64, .inl (sd_in x))), (ab, .inl (dB, 64, .inl (fun _ => 0)))] ∧ va_S A s.heap H locs ∧ lv_has ls 2 [(0, .ref ax), (1, .int (nI x))] ∧ (x ≤ 64)) (fun x H locs ls hI ih => ?_) (0) _ _ _ ⟨hP.sub (ws' := [(ax, .inr (0, [.ref av, .ref ab, .null])), (av, .inl (dV, 64, .inl (sd_in 0))), (ab, .inl (dB, 64, .inl (fun _ => 0)))]) [0, 1, 2] rfl, hD.sub (ws' := [(ax, .inr (0, [.ref av, .ref ab, .null])), (av, .inl (dV, 64, .inl (sd_in 0))), (ab, .inl (dB, 64, .inl (fun _ => 0)))]) [0, 1, 2] (by decide) rfl, hS, lv_sub hl [1, 0] rfl, Nat.zero_le 64⟩
  obtain ⟨i, ei⟩ : ∃ y, y = x := ⟨_, rfl⟩
  subst ei
  obtain ⟨hP, hD, hS, hl, hI⟩ := hI
  have hP : va_P (dC, dI) vwCl [(ax, .inr (0, [.ref av, .ref ab, .null])), (av, .inl (dV, 64, .inl (sd_in i))), (ab, .inl (dB, 64, .inl (fun _ => 0)))] H := hP
  have hD : va_D A [(ax, .inr (0, [.ref av, .ref ab, .null])), (av, .inl (dV, 64, .inl (sd_in i))), (ab, .inl (dB, 64, .inl (fun _ => 0)))] := hD
  have hl : lv_has ls 2 [(0, .ref ax), (1, .int (nI i))] := hl
  have hI : i ≤ 64 := hI
  refine lv_iload_n hx hb dX0_init_22 rfl (lv_at hl 1 rfl) ?_
  refine lv_bipush (v := (nI 64)) hx hb dX0_init_23 (by decide +kernel) ?_
  refine lv_icmp_ge (tgt := 41) hx hb dX0_init_25 (by decide) (fun c25 => ?_) (fun c25 => ?_)
  · obtain rfl : i = 64 := by
      have q : 64 ≤ i := (nI_leI (by omega) (by omega)).mp c25
      omega
    refine lv_aload_n hx hb dX0_init_41 rfl (lv_at hl 0 rfl) ?_
    refine va_new (ci := 1) (fs := [.null, .null, .int 0, .null]) (C := RX1) (T := TX1) (N := 4) hx hb hts in_X1 tyX1 tyX1_ok hown (hts _ q23) (hts _ q24) (hts _ q4) hK hP hD hS hA rfl (fun j hj => by rcases (show j = 0 ∨ j = 1 ∨ j = 2 ∨ j = 3 by omega) with rfl | rfl | rfl | rfl <;> rfl) (Nat.le_of_ble_eq_true rfl) (Nat.le_of_ble_eq_true rfl) dX0_init_42 (fun aq H hP hD hS => ?_)
    have hP : va_P (dC, dI) vwCl [(ax, .inr (0, [.ref av, .ref ab, .null])), (av, .inl (dV, 64, .inl (sd_in 64))), (ab, .inl (dB, 64, .inl (fun _ => 0))), (aq, .inr (1, [.null, .null, .int 0, .null]))] H := hP
    have hD : va_D A [(ax, .inr (0, [.ref av, .ref ab, .null])), (av, .inl (dV, 64, .inl (sd_in 64))), (ab, .inl (dB, 64, .inl (fun _ => 0))), (aq, .inr (1, [.null, .null, .int 0, .null]))] := hD
    refine W.widen (k := 3) (n := 132) (Nat.le_of_ble_eq_true rfl) (Nat.le_of_ble_eq_true rfl) ?_
    refine lv_dup hx hb dX0_init_45 rfl ?_
    refine lv_aload_n hx hb dX0_init_46 rfl (lv_at hl 0 rfl) ?_
    refine va_get (D := (dC, dI)) (ci := 0) (v := .ref av) (C := RX0) (T := TX0) (N := 3) hx hb hts in_X0 hown hK hP 0 rfl rfl 0 (by decide) (hts _ q49) (fun _ h9 => h9) rfl dX0_init_47 ?_
    have hPc := hP.sub (ws' := [(aq, .inr (1, [.null, .null, .int 0, .null])), (av, .inl (dV, 64, .inl (sd_in 64)))]) [3, 1] rfl
    have hDc := hD.sub (ws' := [(aq, .inr (1, [.null, .null, .int 0, .null])), (av, .inl (dV, 64, .inl (sd_in 64)))]) [3, 1] (by decide) rfl
    have hKc := hK.sub (tys' := [(dV, .int)]) [0] rfl
    have hFc := va_free (wc := [(aq, .inr (1, [.null, .null, .int 0, .null])), (av, .inl (dV, 64, .inl (sd_in 64)))]) hD hS hA [3, 1] rfl
    refine va_callv (va_runI (As := [.ref av]) (rest := [.ref aq, .ref ax]) ⟨hx, hb, hml, hown, hts⟩ (metX1_init l dC dI aq av dV (sd_in 64) tE H.size ) (cwI 1 hts (lw_meth q27) rfl rfl rfl (hts _ q4) (hts _ q25) (hts _ q26) rfl (by decide +kernel) ⟨Nat.le_of_ble_eq_true rfl, Nat.le_of_ble_eq_true rfl⟩) ⟨fun a U g mk q => by obtain ⟨q0, q1, qP, qK, qD, qZ⟩ := q; exact ⟨q0, q1, qP, va_K.moved (u := U) (U := U.calling g mk a) (Vm.Alike.refl U.vm) qK, qD, va_Z.moved (U := U.calling g mk a) (Vm.Alike.refl U.vm) qZ⟩, fun U hU hW => ⟨rfl, by rw [hU], by rw [hU]; exact hPc, va_K.moved hW.alike hKc, hDc.weaken (fun _ _ _ _ => trivial), by rw [hU]; exact va_Z.moved hW.alike (va_Z.narrow (va_Z.kept hZ hS.2.1) hFc)⟩⟩ rfl rfl hl.1 rfl (lv_room (Nat.le_of_ble_eq_true rfl)) dX0_init_50 ⟨Nat.le_of_ble_eq_true rfl, Nat.le_of_ble_eq_true rfl⟩) hS (fun q _ h => hFc q h) hFc (fun u t H1 locs ht hvm hwq hB hz1 hk1 hS => ?_)
    have hw : True := hwq
    obtain ⟨ah, dH, hP1, hK1, hD1⟩ := hB
    rw [ht] at hP1
    obtain ⟨hP, hD⟩ := va_join (wr := [(ax, .inr (0, [.ref av, .ref ab, .null])), (ab, .inl (dB, 64, .inl (fun _ => 0)))]) (w1 := [(aq, .inr (1, [.ref av, .ref ah, .int 0, .null])), (av, .inl (dV, 64, .inl (sd_in 64))), (ah, .inl (dH, 64, .inl (fun _ => 0)))]) hP hD [3, 1] [0, 2] rfl rfl (by decide) (by decide) hk1 hFc hP1 hD1
    have hK1 := va_K.moved hvm.symm hK1
    have hK := hK.app (hK1.sub (tys' := [(dH, .int)]) [1] rfl)
    have hK : va_K (dC, dI) vwCl [(dV, .int), (dB, .boolean), (dH, .int)] s := hK
    generalize H1 = H at hP hS ⊢
    have hP : va_P (dC, dI) vwCl [(ax, .inr (0, [.ref av, .ref ab, .null])), (ab, .inl (dB, 64, .inl (fun _ => 0))), (aq, .inr (1, [.ref av, .ref ah, .int 0, .null])), (av, .inl (dV, 64, .inl (sd_in 64))), (ah, .inl (dH, 64, .inl (fun _ => 0)))] H := hP
    have hD : va_D A [(ax, .inr (0, [.ref av, .ref ab, .null])), (ab, .inl (dB, 64, .inl (fun _ => 0))), (aq, .inr (1, [.ref av, .ref ah, .int 0, .null])), (av, .inl (dV, 64, .inl (sd_in 64))), (ah, .inl (dH, 64, .inl (fun _ => 0)))] := hD
    refine W.widen (k := 4) (n := 196) (Nat.le_of_ble_eq_true rfl) (Nat.le_of_ble_eq_true rfl) ?_
    refine va_putF (D := (dC, dI)) (ci := 0) (v := .ref aq) (ty := .object "IntHeapSemiIndirectPriorityQueue") (C := RX0) (T := TX0) (N := 3) hx hb hts in_X0 tyX0 tyX0_ok nmX0 hown hK hP hD hS 0 rfl rfl 2 (by decide) (hts _ q51) (fun _ h9 => h9) rfl hin rfl (by decide +kernel) rfl rfl (Nat.le_of_ble_eq_true rfl) dX0_init_53 (fun H locs hP hD hS => ?_)
    have hP : va_P (dC, dI) vwCl [(ax, .inr (0, [.ref av, .ref ab, .ref aq])), (ab, .inl (dB, 64, .inl (fun _ => 0))), (aq, .inr (1, [.ref av, .ref ah, .int 0, .null])), (av, .inl (dV, 64, .inl (sd_in 64))), (ah, .inl (dH, 64, .inl (fun _ => 0)))] H := hP
    have hD : va_D A [(ax, .inr (0, [.ref av, .ref ab, .ref aq])), (ab, .inl (dB, 64, .inl (fun _ => 0))), (aq, .inr (1, [.ref av, .ref ah, .int 0, .null])), (av, .inl (dV, 64, .inl (sd_in 64))), (ah, .inl (dH, 64, .inl (fun _ => 0)))] := hD
    have hP9 := hP.sub (ws' := [(ax, .inr (0, [.ref av, .ref ab, .ref aq])), (av, .inl (dV, 64, .inl (sd_in 64))), (ab, .inl (dB, 64, .inl (fun _ => 0))), (aq, .inr (1, [.ref av, .ref ah, .int (nI 0), .null])), (ah, .inl (dH, 64, .inl (fun _ => 0)))]) [0, 3, 1, 2, 4] rfl
    have hD9 := hD.sub (ws' := [(ax, .inr (0, [.ref av, .ref ab, .ref aq])), (av, .inl (dV, 64, .inl (sd_in 64))), (ab, .inl (dB, 64, .inl (fun _ => 0))), (aq, .inr (1, [.ref av, .ref ah, .int (nI 0), .null])), (ah, .inl (dH, 64, .inl (fun _ => 0)))]) [0, 3, 1, 2, 4] (by decide) rfl
    have hK9 := hK.sub (tys' := [(dV, .int), (dB, .boolean), (dH, .int)]) [0, 1, 2] rfl
    exact W.vret hx hb hr (fun t ht hW => ⟨⟨(), rfl, trivial, av, ab, aq, ah, dV, dB, dH, by rw [ht]; exact hP9, va_K.moved hW.alike hK9, hD9⟩, hS.F ht⟩) hS.2.2 dX0_init_56
  · have hlt : i < 64 := by
      rcases Nat.lt_or_ge i 64 with q | q
      · exact q
      · exact absurd (nI_le q (by omega)) c25
    refine lv_aload_n hx hb dX0_init_28 rfl (lv_at hl 0 rfl) ?_
    refine va_get (D := (dC, dI)) (ci := 0) (v := .ref av) (C := RX0) (T := TX0) (N := 3) hx hb hts in_X0 hown hK hP 0 rfl rfl 0 (by decide) (hts _ q49) (fun _ h9 => h9) rfl dX0_init_29 ?_
    refine lv_iload_n hx hb dX0_init_32 rfl (lv_at hl 1 rfl) ?_
    refine lv_iload_n hx hb dX0_init_33 rfl (lv_at hl 1 rfl) ?_
    refine va_iast hx hb hK hP hD hS 1 0 rfl rfl (vp_in_nI (by omega) (by omega)) dX0_init_34 (fun H locs hP hD hS => ?_)
    rw [nI_clamp (n := i) (by omega)] at hP hD
    rw [show upd (sd_in i) i (nI i) = sd_in (i + 1) from sd_in_s i] at hP hD
    have hP : va_P (dC, dI) vwCl [(ax, .inr (0, [.ref av, .ref ab, .null])), (av, .inl (dV, 64, .inl (sd_in (i + 1)))), (ab, .inl (dB, 64, .inl (fun _ => 0)))] H := hP
    have hD : va_D A [(ax, .inr (0, [.ref av, .ref ab, .null])), (av, .inl (dV, 64, .inl (sd_in (i + 1)))), (ab, .inl (dB, 64, .inl (fun _ => 0)))] := hD
    refine lv_iinc (v := nI (i + 1)) (lv' := [(1, .int (nI (i + 1))), (0, .ref ax)]) hx hb dX0_init_35 hl (k := 1) rfl (by rw [← nI_1]; rfl) (by decide) rfl (fun ls hl => ?_)
    refine lv_goto (tgt := 22) hx hb dX0_init_38 (by decide) ?_
    exact ih ((i + 1)) _ _ _ (by first | omega | (dsimp only; omega)) ⟨hP.sub (ws' := [(ax, .inr (0, [.ref av, .ref ab, .null])), (av, .inl (dV, 64, .inl (sd_in (i + 1)))), (ab, .inl (dB, 64, .inl (fun _ => 0)))]) [0, 1, 2] rfl, hD.sub (ws' := [(ax, .inr (0, [.ref av, .ref ab, .null])), (av, .inl (dV, 64, .inl (sd_in (i + 1)))), (ab, .inl (dB, 64, .inl (fun _ => 0)))]) [0, 1, 2] (by decide) rfl, hS, lv_sub hl [1, 0] rfl, by omega⟩
end
section
/-! SemiHeapDeskModel -/
set_option maxHeartbeats 4000000 in
set_option maxRecDepth 100000 in
/-- marked(v, k) -/
theorem metX3_marked (l : Launch) (dC : Nat → ClassId) (dI : Nat → Nat → Nat) (p0 : Int32) (p1 : Int32) (sz : Nat)  : Met l yX3_marked (ws_ yX3_marked cX3_marked 2 (some .int)) ({ frames := 0, cells := 0, slots := 0, locals := 0 }) (va_Pc [.int p0, .int p1] (fun U => U.heap.size = sz ∧ va_P (dC, dI) vwCl [] U.heap ∧ va_K (dC, dI) vwCl [] U ∧ va_D (fun _ => True) [])) (va_Qi (fun (r : Int32) (u : Unit) => r = sd_mk p0 p1) (fun (u : Unit) (t : State) => va_P (dC, dI) vwCl [] t.heap ∧ va_K (dC, dI) vwCl [] t ∧ va_D (va_A [] sz) []) (va_A [] sz)) 0 0 (va_A [] sz) := by
  refine Met.ofW (cc := cX3_marked) (maxL := 2) (ret := (some .int)) (by decide) rfl ?_
  intro p e s m args below meth c s₁ B hml hvv
  obtain ⟨rfl, hsz, hP, hK, hD0⟩ := hvv
  have hx := B.exec
  have hb := B.bytes
  have hr := B.returns
  have hts := atoms_spec (ws := (ws_ yX3_marked cX3_marked 2 (some .int))) B.pre
  have hts : ∀ w ∈ lw_all, w.before _ s = true := fun w h => hts w (List.mem_cons_of_mem _ h)
  have hown : s.vm.findClass RX3 = some m.cls := findClass_of_methodNamed B.named
  have hlocks := B.notSynchronized
  subst hsz
  have hD := hD0.self (sz := s.heap.size)
  generalize hAe : va_A [] s.heap.size = A at hD ⊢
  have hA : ∀ q : Nat, s.heap.size ≤ q → A q := fun q h => by rw [← hAe]; exact Or.inr h
  have hS : va_S A s.heap s.heap [] := va_S.rf
  have hP : va_P (dC, dI) vwCl [] s.heap := hP
  have hl := lv_entry ([.int p0, .int p1]) (n := 2) (Nat.le_of_ble_eq_true rfl)
  rw [lg_entry_eq]
  generalize (lg_sl ([.int p0, .int p1]) ++ List.replicate (2 - (lg_sl ([.int p0, .int p1])).length) Slot.unset).toArray = ls at hl ⊢
  have hl : lv_has ls 2 [(0, .int p0), (1, .int p1)] := hl
  refine lv_iload_n hx hb dX3_marked_0 rfl (lv_at hl 0 rfl) ?_
  refine lv_bipush (v := (-64)) hx hb dX3_marked_1 (by decide +kernel) ?_
  refine lv_iand hx hb dX3_marked_3 ?_
  refine lv_iload_n hx hb dX3_marked_4 rfl (lv_at hl 1 rfl) ?_
  refine lv_ior hx hb dX3_marked_5 ?_
  have hP9 := hP.sub (ws' := []) [] rfl
  have hD9 := hD.sub (ws' := []) [] (by decide) rfl
  have hK9 := hK.sub (tys' := []) [] rfl
  exact W.iret (v := ((p0 &&& (-64)) ||| p1)) hx hb hr (fun t ht hW => ⟨⟨((p0 &&& (-64)) ||| p1), (), rfl, rfl, by rw [ht]; exact hP9, va_K.moved hW.alike hK9, hD9⟩, hS.F ht⟩) hS.2.2 dX3_marked_6
set_option maxHeartbeats 4000000 in
set_option maxRecDepth 100000 in
/-- leastPlace() -/
theorem metX3_leastPlace (l : Launch) (dC : Nat → ClassId) (dI : Nat → Nat → Nat) (am : Nat) (av : Nat) (ab : Nat) (dV : ClassId) (dB : ClassId) (v : Nat → Int32) (b : Nat → Int32) (sz : Nat)  : Met l yX3_leastPlace (ws_ yX3_leastPlace cX3_leastPlace 3 (some .int)) ({ frames := 0, cells := 0, slots := 0, locals := 0 }) (va_Pc [.ref am] (fun U => U.heap.size = sz ∧ va_P (dC, dI) vwCl [(am, .inr (2, [.ref av, .ref ab])), (av, .inl (dV, 64, .inl v)), (ab, .inl (dB, 64, .inl b))] U.heap ∧ va_K (dC, dI) vwCl [(dV, .int), (dB, .boolean)] U ∧ va_D (fun _ => True) [(am, .inr (2, [.ref av, .ref ab])), (av, .inl (dV, 64, .inl v)), (ab, .inl (dB, 64, .inl b))])) (va_Qi (fun (r : Int32) (u : Unit) => r = sd_lp v b 64) (fun (u : Unit) (t : State) => va_P (dC, dI) vwCl [(am, .inr (2, [.ref av, .ref ab])), (av, .inl (dV, 64, .inl v)), (ab, .inl (dB, 64, .inl b))] t.heap ∧ va_K (dC, dI) vwCl [(dV, .int), (dB, .boolean)] t ∧ va_D (va_A [(am, .inr (2, [.ref av, .ref ab])), (av, .inl (dV, 64, .inl v)), (ab, .inl (dB, 64, .inl b))] sz) [(am, .inr (2, [.ref av, .ref ab])), (av, .inl (dV, 64, .inl v)), (ab, .inl (dB, 64, .inl b))]) (va_A [(am, .inr (2, [.ref av, .ref ab])), (av, .inl (dV, 64, .inl v)), (ab, .inl (dB, 64, .inl b))] sz)) 0 0 (va_A [(am, .inr (2, [.ref av, .ref ab])), (av, .inl (dV, 64, .inl v)), (ab, .inl (dB, 64, .inl b))] sz) := by
  refine Met.ofW (cc := cX3_leastPlace) (maxL := 3) (ret := (some .int)) (by decide) rfl ?_
  intro p e s m args below meth c s₁ B hml hvv
  obtain ⟨rfl, hsz, hP, hK, hD0⟩ := hvv
  have hx := B.exec
  have hb := B.bytes
  have hr := B.returns
  have hts := atoms_spec (ws := (ws_ yX3_leastPlace cX3_leastPlace 3 (some .int))) B.pre
  have hts : ∀ w ∈ lw_all, w.before _ s = true := fun w h => hts w (List.mem_cons_of_mem _ h)
  have hown : s.vm.findClass RX3 = some m.cls := findClass_of_methodNamed B.named
  have hlocks := B.notSynchronized
  subst hsz
  have hD := hD0.self (sz := s.heap.size)
  generalize hAe : va_A [(am, .inr (2, [.ref av, .ref ab])), (av, .inl (dV, 64, .inl v)), (ab, .inl (dB, 64, .inl b))] s.heap.size = A at hD ⊢
  have hA : ∀ q : Nat, s.heap.size ≤ q → A q := fun q h => by rw [← hAe]; exact Or.inr h
  have hS : va_S A s.heap s.heap [] := va_S.rf
  have hP : va_P (dC, dI) vwCl [(am, .inr (2, [.ref av, .ref ab])), (av, .inl (dV, 64, .inl v)), (ab, .inl (dB, 64, .inl b))] s.heap := hP
  have hl := lv_entry ([.ref am]) (n := 3) (Nat.le_of_ble_eq_true rfl)
  rw [lg_entry_eq]
  generalize (lg_sl ([.ref am]) ++ List.replicate (3 - (lg_sl ([.ref am])).length) Slot.unset).toArray = ls at hl ⊢
  have hl : lv_has ls 3 [(0, .ref am)] := hl
  refine lv_iconst (v := (-1)) hx hb dX3_leastPlace_0 (by decide +kernel) ?_
  refine lv_istore_n (lv' := [(1, .int (-1)), (0, .ref am)]) hx hb dX3_leastPlace_1 rfl hl (by decide) rfl (fun ls hl => ?_)
  refine lv_iconst (v := (nI 0)) hx hb dX3_leastPlace_2 (by decide +kernel) ?_
  refine lv_istore_n (lv' := [(2, .int (nI 0)), (1, .int (-1)), (0, .ref am)]) hx hb dX3_leastPlace_3 rfl hl (by decide) rfl (fun ls hl => ?_)
  refine wl_loop (σ := Nat) (fun x => 64 - x) (fun (x : Nat) (H : Heap) (locs : List Loc) (ls : Array Slot) => va_P (dC, dI) vwCl [(am, .inr (2, [.ref av, .ref ab])), (av, .inl (dV, 64, .inl v)), (ab, .inl (dB, 64, .inl b))] H ∧ va_D A [(am, .inr (2, [.ref av, .ref ab])), (av, .inl (dV, 64, .inl v)), (ab, .inl (dB, 64, .inl b))] ∧ va_S A s.heap H locs ∧ lv_has ls 3 [(0, .ref am), (1, .int (sd_lp v b x)), (2, .int (nI x))] ∧ (x ≤ 64)) (fun x H locs ls hI ih => ?_) (0) _ _ _ ⟨hP.sub (ws' := [(am, .inr (2, [.ref av, .ref ab])), (av, .inl (dV, 64, .inl v)), (ab, .inl (dB, 64, .inl b))]) [0, 1, 2] rfl, hD.sub (ws' := [(am, .inr (2, [.ref av, .ref ab])), (av, .inl (dV, 64, .inl v)), (ab, .inl (dB, 64, .inl b))]) [0, 1, 2] (by decide) rfl, hS, lv_sub hl [2, 1, 0] rfl, Nat.zero_le 64⟩
  obtain ⟨i, ei⟩ : ∃ y, y = x := ⟨_, rfl⟩
  subst ei
  obtain ⟨hP, hD, hS, hl, hI⟩ := hI
  have hP : va_P (dC, dI) vwCl [(am, .inr (2, [.ref av, .ref ab])), (av, .inl (dV, 64, .inl v)), (ab, .inl (dB, 64, .inl b))] H := hP
  have hD : va_D A [(am, .inr (2, [.ref av, .ref ab])), (av, .inl (dV, 64, .inl v)), (ab, .inl (dB, 64, .inl b))] := hD
  have hl : lv_has ls 3 [(0, .ref am), (1, .int (sd_lp v b i)), (2, .int (nI i))] := hl
  have hI : i ≤ 64 := hI
  refine lv_iload_n hx hb dX3_leastPlace_4 rfl (lv_at hl 2 rfl) ?_
  refine lv_bipush (v := (nI 64)) hx hb dX3_leastPlace_5 (by decide +kernel) ?_
  refine lv_icmp_ge (tgt := 46) hx hb dX3_leastPlace_7 (by decide) (fun c7 => ?_) (fun c7 => ?_)
  · obtain rfl : i = 64 := by
      have q : 64 ≤ i := (nI_leI (by omega) (by omega)).mp c7
      omega
    refine lv_iload_n hx hb dX3_leastPlace_46 rfl (lv_at hl 1 rfl) ?_
    have hP9 := hP.sub (ws' := [(am, .inr (2, [.ref av, .ref ab])), (av, .inl (dV, 64, .inl v)), (ab, .inl (dB, 64, .inl b))]) [0, 1, 2] rfl
    have hD9 := hD.sub (ws' := [(am, .inr (2, [.ref av, .ref ab])), (av, .inl (dV, 64, .inl v)), (ab, .inl (dB, 64, .inl b))]) [0, 1, 2] (by decide) rfl
    have hK9 := hK.sub (tys' := [(dV, .int), (dB, .boolean)]) [0, 1] rfl
    exact W.iret (v := (sd_lp v b 64)) hx hb hr (fun t ht hW => ⟨⟨(sd_lp v b 64), (), rfl, rfl, by rw [ht]; exact hP9, va_K.moved hW.alike hK9, hD9⟩, hS.F ht⟩) hS.2.2 dX3_leastPlace_47
  · have hlt : i < 64 := by
      rcases Nat.lt_or_ge i 64 with q | q
      · exact q
      · exact absurd (nI_le q (by omega)) c7
    refine lv_aload_n hx hb dX3_leastPlace_10 rfl (lv_at hl 0 rfl) ?_
    refine va_get (D := (dC, dI)) (ci := 2) (v := .ref ab) (C := RX3) (T := TX3) (N := 2) hx hb hts in_X3 hown hK hP 0 rfl rfl 1 (by decide) (hts _ q265) (fun _ h9 => h9) rfl dX3_leastPlace_11 ?_
    refine lv_iload_n hx hb dX3_leastPlace_14 rfl (lv_at hl 2 rfl) ?_
    refine va_zald hx hb hK hP 2 1 rfl rfl (vp_in_nI (by omega) (by omega)) dX3_leastPlace_15 ?_
    refine lv_topi (fun y_1 ey_1 => ?_)
    obtain rfl : y_1 = b i := ey_1.trans (congrArg b (nI_clamp (by omega)))
    refine lv_if_eq (tgt := 40) hx hb dX3_leastPlace_16 (by decide) (fun c16 => ?_) (fun c16 => ?_)
    · refine lv_iinc (v := nI (i + 1)) (lv' := [(2, .int (nI (i + 1))), (0, .ref am), (1, .int (sd_lp v b i))]) hx hb dX3_leastPlace_40 hl (k := 2) rfl (by rw [← nI_1]; rfl) (by decide) rfl (fun ls hl => ?_)
      refine lv_goto (tgt := 4) hx hb dX3_leastPlace_43 (by decide) ?_
      have hl : lv_has ls 3 [(2, .int (nI (i + 1))), (0, .ref am), (1, .int (sd_lp v b (i + 1)))] := by rw [sd_lp_n c16]; exact hl
      exact ih ((i + 1)) _ _ _ (by first | omega | (dsimp only; omega)) ⟨hP.sub (ws' := [(am, .inr (2, [.ref av, .ref ab])), (av, .inl (dV, 64, .inl v)), (ab, .inl (dB, 64, .inl b))]) [0, 1, 2] rfl, hD.sub (ws' := [(am, .inr (2, [.ref av, .ref ab])), (av, .inl (dV, 64, .inl v)), (ab, .inl (dB, 64, .inl b))]) [0, 1, 2] (by decide) rfl, hS, lv_sub hl [1, 2, 0] rfl, by omega⟩
    · refine lv_iload_n hx hb dX3_leastPlace_19 rfl (lv_at hl 1 rfl) ?_
      refine lv_if_lt (tgt := 38) hx hb dX3_leastPlace_20 (by decide) (fun c20 => ?_) (fun c20 => ?_)
      · refine lv_iload_n hx hb dX3_leastPlace_38 rfl (lv_at hl 2 rfl) ?_
        refine lv_istore_n (lv' := [(1, .int (nI i)), (0, .ref am), (2, .int (nI i))]) hx hb dX3_leastPlace_39 rfl hl (by decide) rfl (fun ls hl => ?_)
        refine lv_iinc (v := nI (i + 1)) (lv' := [(2, .int (nI (i + 1))), (1, .int (nI i)), (0, .ref am)]) hx hb dX3_leastPlace_40 hl (k := 2) rfl (by rw [← nI_1]; rfl) (by decide) rfl (fun ls hl => ?_)
        refine lv_goto (tgt := 4) hx hb dX3_leastPlace_43 (by decide) ?_
        have hl : lv_has ls 3 [(2, .int (nI (i + 1))), (1, .int (sd_lp v b (i + 1))), (0, .ref am)] := by rw [sd_lp_y c16 (Or.inl c20)]; exact hl
        exact ih ((i + 1)) _ _ _ (by first | omega | (dsimp only; omega)) ⟨hP.sub (ws' := [(am, .inr (2, [.ref av, .ref ab])), (av, .inl (dV, 64, .inl v)), (ab, .inl (dB, 64, .inl b))]) [0, 1, 2] rfl, hD.sub (ws' := [(am, .inr (2, [.ref av, .ref ab])), (av, .inl (dV, 64, .inl v)), (ab, .inl (dB, 64, .inl b))]) [0, 1, 2] (by decide) rfl, hS, lv_sub hl [2, 1, 0] rfl, by omega⟩
      · refine lv_aload_n hx hb dX3_leastPlace_23 rfl (lv_at hl 0 rfl) ?_
        refine va_get (D := (dC, dI)) (ci := 2) (v := .ref av) (C := RX3) (T := TX3) (N := 2) hx hb hts in_X3 hown hK hP 0 rfl rfl 0 (by decide) (hts _ q264) (fun _ h9 => h9) rfl dX3_leastPlace_24 ?_
        refine lv_iload_n hx hb dX3_leastPlace_27 rfl (lv_at hl 2 rfl) ?_
        refine va_iald hx hb hK hP 1 0 rfl rfl (vp_in_nI (by omega) (by omega)) dX3_leastPlace_28 ?_
        refine lv_topi (fun y_2 ey_2 => ?_)
        obtain rfl : y_2 = v i := ey_2.trans (congrArg v (nI_clamp (by omega)))
        refine lv_aload_n hx hb dX3_leastPlace_29 rfl (lv_at hl 0 rfl) ?_
        refine va_get (D := (dC, dI)) (ci := 2) (v := .ref av) (C := RX3) (T := TX3) (N := 2) hx hb hts in_X3 hown hK hP 0 rfl rfl 0 (by decide) (hts _ q264) (fun _ h9 => h9) rfl dX3_leastPlace_30 ?_
        refine lv_iload_n hx hb dX3_leastPlace_33 rfl (lv_at hl 1 rfl) ?_
        refine va_iald hx hb hK hP 1 0 rfl rfl (sd_lp_in (by omega) c20) dX3_leastPlace_34 ?_
        refine lv_icmp_ge (tgt := 40) hx hb dX3_leastPlace_35 (by decide) (fun c35 => ?_) (fun c35 => ?_)
        · refine lv_iinc (v := nI (i + 1)) (lv' := [(2, .int (nI (i + 1))), (0, .ref am), (1, .int (sd_lp v b i))]) hx hb dX3_leastPlace_40 hl (k := 2) rfl (by rw [← nI_1]; rfl) (by decide) rfl (fun ls hl => ?_)
          refine lv_goto (tgt := 4) hx hb dX3_leastPlace_43 (by decide) ?_
          have hl : lv_has ls 3 [(2, .int (nI (i + 1))), (0, .ref am), (1, .int (sd_lp v b (i + 1)))] := by rw [sd_lp_k c16 c20 (fun q => absurd c35 (hp_lt_nle q))]; exact hl
          exact ih ((i + 1)) _ _ _ (by first | omega | (dsimp only; omega)) ⟨hP.sub (ws' := [(am, .inr (2, [.ref av, .ref ab])), (av, .inl (dV, 64, .inl v)), (ab, .inl (dB, 64, .inl b))]) [0, 1, 2] rfl, hD.sub (ws' := [(am, .inr (2, [.ref av, .ref ab])), (av, .inl (dV, 64, .inl v)), (ab, .inl (dB, 64, .inl b))]) [0, 1, 2] (by decide) rfl, hS, lv_sub hl [1, 2, 0] rfl, by omega⟩
        · refine lv_iload_n hx hb dX3_leastPlace_38 rfl (lv_at hl 2 rfl) ?_
          refine lv_istore_n (lv' := [(1, .int (nI i)), (0, .ref am), (2, .int (nI i))]) hx hb dX3_leastPlace_39 rfl hl (by decide) rfl (fun ls hl => ?_)
          refine lv_iinc (v := nI (i + 1)) (lv' := [(2, .int (nI (i + 1))), (1, .int (nI i)), (0, .ref am)]) hx hb dX3_leastPlace_40 hl (k := 2) rfl (by rw [← nI_1]; rfl) (by decide) rfl (fun ls hl => ?_)
          refine lv_goto (tgt := 4) hx hb dX3_leastPlace_43 (by decide) ?_
          have hl : lv_has ls 3 [(2, .int (nI (i + 1))), (1, .int (sd_lp v b (i + 1))), (0, .ref am)] := by rw [sd_lp_y c16 (Or.inr (hp_i_lt c35))]; exact hl
          exact ih ((i + 1)) _ _ _ (by first | omega | (dsimp only; omega)) ⟨hP.sub (ws' := [(am, .inr (2, [.ref av, .ref ab])), (av, .inl (dV, 64, .inl v)), (ab, .inl (dB, 64, .inl b))]) [0, 1, 2] rfl, hD.sub (ws' := [(am, .inr (2, [.ref av, .ref ab])), (av, .inl (dV, 64, .inl v)), (ab, .inl (dB, 64, .inl b))]) [0, 1, 2] (by decide) rfl, hS, lv_sub hl [2, 1, 0] rfl, by omega⟩
set_option maxHeartbeats 4000000 in
set_option maxRecDepth 100000 in
/-- change(i, v) -/
theorem metX3_change (l : Launch) (dC : Nat → ClassId) (dI : Nat → Nat → Nat) (am : Nat) (av : Nat) (ab : Nat) (dV : ClassId) (dB : ClassId) (v : Nat → Int32) (b : Nat → Int32) (p0 : Int32) (p1 : Int32) (k : Nat) (sz : Nat) (hk : k < 64) (ek : p0 &&& 63 = nI k) : Met l yX3_change (ws_ yX3_change cX3_change 4 (some .boolean)) ({ frames := 1, cells := 0, slots := 0, locals := 21 }) (va_Pc [.ref am, .int p0, .int p1] (fun U => U.heap.size = sz ∧ va_P (dC, dI) vwCl [(am, .inr (2, [.ref av, .ref ab])), (av, .inl (dV, 64, .inl v)), (ab, .inl (dB, 64, .inl b))] U.heap ∧ va_K (dC, dI) vwCl [(dV, .int), (dB, .boolean)] U ∧ va_D (fun _ => True) [(am, .inr (2, [.ref av, .ref ab])), (av, .inl (dV, 64, .inl v)), (ab, .inl (dB, 64, .inl b))])) (va_Qi (fun (r : Int32) (u : Nat → Int32) => r = (if b k = 0 then 1 else 0) ∧ u = (if b k = 0 then upd v k (sd_mk p1 (nI k)) else v)) (fun (u : Nat → Int32) (t : State) => va_P (dC, dI) vwCl [(am, .inr (2, [.ref av, .ref ab])), (av, .inl (dV, 64, .inl u)), (ab, .inl (dB, 64, .inl b))] t.heap ∧ va_K (dC, dI) vwCl [(dV, .int), (dB, .boolean)] t ∧ va_D (va_A [(am, .inr (2, [.ref av, .ref ab])), (av, .inl (dV, 64, .inl v)), (ab, .inl (dB, 64, .inl b))] sz) [(am, .inr (2, [.ref av, .ref ab])), (av, .inl (dV, 64, .inl u)), (ab, .inl (dB, 64, .inl b))]) (va_A [(am, .inr (2, [.ref av, .ref ab])), (av, .inl (dV, 64, .inl v)), (ab, .inl (dB, 64, .inl b))] sz)) 0 0 (va_A [(am, .inr (2, [.ref av, .ref ab])), (av, .inl (dV, 64, .inl v)), (ab, .inl (dB, 64, .inl b))] sz) := by
  refine Met.ofW (cc := cX3_change) (maxL := 4) (ret := (some .boolean)) (by decide) rfl ?_
  intro p e s m args below meth c s₁ B hml hvv
  obtain ⟨rfl, hsz, hP, hK, hD0⟩ := hvv
  have hx := B.exec
  have hb := B.bytes
  have hr := B.returns
  have hts := atoms_spec (ws := (ws_ yX3_change cX3_change 4 (some .boolean))) B.pre
  have hts : ∀ w ∈ lw_all, w.before _ s = true := fun w h => hts w (List.mem_cons_of_mem _ h)
  have hown : s.vm.findClass RX3 = some m.cls := findClass_of_methodNamed B.named
  have hlocks := B.notSynchronized
  subst hsz
  have hD := hD0.self (sz := s.heap.size)
  generalize hAe : va_A [(am, .inr (2, [.ref av, .ref ab])), (av, .inl (dV, 64, .inl v)), (ab, .inl (dB, 64, .inl b))] s.heap.size = A at hD ⊢
  have hA : ∀ q : Nat, s.heap.size ≤ q → A q := fun q h => by rw [← hAe]; exact Or.inr h
  have hS : va_S A s.heap s.heap [] := va_S.rf
  have hP : va_P (dC, dI) vwCl [(am, .inr (2, [.ref av, .ref ab])), (av, .inl (dV, 64, .inl v)), (ab, .inl (dB, 64, .inl b))] s.heap := hP
  have hl := lv_entry ([.ref am, .int p0, .int p1]) (n := 4) (Nat.le_of_ble_eq_true rfl)
  rw [lg_entry_eq]
  generalize (lg_sl ([.ref am, .int p0, .int p1]) ++ List.replicate (4 - (lg_sl ([.ref am, .int p0, .int p1])).length) Slot.unset).toArray = ls at hl ⊢
  have hl : lv_has ls 4 [(0, .ref am), (1, .int p0), (2, .int p1)] := hl
  refine lv_iload_n hx hb dX3_change_0 rfl (lv_at hl 1 rfl) ?_
  refine lv_bipush (v := 63) hx hb dX3_change_1 (by decide +kernel) ?_
  refine lv_iand hx hb dX3_change_3 ?_
  refine lv_topi (fun y_1 ey_1 => ?_)
  obtain rfl : y_1 = nI k := ey_1.trans (ek)
  refine lv_istore_n (lv' := [(3, .int (nI k)), (0, .ref am), (1, .int p0), (2, .int p1)]) hx hb dX3_change_4 rfl hl (by decide) rfl (fun ls hl => ?_)
  refine lv_aload_n hx hb dX3_change_5 rfl (lv_at hl 1 rfl) ?_
  refine va_get (D := (dC, dI)) (ci := 2) (v := .ref ab) (C := RX3) (T := TX3) (N := 2) hx hb hts in_X3 hown hK hP 0 rfl rfl 1 (by decide) (hts _ q265) (fun _ h9 => h9) rfl dX3_change_6 ?_
  refine lv_iload_n hx hb dX3_change_9 rfl (lv_at hl 0 rfl) ?_
  refine va_zald hx hb hK hP 2 1 rfl rfl (vp_in_nI (by omega) (by omega)) dX3_change_10 ?_
  refine lv_topi (fun y_2 ey_2 => ?_)
  obtain rfl : y_2 = b k := ey_2.trans (congrArg b (nI_clamp (by omega)))
  refine lv_if_eq (tgt := 16) hx hb dX3_change_11 (by decide) (fun c11 => ?_) (fun c11 => ?_)
  · refine lv_aload_n hx hb dX3_change_16 rfl (lv_at hl 1 rfl) ?_
    refine va_get (D := (dC, dI)) (ci := 2) (v := .ref av) (C := RX3) (T := TX3) (N := 2) hx hb hts in_X3 hown hK hP 0 rfl rfl 0 (by decide) (hts _ q264) (fun _ h9 => h9) rfl dX3_change_17 ?_
    refine lv_iload_n hx hb dX3_change_20 rfl (lv_at hl 0 rfl) ?_
    refine lv_iload_n hx hb dX3_change_21 rfl (lv_at hl 3 rfl) ?_
    refine lv_iload_n hx hb dX3_change_22 rfl (lv_at hl 0 rfl) ?_
    have hPc := hP.sub (ws' := []) [] rfl
    have hDc := hD.sub (ws' := []) [] (by decide) rfl
    have hKc := hK.sub (tys' := []) [] rfl
    have hFc := va_free (wc := []) hD hS hA [] rfl
    refine va_calli (va_runS (As := [.int p1, .int (nI k)]) (rest := [.int (nI k), .ref av]) ⟨hx, hb, hml, hown, hts⟩ (metX3_marked l dC dI p1 (nI k) s.heap.size ) (va_cwS 2 hts (lw_S q275 q276 q6 q277) rfl rfl rfl (by decide +kernel) ⟨Nat.le_of_ble_eq_true rfl, Nat.le_of_ble_eq_true rfl⟩) ⟨fun a U g mk q => by obtain ⟨q0, q1, qP, qK, qD⟩ := q; exact ⟨q0, q1, qP, va_K.moved (u := U) (U := U.calling g mk a) (Vm.Alike.refl U.vm) qK, qD⟩, fun U hU hW => ⟨rfl, by rw [hU], by rw [hU]; exact hPc, va_K.moved hW.alike hKc, hDc.weaken (fun _ _ _ _ => trivial)⟩⟩ rfl rfl hl.1 rfl (lv_room (Nat.le_of_ble_eq_true rfl)) dX3_change_23 ⟨Nat.le_of_ble_eq_true rfl, Nat.le_of_ble_eq_true rfl⟩) hS (fun q _ h => hFc q h) hFc (fun r1 u t H1 locs ht hvm hwq hB hz1 hk1 hS => ?_)
    have hw : r1 = sd_mk p1 (nI k) := hwq
    subst hw
    obtain ⟨hP1, hK1, hD1⟩ := hB
    rw [ht] at hP1
    obtain ⟨hP, hD⟩ := va_join (wr := [(am, .inr (2, [.ref av, .ref ab])), (av, .inl (dV, 64, .inl v)), (ab, .inl (dB, 64, .inl b))]) (w1 := []) hP hD [] [0, 1, 2] rfl rfl (by decide) (by decide) hk1 hFc hP1 hD1
    generalize H1 = H at hP hS ⊢
    have hP : va_P (dC, dI) vwCl [(am, .inr (2, [.ref av, .ref ab])), (av, .inl (dV, 64, .inl v)), (ab, .inl (dB, 64, .inl b))] H := hP
    have hD : va_D A [(am, .inr (2, [.ref av, .ref ab])), (av, .inl (dV, 64, .inl v)), (ab, .inl (dB, 64, .inl b))] := hD
    refine va_iast hx hb hK hP hD hS 1 0 rfl rfl (vp_in_nI (by omega) (by omega)) dX3_change_26 (fun H locs hP hD hS => ?_)
    rw [nI_clamp (n := k) (by omega)] at hP hD
    have hP : va_P (dC, dI) vwCl [(am, .inr (2, [.ref av, .ref ab])), (av, .inl (dV, 64, .inl (upd v k (sd_mk p1 (nI k))))), (ab, .inl (dB, 64, .inl b))] H := hP
    have hD : va_D A [(am, .inr (2, [.ref av, .ref ab])), (av, .inl (dV, 64, .inl (upd v k (sd_mk p1 (nI k))))), (ab, .inl (dB, 64, .inl b))] := hD
    refine lv_iconst (v := 1) hx hb dX3_change_27 (by decide +kernel) ?_
    have hP9 := hP.sub (ws' := [(am, .inr (2, [.ref av, .ref ab])), (av, .inl (dV, 64, .inl (upd v k (sd_mk p1 (nI k))))), (ab, .inl (dB, 64, .inl b))]) [0, 1, 2] rfl
    have hD9 := hD.sub (ws' := [(am, .inr (2, [.ref av, .ref ab])), (av, .inl (dV, 64, .inl (upd v k (sd_mk p1 (nI k))))), (ab, .inl (dB, 64, .inl b))]) [0, 1, 2] (by decide) rfl
    have hK9 := hK.sub (tys' := [(dV, .int), (dB, .boolean)]) [0, 1] rfl
    exact W.zret (v := 1) hx hb hr rfl (fun t ht hW => ⟨⟨1, (upd v k (sd_mk p1 (nI k))), rfl, ⟨(if_pos c11).symm, (if_pos c11).symm⟩, by rw [ht]; exact hP9, va_K.moved hW.alike hK9, hD9⟩, hS.F ht⟩) hS.2.2 dX3_change_28
  · refine lv_iconst (v := 0) hx hb dX3_change_14 (by decide +kernel) ?_
    have hP9 := hP.sub (ws' := [(am, .inr (2, [.ref av, .ref ab])), (av, .inl (dV, 64, .inl v)), (ab, .inl (dB, 64, .inl b))]) [0, 1, 2] rfl
    have hD9 := hD.sub (ws' := [(am, .inr (2, [.ref av, .ref ab])), (av, .inl (dV, 64, .inl v)), (ab, .inl (dB, 64, .inl b))]) [0, 1, 2] (by decide) rfl
    have hK9 := hK.sub (tys' := [(dV, .int), (dB, .boolean)]) [0, 1] rfl
    exact W.zret (v := 0) hx hb hr rfl (fun t ht hW => ⟨⟨0, v, rfl, ⟨(if_neg c11).symm, (if_neg c11).symm⟩, by rw [ht]; exact hP9, va_K.moved hW.alike hK9, hD9⟩, hS.F ht⟩) hS.2.2 dX3_change_15
set_option maxHeartbeats 4000000 in
set_option maxRecDepth 100000 in
/-- enter(i) -/
theorem metX3_enter (l : Launch) (dC : Nat → ClassId) (dI : Nat → Nat → Nat) (am : Nat) (av : Nat) (ab : Nat) (dV : ClassId) (dB : ClassId) (v : Nat → Int32) (b : Nat → Int32) (p0 : Int32) (k : Nat) (sz : Nat) (hk : k < 64) (ek : p0 &&& 63 = nI k) : Met l yX3_enter (ws_ yX3_enter cX3_enter 3 (some .boolean)) ({ frames := 0, cells := 0, slots := 0, locals := 0 }) (va_Pc [.ref am, .int p0] (fun U => U.heap.size = sz ∧ va_P (dC, dI) vwCl [(am, .inr (2, [.ref av, .ref ab])), (av, .inl (dV, 64, .inl v)), (ab, .inl (dB, 64, .inl b))] U.heap ∧ va_K (dC, dI) vwCl [(dV, .int), (dB, .boolean)] U ∧ va_D (fun _ => True) [(am, .inr (2, [.ref av, .ref ab])), (av, .inl (dV, 64, .inl v)), (ab, .inl (dB, 64, .inl b))])) (va_Qi (fun (r : Int32) (u : Nat → Int32) => r = (if b k = 0 then 1 else 0) ∧ u = (if b k = 0 then upd b k 1 else b)) (fun (u : Nat → Int32) (t : State) => va_P (dC, dI) vwCl [(am, .inr (2, [.ref av, .ref ab])), (av, .inl (dV, 64, .inl v)), (ab, .inl (dB, 64, .inl u))] t.heap ∧ va_K (dC, dI) vwCl [(dV, .int), (dB, .boolean)] t ∧ va_D (va_A [(am, .inr (2, [.ref av, .ref ab])), (av, .inl (dV, 64, .inl v)), (ab, .inl (dB, 64, .inl b))] sz) [(am, .inr (2, [.ref av, .ref ab])), (av, .inl (dV, 64, .inl v)), (ab, .inl (dB, 64, .inl u))]) (va_A [(am, .inr (2, [.ref av, .ref ab])), (av, .inl (dV, 64, .inl v)), (ab, .inl (dB, 64, .inl b))] sz)) 0 0 (va_A [(am, .inr (2, [.ref av, .ref ab])), (av, .inl (dV, 64, .inl v)), (ab, .inl (dB, 64, .inl b))] sz) := by
  refine Met.ofW (cc := cX3_enter) (maxL := 3) (ret := (some .boolean)) (by decide) rfl ?_
  intro p e s m args below meth c s₁ B hml hvv
  obtain ⟨rfl, hsz, hP, hK, hD0⟩ := hvv
  have hx := B.exec
  have hb := B.bytes
  have hr := B.returns
  have hts := atoms_spec (ws := (ws_ yX3_enter cX3_enter 3 (some .boolean))) B.pre
  have hts : ∀ w ∈ lw_all, w.before _ s = true := fun w h => hts w (List.mem_cons_of_mem _ h)
  have hown : s.vm.findClass RX3 = some m.cls := findClass_of_methodNamed B.named
  have hlocks := B.notSynchronized
  subst hsz
  have hD := hD0.self (sz := s.heap.size)
  generalize hAe : va_A [(am, .inr (2, [.ref av, .ref ab])), (av, .inl (dV, 64, .inl v)), (ab, .inl (dB, 64, .inl b))] s.heap.size = A at hD ⊢
  have hA : ∀ q : Nat, s.heap.size ≤ q → A q := fun q h => by rw [← hAe]; exact Or.inr h
  have hS : va_S A s.heap s.heap [] := va_S.rf
  have hP : va_P (dC, dI) vwCl [(am, .inr (2, [.ref av, .ref ab])), (av, .inl (dV, 64, .inl v)), (ab, .inl (dB, 64, .inl b))] s.heap := hP
  have hl := lv_entry ([.ref am, .int p0]) (n := 3) (Nat.le_of_ble_eq_true rfl)
  rw [lg_entry_eq]
  generalize (lg_sl ([.ref am, .int p0]) ++ List.replicate (3 - (lg_sl ([.ref am, .int p0])).length) Slot.unset).toArray = ls at hl ⊢
  have hl : lv_has ls 3 [(0, .ref am), (1, .int p0)] := hl
  refine lv_iload_n hx hb dX3_enter_0 rfl (lv_at hl 1 rfl) ?_
  refine lv_bipush (v := 63) hx hb dX3_enter_1 (by decide +kernel) ?_
  refine lv_iand hx hb dX3_enter_3 ?_
  refine lv_topi (fun y_1 ey_1 => ?_)
  obtain rfl : y_1 = nI k := ey_1.trans (ek)
  refine lv_istore_n (lv' := [(2, .int (nI k)), (0, .ref am), (1, .int p0)]) hx hb dX3_enter_4 rfl hl (by decide) rfl (fun ls hl => ?_)
  refine lv_aload_n hx hb dX3_enter_5 rfl (lv_at hl 1 rfl) ?_
  refine va_get (D := (dC, dI)) (ci := 2) (v := .ref ab) (C := RX3) (T := TX3) (N := 2) hx hb hts in_X3 hown hK hP 0 rfl rfl 1 (by decide) (hts _ q265) (fun _ h9 => h9) rfl dX3_enter_6 ?_
  refine lv_iload_n hx hb dX3_enter_9 rfl (lv_at hl 0 rfl) ?_
  refine va_zald hx hb hK hP 2 1 rfl rfl (vp_in_nI (by omega) (by omega)) dX3_enter_10 ?_
  refine lv_topi (fun y_2 ey_2 => ?_)
  obtain rfl : y_2 = b k := ey_2.trans (congrArg b (nI_clamp (by omega)))
  refine lv_if_eq (tgt := 16) hx hb dX3_enter_11 (by decide) (fun c11 => ?_) (fun c11 => ?_)
  · refine lv_aload_n hx hb dX3_enter_16 rfl (lv_at hl 1 rfl) ?_
    refine va_get (D := (dC, dI)) (ci := 2) (v := .ref ab) (C := RX3) (T := TX3) (N := 2) hx hb hts in_X3 hown hK hP 0 rfl rfl 1 (by decide) (hts _ q265) (fun _ h9 => h9) rfl dX3_enter_17 ?_
    refine lv_iload_n hx hb dX3_enter_20 rfl (lv_at hl 0 rfl) ?_
    refine lv_iconst (v := 1) hx hb dX3_enter_21 (by decide +kernel) ?_
    refine va_zast hx hb hK hP hD hS 2 1 rfl rfl (vp_in_nI (by omega) (by omega)) dX3_enter_22 (fun H locs hP hD hS => ?_)
    rw [nI_clamp (n := k) (by omega), show vp_nar .boolean 1 = 1 from by decide +kernel] at hP hD
    have hP : va_P (dC, dI) vwCl [(am, .inr (2, [.ref av, .ref ab])), (av, .inl (dV, 64, .inl v)), (ab, .inl (dB, 64, .inl (upd b k 1)))] H := hP
    have hD : va_D A [(am, .inr (2, [.ref av, .ref ab])), (av, .inl (dV, 64, .inl v)), (ab, .inl (dB, 64, .inl (upd b k 1)))] := hD
    refine lv_iconst (v := 1) hx hb dX3_enter_23 (by decide +kernel) ?_
    have hP9 := hP.sub (ws' := [(am, .inr (2, [.ref av, .ref ab])), (av, .inl (dV, 64, .inl v)), (ab, .inl (dB, 64, .inl (upd b k 1)))]) [0, 1, 2] rfl
    have hD9 := hD.sub (ws' := [(am, .inr (2, [.ref av, .ref ab])), (av, .inl (dV, 64, .inl v)), (ab, .inl (dB, 64, .inl (upd b k 1)))]) [0, 1, 2] (by decide) rfl
    have hK9 := hK.sub (tys' := [(dV, .int), (dB, .boolean)]) [0, 1] rfl
    exact W.zret (v := 1) hx hb hr rfl (fun t ht hW => ⟨⟨1, (upd b k 1), rfl, ⟨(if_pos c11).symm, (if_pos c11).symm⟩, by rw [ht]; exact hP9, va_K.moved hW.alike hK9, hD9⟩, hS.F ht⟩) hS.2.2 dX3_enter_24
  · refine lv_iconst (v := 0) hx hb dX3_enter_14 (by decide +kernel) ?_
    have hP9 := hP.sub (ws' := [(am, .inr (2, [.ref av, .ref ab])), (av, .inl (dV, 64, .inl v)), (ab, .inl (dB, 64, .inl b))]) [0, 1, 2] rfl
    have hD9 := hD.sub (ws' := [(am, .inr (2, [.ref av, .ref ab])), (av, .inl (dV, 64, .inl v)), (ab, .inl (dB, 64, .inl b))]) [0, 1, 2] (by decide) rfl
    have hK9 := hK.sub (tys' := [(dV, .int), (dB, .boolean)]) [0, 1] rfl
    exact W.zret (v := 0) hx hb hr rfl (fun t ht hW => ⟨⟨0, b, rfl, ⟨(if_neg c11).symm, (if_neg c11).symm⟩, by rw [ht]; exact hP9, va_K.moved hW.alike hK9, hD9⟩, hS.F ht⟩) hS.2.2 dX3_enter_15
set_option maxHeartbeats 4000000 in
set_option maxRecDepth 100000 in
/-- least() -/
theorem metX3_least (l : Launch) (dC : Nat → ClassId) (dI : Nat → Nat → Nat) (am : Nat) (av : Nat) (ab : Nat) (dV : ClassId) (dB : ClassId) (v : Nat → Int32) (b : Nat → Int32) (sz : Nat)  : Met l yX3_least (ws_ yX3_least cX3_least 1 (some .int)) ({ frames := 1, cells := 0, slots := 0, locals := 22 }) (va_Pc [.ref am] (fun U => U.heap.size = sz ∧ va_P (dC, dI) vwCl [(am, .inr (2, [.ref av, .ref ab])), (av, .inl (dV, 64, .inl v)), (ab, .inl (dB, 64, .inl b))] U.heap ∧ va_K (dC, dI) vwCl [(dV, .int), (dB, .boolean)] U ∧ va_D (fun _ => True) [(am, .inr (2, [.ref av, .ref ab])), (av, .inl (dV, 64, .inl v)), (ab, .inl (dB, 64, .inl b))])) (va_Qi (fun (r : Int32) (u : Unit) => r = sd_lp v b 64) (fun (u : Unit) (t : State) => va_P (dC, dI) vwCl [(am, .inr (2, [.ref av, .ref ab])), (av, .inl (dV, 64, .inl v)), (ab, .inl (dB, 64, .inl b))] t.heap ∧ va_K (dC, dI) vwCl [(dV, .int), (dB, .boolean)] t ∧ va_D (va_A [(am, .inr (2, [.ref av, .ref ab])), (av, .inl (dV, 64, .inl v)), (ab, .inl (dB, 64, .inl b))] sz) [(am, .inr (2, [.ref av, .ref ab])), (av, .inl (dV, 64, .inl v)), (ab, .inl (dB, 64, .inl b))]) (va_A [(am, .inr (2, [.ref av, .ref ab])), (av, .inl (dV, 64, .inl v)), (ab, .inl (dB, 64, .inl b))] sz)) 0 0 (va_A [(am, .inr (2, [.ref av, .ref ab])), (av, .inl (dV, 64, .inl v)), (ab, .inl (dB, 64, .inl b))] sz) := by
  refine Met.ofW (cc := cX3_least) (maxL := 1) (ret := (some .int)) (by decide) rfl ?_
  intro p e s m args below meth c s₁ B hml hvv
  obtain ⟨rfl, hsz, hP, hK, hD0⟩ := hvv
  have hx := B.exec
  have hb := B.bytes
  have hr := B.returns
  have hts := atoms_spec (ws := (ws_ yX3_least cX3_least 1 (some .int))) B.pre
  have hts : ∀ w ∈ lw_all, w.before _ s = true := fun w h => hts w (List.mem_cons_of_mem _ h)
  have hown : s.vm.findClass RX3 = some m.cls := findClass_of_methodNamed B.named
  have hlocks := B.notSynchronized
  subst hsz
  have hD := hD0.self (sz := s.heap.size)
  generalize hAe : va_A [(am, .inr (2, [.ref av, .ref ab])), (av, .inl (dV, 64, .inl v)), (ab, .inl (dB, 64, .inl b))] s.heap.size = A at hD ⊢
  have hA : ∀ q : Nat, s.heap.size ≤ q → A q := fun q h => by rw [← hAe]; exact Or.inr h
  have hS : va_S A s.heap s.heap [] := va_S.rf
  have hP : va_P (dC, dI) vwCl [(am, .inr (2, [.ref av, .ref ab])), (av, .inl (dV, 64, .inl v)), (ab, .inl (dB, 64, .inl b))] s.heap := hP
  have hl := lv_entry ([.ref am]) (n := 1) (Nat.le_of_ble_eq_true rfl)
  rw [lg_entry_eq]
  generalize (lg_sl ([.ref am]) ++ List.replicate (1 - (lg_sl ([.ref am])).length) Slot.unset).toArray = ls at hl ⊢
  have hl : lv_has ls 1 [(0, .ref am)] := hl
  refine lv_aload_n hx hb dX3_least_0 rfl (lv_at hl 0 rfl) ?_
  have hPc := hP.sub (ws' := [(am, .inr (2, [.ref av, .ref ab])), (av, .inl (dV, 64, .inl v)), (ab, .inl (dB, 64, .inl b))]) [0, 1, 2] rfl
  have hDc := hD.sub (ws' := [(am, .inr (2, [.ref av, .ref ab])), (av, .inl (dV, 64, .inl v)), (ab, .inl (dB, 64, .inl b))]) [0, 1, 2] (by decide) rfl
  have hKc := hK.sub (tys' := [(dV, .int), (dB, .boolean)]) [0, 1] rfl
  have hFc := va_free (wc := [(am, .inr (2, [.ref av, .ref ab])), (av, .inl (dV, 64, .inl v)), (ab, .inl (dB, 64, .inl b))]) hD hS hA [0, 1, 2] rfl
  refine va_calli (va_runV (As := []) (rest := []) ⟨hx, hb, hml, hown, hts⟩ (metX3_leastPlace l dC dI am av ab dV dB v b s.heap.size ) (cwV 0 hts (lw_V q286 q288 qs1 q6 q289) rfl rfl rfl (by decide +kernel) ⟨Nat.le_of_ble_eq_true rfl, Nat.le_of_ble_eq_true rfl⟩) ⟨fun a U g mk q => by obtain ⟨q0, q1, qP, qK, qD⟩ := q; exact ⟨q0, q1, qP, va_K.moved (u := U) (U := U.calling g mk a) (Vm.Alike.refl U.vm) qK, qD⟩, va_recv hKc hPc (ci := 2) (q0 := 0) rfl rfl, fun U hU hW => ⟨rfl, by rw [hU], by rw [hU]; exact hPc, va_K.moved hW.alike hKc, hDc.weaken (fun _ _ _ _ => trivial)⟩⟩ rfl rfl hl.1 rfl (lv_room (Nat.le_of_ble_eq_true rfl)) dX3_least_1 ⟨Nat.le_of_ble_eq_true rfl, Nat.le_of_ble_eq_true rfl⟩) hS (fun q _ h => hFc q h) hFc (fun r1 u t H1 locs ht hvm hwq hB hz1 hk1 hS => ?_)
  have hw : r1 = sd_lp v b 64 := hwq
  subst hw
  obtain ⟨hP1, hK1, hD1⟩ := hB
  rw [ht] at hP1
  obtain ⟨hP, hD⟩ := va_join (wr := []) (w1 := [(am, .inr (2, [.ref av, .ref ab])), (av, .inl (dV, 64, .inl v)), (ab, .inl (dB, 64, .inl b))]) hP hD [0, 1, 2] [] rfl rfl (by decide) (by decide) hk1 hFc hP1 hD1
  generalize H1 = H at hP hS ⊢
  have hP : va_P (dC, dI) vwCl [(am, .inr (2, [.ref av, .ref ab])), (av, .inl (dV, 64, .inl v)), (ab, .inl (dB, 64, .inl b))] H := hP
  have hD : va_D A [(am, .inr (2, [.ref av, .ref ab])), (av, .inl (dV, 64, .inl v)), (ab, .inl (dB, 64, .inl b))] := hD
  have hP9 := hP.sub (ws' := [(am, .inr (2, [.ref av, .ref ab])), (av, .inl (dV, 64, .inl v)), (ab, .inl (dB, 64, .inl b))]) [0, 1, 2] rfl
  have hD9 := hD.sub (ws' := [(am, .inr (2, [.ref av, .ref ab])), (av, .inl (dV, 64, .inl v)), (ab, .inl (dB, 64, .inl b))]) [0, 1, 2] (by decide) rfl
  have hK9 := hK.sub (tys' := [(dV, .int), (dB, .boolean)]) [0, 1] rfl
  exact W.iret (v := (sd_lp v b 64)) hx hb hr (fun t ht hW => ⟨⟨(sd_lp v b 64), (), rfl, rfl, by rw [ht]; exact hP9, va_K.moved hW.alike hK9, hD9⟩, hS.F ht⟩) hS.2.2 dX3_least_4
set_option maxHeartbeats 4000000 in
set_option maxRecDepth 100000 in
/-- take() -/
theorem metX3_take (l : Launch) (dC : Nat → ClassId) (dI : Nat → Nat → Nat) (am : Nat) (av : Nat) (ab : Nat) (dV : ClassId) (dB : ClassId) (v : Nat → Int32) (b : Nat → Int32) (sz : Nat)  : Met l yX3_take (ws_ yX3_take cX3_take 2 (some .int)) ({ frames := 1, cells := 0, slots := 0, locals := 22 }) (va_Pc [.ref am] (fun U => U.heap.size = sz ∧ va_P (dC, dI) vwCl [(am, .inr (2, [.ref av, .ref ab])), (av, .inl (dV, 64, .inl v)), (ab, .inl (dB, 64, .inl b))] U.heap ∧ va_K (dC, dI) vwCl [(dV, .int), (dB, .boolean)] U ∧ va_D (fun _ => True) [(am, .inr (2, [.ref av, .ref ab])), (av, .inl (dV, 64, .inl v)), (ab, .inl (dB, 64, .inl b))])) (va_Qi (fun (r : Int32) (u : Nat → Int32) => r = sd_lp v b 64 ∧ u = (if sd_lp v b 64 < 0 then b else upd b (sd_lp v b 64).toNatClampNeg 0)) (fun (u : Nat → Int32) (t : State) => va_P (dC, dI) vwCl [(am, .inr (2, [.ref av, .ref ab])), (av, .inl (dV, 64, .inl v)), (ab, .inl (dB, 64, .inl u))] t.heap ∧ va_K (dC, dI) vwCl [(dV, .int), (dB, .boolean)] t ∧ va_D (va_A [(am, .inr (2, [.ref av, .ref ab])), (av, .inl (dV, 64, .inl v)), (ab, .inl (dB, 64, .inl b))] sz) [(am, .inr (2, [.ref av, .ref ab])), (av, .inl (dV, 64, .inl v)), (ab, .inl (dB, 64, .inl u))]) (va_A [(am, .inr (2, [.ref av, .ref ab])), (av, .inl (dV, 64, .inl v)), (ab, .inl (dB, 64, .inl b))] sz)) 0 0 (va_A [(am, .inr (2, [.ref av, .ref ab])), (av, .inl (dV, 64, .inl v)), (ab, .inl (dB, 64, .inl b))] sz) := by
  refine Met.ofW (cc := cX3_take) (maxL := 2) (ret := (some .int)) (by decide) rfl ?_
  intro p e s m args below meth c s₁ B hml hvv
  obtain ⟨rfl, hsz, hP, hK, hD0⟩ := hvv
  have hx := B.exec
  have hb := B.bytes
  have hr := B.returns
  have hts := atoms_spec (ws := (ws_ yX3_take cX3_take 2 (some .int))) B.pre
  have hts : ∀ w ∈ lw_all, w.before _ s = true := fun w h => hts w (List.mem_cons_of_mem _ h)
  have hown : s.vm.findClass RX3 = some m.cls := findClass_of_methodNamed B.named
  have hlocks := B.notSynchronized
  subst hsz
  have hD := hD0.self (sz := s.heap.size)
  generalize hAe : va_A [(am, .inr (2, [.ref av, .ref ab])), (av, .inl (dV, 64, .inl v)), (ab, .inl (dB, 64, .inl b))] s.heap.size = A at hD ⊢
  have hA : ∀ q : Nat, s.heap.size ≤ q → A q := fun q h => by rw [← hAe]; exact Or.inr h
  have hS : va_S A s.heap s.heap [] := va_S.rf
  have hP : va_P (dC, dI) vwCl [(am, .inr (2, [.ref av, .ref ab])), (av, .inl (dV, 64, .inl v)), (ab, .inl (dB, 64, .inl b))] s.heap := hP
  have hl := lv_entry ([.ref am]) (n := 2) (Nat.le_of_ble_eq_true rfl)
  rw [lg_entry_eq]
  generalize (lg_sl ([.ref am]) ++ List.replicate (2 - (lg_sl ([.ref am])).length) Slot.unset).toArray = ls at hl ⊢
  have hl : lv_has ls 2 [(0, .ref am)] := hl
  refine lv_aload_n hx hb dX3_take_0 rfl (lv_at hl 0 rfl) ?_
  have hPc := hP.sub (ws' := [(am, .inr (2, [.ref av, .ref ab])), (av, .inl (dV, 64, .inl v)), (ab, .inl (dB, 64, .inl b))]) [0, 1, 2] rfl
  have hDc := hD.sub (ws' := [(am, .inr (2, [.ref av, .ref ab])), (av, .inl (dV, 64, .inl v)), (ab, .inl (dB, 64, .inl b))]) [0, 1, 2] (by decide) rfl
  have hKc := hK.sub (tys' := [(dV, .int), (dB, .boolean)]) [0, 1] rfl
  have hFc := va_free (wc := [(am, .inr (2, [.ref av, .ref ab])), (av, .inl (dV, 64, .inl v)), (ab, .inl (dB, 64, .inl b))]) hD hS hA [0, 1, 2] rfl
  refine va_calli (va_runV (As := []) (rest := []) ⟨hx, hb, hml, hown, hts⟩ (metX3_leastPlace l dC dI am av ab dV dB v b s.heap.size ) (cwV 0 hts (lw_V q286 q288 qs1 q6 q289) rfl rfl rfl (by decide +kernel) ⟨Nat.le_of_ble_eq_true rfl, Nat.le_of_ble_eq_true rfl⟩) ⟨fun a U g mk q => by obtain ⟨q0, q1, qP, qK, qD⟩ := q; exact ⟨q0, q1, qP, va_K.moved (u := U) (U := U.calling g mk a) (Vm.Alike.refl U.vm) qK, qD⟩, va_recv hKc hPc (ci := 2) (q0 := 0) rfl rfl, fun U hU hW => ⟨rfl, by rw [hU], by rw [hU]; exact hPc, va_K.moved hW.alike hKc, hDc.weaken (fun _ _ _ _ => trivial)⟩⟩ rfl rfl hl.1 rfl (lv_room (Nat.le_of_ble_eq_true rfl)) dX3_take_1 ⟨Nat.le_of_ble_eq_true rfl, Nat.le_of_ble_eq_true rfl⟩) hS (fun q _ h => hFc q h) hFc (fun r1 u t H1 locs ht hvm hwq hB hz1 hk1 hS => ?_)
  have hw : r1 = sd_lp v b 64 := hwq
  subst hw
  obtain ⟨hP1, hK1, hD1⟩ := hB
  rw [ht] at hP1
  obtain ⟨hP, hD⟩ := va_join (wr := []) (w1 := [(am, .inr (2, [.ref av, .ref ab])), (av, .inl (dV, 64, .inl v)), (ab, .inl (dB, 64, .inl b))]) hP hD [0, 1, 2] [] rfl rfl (by decide) (by decide) hk1 hFc hP1 hD1
  generalize H1 = H at hP hS ⊢
  have hP : va_P (dC, dI) vwCl [(am, .inr (2, [.ref av, .ref ab])), (av, .inl (dV, 64, .inl v)), (ab, .inl (dB, 64, .inl b))] H := hP
  have hD : va_D A [(am, .inr (2, [.ref av, .ref ab])), (av, .inl (dV, 64, .inl v)), (ab, .inl (dB, 64, .inl b))] := hD
  refine lv_istore_n (lv' := [(1, .int (sd_lp v b 64)), (0, .ref am)]) hx hb dX3_take_4 rfl hl (by decide) rfl (fun ls hl => ?_)
  refine lv_iload_n hx hb dX3_take_5 rfl (lv_at hl 0 rfl) ?_
  refine lv_if_lt (tgt := 16) hx hb dX3_take_6 (by decide) (fun c6 => ?_) (fun c6 => ?_)
  · refine lv_iload_n hx hb dX3_take_16 rfl (lv_at hl 0 rfl) ?_
    have hP9 := hP.sub (ws' := [(am, .inr (2, [.ref av, .ref ab])), (av, .inl (dV, 64, .inl v)), (ab, .inl (dB, 64, .inl b))]) [0, 1, 2] rfl
    have hD9 := hD.sub (ws' := [(am, .inr (2, [.ref av, .ref ab])), (av, .inl (dV, 64, .inl v)), (ab, .inl (dB, 64, .inl b))]) [0, 1, 2] (by decide) rfl
    have hK9 := hK.sub (tys' := [(dV, .int), (dB, .boolean)]) [0, 1] rfl
    exact W.iret (v := (sd_lp v b 64)) hx hb hr (fun t ht hW => ⟨⟨(sd_lp v b 64), b, rfl, ⟨rfl, (if_pos c6).symm⟩, by rw [ht]; exact hP9, va_K.moved hW.alike hK9, hD9⟩, hS.F ht⟩) hS.2.2 dX3_take_17
  · refine lv_aload_n hx hb dX3_take_9 rfl (lv_at hl 1 rfl) ?_
    refine va_get (D := (dC, dI)) (ci := 2) (v := .ref ab) (C := RX3) (T := TX3) (N := 2) hx hb hts in_X3 hown hK hP 0 rfl rfl 1 (by decide) (hts _ q265) (fun _ h9 => h9) rfl dX3_take_10 ?_
    refine lv_iload_n hx hb dX3_take_13 rfl (lv_at hl 0 rfl) ?_
    refine lv_iconst (v := 0) hx hb dX3_take_14 (by decide +kernel) ?_
    refine va_zast hx hb hK hP hD hS 2 1 rfl rfl (sd_lp_in (Nat.le_refl 64) c6) dX3_take_15 (fun H locs hP hD hS => ?_)
    rw [show vp_nar .boolean 0 = 0 from by decide +kernel] at hP hD
    have hP : va_P (dC, dI) vwCl [(am, .inr (2, [.ref av, .ref ab])), (av, .inl (dV, 64, .inl v)), (ab, .inl (dB, 64, .inl (upd b (sd_lp v b 64).toNatClampNeg 0)))] H := hP
    have hD : va_D A [(am, .inr (2, [.ref av, .ref ab])), (av, .inl (dV, 64, .inl v)), (ab, .inl (dB, 64, .inl (upd b (sd_lp v b 64).toNatClampNeg 0)))] := hD
    refine lv_iload_n hx hb dX3_take_16 rfl (lv_at hl 0 rfl) ?_
    have hP9 := hP.sub (ws' := [(am, .inr (2, [.ref av, .ref ab])), (av, .inl (dV, 64, .inl v)), (ab, .inl (dB, 64, .inl (upd b (sd_lp v b 64).toNatClampNeg 0)))]) [0, 1, 2] rfl
    have hD9 := hD.sub (ws' := [(am, .inr (2, [.ref av, .ref ab])), (av, .inl (dV, 64, .inl v)), (ab, .inl (dB, 64, .inl (upd b (sd_lp v b 64).toNatClampNeg 0)))]) [0, 1, 2] (by decide) rfl
    have hK9 := hK.sub (tys' := [(dV, .int), (dB, .boolean)]) [0, 1] rfl
    exact W.iret (v := (sd_lp v b 64)) hx hb hr (fun t ht hW => ⟨⟨(sd_lp v b 64), (upd b (sd_lp v b 64).toNatClampNeg 0), rfl, ⟨rfl, (if_neg c6).symm⟩, by rw [ht]; exact hP9, va_K.moved hW.alike hK9, hD9⟩, hS.F ht⟩) hS.2.2 dX3_take_17
set_option maxHeartbeats 4000000 in
set_option maxRecDepth 100000 in
/-- headChanged(v) -/
theorem metX3_headChanged (l : Launch) (dC : Nat → ClassId) (dI : Nat → Nat → Nat) (am : Nat) (av : Nat) (ab : Nat) (dV : ClassId) (dB : ClassId) (v : Nat → Int32) (b : Nat → Int32) (p0 : Int32) (sz : Nat)  : Met l yX3_headChanged (ws_ yX3_headChanged cX3_headChanged 3 (some .boolean)) ({ frames := 1, cells := 0, slots := 0, locals := 22 }) (va_Pc [.ref am, .int p0] (fun U => U.heap.size = sz ∧ va_P (dC, dI) vwCl [(am, .inr (2, [.ref av, .ref ab])), (av, .inl (dV, 64, .inl v)), (ab, .inl (dB, 64, .inl b))] U.heap ∧ va_K (dC, dI) vwCl [(dV, .int), (dB, .boolean)] U ∧ va_D (fun _ => True) [(am, .inr (2, [.ref av, .ref ab])), (av, .inl (dV, 64, .inl v)), (ab, .inl (dB, 64, .inl b))])) (va_Qi (fun (r : Int32) (u : Nat → Int32) => r = (if sd_lp v b 64 < 0 then 0 else 1) ∧ u = (if sd_lp v b 64 < 0 then v else upd v (sd_lp v b 64).toNatClampNeg (sd_mk p0 (sd_lp v b 64)))) (fun (u : Nat → Int32) (t : State) => va_P (dC, dI) vwCl [(am, .inr (2, [.ref av, .ref ab])), (av, .inl (dV, 64, .inl u)), (ab, .inl (dB, 64, .inl b))] t.heap ∧ va_K (dC, dI) vwCl [(dV, .int), (dB, .boolean)] t ∧ va_D (va_A [(am, .inr (2, [.ref av, .ref ab])), (av, .inl (dV, 64, .inl v)), (ab, .inl (dB, 64, .inl b))] sz) [(am, .inr (2, [.ref av, .ref ab])), (av, .inl (dV, 64, .inl u)), (ab, .inl (dB, 64, .inl b))]) (va_A [(am, .inr (2, [.ref av, .ref ab])), (av, .inl (dV, 64, .inl v)), (ab, .inl (dB, 64, .inl b))] sz)) 0 0 (va_A [(am, .inr (2, [.ref av, .ref ab])), (av, .inl (dV, 64, .inl v)), (ab, .inl (dB, 64, .inl b))] sz) := by
  refine Met.ofW (cc := cX3_headChanged) (maxL := 3) (ret := (some .boolean)) (by decide) rfl ?_
  intro p e s m args below meth c s₁ B hml hvv
  obtain ⟨rfl, hsz, hP, hK, hD0⟩ := hvv
  have hx := B.exec
  have hb := B.bytes
  have hr := B.returns
  have hts := atoms_spec (ws := (ws_ yX3_headChanged cX3_headChanged 3 (some .boolean))) B.pre
  have hts : ∀ w ∈ lw_all, w.before _ s = true := fun w h => hts w (List.mem_cons_of_mem _ h)
  have hown : s.vm.findClass RX3 = some m.cls := findClass_of_methodNamed B.named
  have hlocks := B.notSynchronized
  subst hsz
  have hD := hD0.self (sz := s.heap.size)
  generalize hAe : va_A [(am, .inr (2, [.ref av, .ref ab])), (av, .inl (dV, 64, .inl v)), (ab, .inl (dB, 64, .inl b))] s.heap.size = A at hD ⊢
  have hA : ∀ q : Nat, s.heap.size ≤ q → A q := fun q h => by rw [← hAe]; exact Or.inr h
  have hS : va_S A s.heap s.heap [] := va_S.rf
  have hP : va_P (dC, dI) vwCl [(am, .inr (2, [.ref av, .ref ab])), (av, .inl (dV, 64, .inl v)), (ab, .inl (dB, 64, .inl b))] s.heap := hP
  have hl := lv_entry ([.ref am, .int p0]) (n := 3) (Nat.le_of_ble_eq_true rfl)
  rw [lg_entry_eq]
  generalize (lg_sl ([.ref am, .int p0]) ++ List.replicate (3 - (lg_sl ([.ref am, .int p0])).length) Slot.unset).toArray = ls at hl ⊢
  have hl : lv_has ls 3 [(0, .ref am), (1, .int p0)] := hl
  refine lv_aload_n hx hb dX3_headChanged_0 rfl (lv_at hl 0 rfl) ?_
  have hPc := hP.sub (ws' := [(am, .inr (2, [.ref av, .ref ab])), (av, .inl (dV, 64, .inl v)), (ab, .inl (dB, 64, .inl b))]) [0, 1, 2] rfl
  have hDc := hD.sub (ws' := [(am, .inr (2, [.ref av, .ref ab])), (av, .inl (dV, 64, .inl v)), (ab, .inl (dB, 64, .inl b))]) [0, 1, 2] (by decide) rfl
  have hKc := hK.sub (tys' := [(dV, .int), (dB, .boolean)]) [0, 1] rfl
  have hFc := va_free (wc := [(am, .inr (2, [.ref av, .ref ab])), (av, .inl (dV, 64, .inl v)), (ab, .inl (dB, 64, .inl b))]) hD hS hA [0, 1, 2] rfl
  refine va_calli (va_runV (As := []) (rest := []) ⟨hx, hb, hml, hown, hts⟩ (metX3_leastPlace l dC dI am av ab dV dB v b s.heap.size ) (cwV 0 hts (lw_V q286 q288 qs1 q6 q289) rfl rfl rfl (by decide +kernel) ⟨Nat.le_of_ble_eq_true rfl, Nat.le_of_ble_eq_true rfl⟩) ⟨fun a U g mk q => by obtain ⟨q0, q1, qP, qK, qD⟩ := q; exact ⟨q0, q1, qP, va_K.moved (u := U) (U := U.calling g mk a) (Vm.Alike.refl U.vm) qK, qD⟩, va_recv hKc hPc (ci := 2) (q0 := 0) rfl rfl, fun U hU hW => ⟨rfl, by rw [hU], by rw [hU]; exact hPc, va_K.moved hW.alike hKc, hDc.weaken (fun _ _ _ _ => trivial)⟩⟩ rfl rfl hl.1 rfl (lv_room (Nat.le_of_ble_eq_true rfl)) dX3_headChanged_1 ⟨Nat.le_of_ble_eq_true rfl, Nat.le_of_ble_eq_true rfl⟩) hS (fun q _ h => hFc q h) hFc (fun r1 u t H1 locs ht hvm hwq hB hz1 hk1 hS => ?_)
  have hw : r1 = sd_lp v b 64 := hwq
  subst hw
  obtain ⟨hP1, hK1, hD1⟩ := hB
  rw [ht] at hP1
  obtain ⟨hP, hD⟩ := va_join (wr := []) (w1 := [(am, .inr (2, [.ref av, .ref ab])), (av, .inl (dV, 64, .inl v)), (ab, .inl (dB, 64, .inl b))]) hP hD [0, 1, 2] [] rfl rfl (by decide) (by decide) hk1 hFc hP1 hD1
  generalize H1 = H at hP hS ⊢
  have hP : va_P (dC, dI) vwCl [(am, .inr (2, [.ref av, .ref ab])), (av, .inl (dV, 64, .inl v)), (ab, .inl (dB, 64, .inl b))] H := hP
  have hD : va_D A [(am, .inr (2, [.ref av, .ref ab])), (av, .inl (dV, 64, .inl v)), (ab, .inl (dB, 64, .inl b))] := hD
  refine lv_istore_n (lv' := [(2, .int (sd_lp v b 64)), (0, .ref am), (1, .int p0)]) hx hb dX3_headChanged_4 rfl hl (by decide) rfl (fun ls hl => ?_)
  refine lv_iload_n hx hb dX3_headChanged_5 rfl (lv_at hl 0 rfl) ?_
  refine lv_if_ge (tgt := 11) hx hb dX3_headChanged_6 (by decide) (fun c6 => ?_) (fun c6 => ?_)
  · have hneg : ¬ sd_lp v b 64 < 0 := fun q => absurd c6 (hp_lt_nle q)
    refine lv_aload_n hx hb dX3_headChanged_11 rfl (lv_at hl 1 rfl) ?_
    refine va_get (D := (dC, dI)) (ci := 2) (v := .ref av) (C := RX3) (T := TX3) (N := 2) hx hb hts in_X3 hown hK hP 0 rfl rfl 0 (by decide) (hts _ q264) (fun _ h9 => h9) rfl dX3_headChanged_12 ?_
    refine lv_iload_n hx hb dX3_headChanged_15 rfl (lv_at hl 0 rfl) ?_
    refine lv_iload_n hx hb dX3_headChanged_16 rfl (lv_at hl 2 rfl) ?_
    refine lv_iload_n hx hb dX3_headChanged_17 rfl (lv_at hl 0 rfl) ?_
    have hPc := hP.sub (ws' := []) [] rfl
    have hDc := hD.sub (ws' := []) [] (by decide) rfl
    have hKc := hK.sub (tys' := []) [] rfl
    have hFc := va_free (wc := []) hD hS hA [] rfl
    refine va_calli (va_runS (As := [.int p0, .int (sd_lp v b 64)]) (rest := [.int (sd_lp v b 64), .ref av]) ⟨hx, hb, hml, hown, hts⟩ (metX3_marked l dC dI p0 (sd_lp v b 64) H.size ) (va_cwS 2 hts (lw_S q275 q276 q6 q277) rfl rfl rfl (by decide +kernel) ⟨Nat.le_of_ble_eq_true rfl, Nat.le_of_ble_eq_true rfl⟩) ⟨fun a U g mk q => by obtain ⟨q0, q1, qP, qK, qD⟩ := q; exact ⟨q0, q1, qP, va_K.moved (u := U) (U := U.calling g mk a) (Vm.Alike.refl U.vm) qK, qD⟩, fun U hU hW => ⟨rfl, by rw [hU], by rw [hU]; exact hPc, va_K.moved hW.alike hKc, hDc.weaken (fun _ _ _ _ => trivial)⟩⟩ rfl rfl hl.1 rfl (lv_room (Nat.le_of_ble_eq_true rfl)) dX3_headChanged_18 ⟨Nat.le_of_ble_eq_true rfl, Nat.le_of_ble_eq_true rfl⟩) hS (fun q _ h => hFc q h) hFc (fun r1 u t H1 locs ht hvm hwq hB hz1 hk1 hS => ?_)
    have hw : r1 = sd_mk p0 (sd_lp v b 64) := hwq
    subst hw
    obtain ⟨hP1, hK1, hD1⟩ := hB
    rw [ht] at hP1
    obtain ⟨hP, hD⟩ := va_join (wr := [(am, .inr (2, [.ref av, .ref ab])), (av, .inl (dV, 64, .inl v)), (ab, .inl (dB, 64, .inl b))]) (w1 := []) hP hD [] [0, 1, 2] rfl rfl (by decide) (by decide) hk1 hFc hP1 hD1
    generalize H1 = H at hP hS ⊢
    have hP : va_P (dC, dI) vwCl [(am, .inr (2, [.ref av, .ref ab])), (av, .inl (dV, 64, .inl v)), (ab, .inl (dB, 64, .inl b))] H := hP
    have hD : va_D A [(am, .inr (2, [.ref av, .ref ab])), (av, .inl (dV, 64, .inl v)), (ab, .inl (dB, 64, .inl b))] := hD
    refine va_iast hx hb hK hP hD hS 1 0 rfl rfl (sd_lp_in (Nat.le_refl 64) hneg) dX3_headChanged_21 (fun H locs hP hD hS => ?_)
    have hP : va_P (dC, dI) vwCl [(am, .inr (2, [.ref av, .ref ab])), (av, .inl (dV, 64, .inl (upd v (sd_lp v b 64).toNatClampNeg (sd_mk p0 (sd_lp v b 64))))), (ab, .inl (dB, 64, .inl b))] H := hP
    have hD : va_D A [(am, .inr (2, [.ref av, .ref ab])), (av, .inl (dV, 64, .inl (upd v (sd_lp v b 64).toNatClampNeg (sd_mk p0 (sd_lp v b 64))))), (ab, .inl (dB, 64, .inl b))] := hD
    refine lv_iconst (v := 1) hx hb dX3_headChanged_22 (by decide +kernel) ?_
    have hP9 := hP.sub (ws' := [(am, .inr (2, [.ref av, .ref ab])), (av, .inl (dV, 64, .inl (upd v (sd_lp v b 64).toNatClampNeg (sd_mk p0 (sd_lp v b 64))))), (ab, .inl (dB, 64, .inl b))]) [0, 1, 2] rfl
    have hD9 := hD.sub (ws' := [(am, .inr (2, [.ref av, .ref ab])), (av, .inl (dV, 64, .inl (upd v (sd_lp v b 64).toNatClampNeg (sd_mk p0 (sd_lp v b 64))))), (ab, .inl (dB, 64, .inl b))]) [0, 1, 2] (by decide) rfl
    have hK9 := hK.sub (tys' := [(dV, .int), (dB, .boolean)]) [0, 1] rfl
    exact W.zret (v := 1) hx hb hr rfl (fun t ht hW => ⟨⟨1, (upd v (sd_lp v b 64).toNatClampNeg (sd_mk p0 (sd_lp v b 64))), rfl, ⟨(if_neg hneg).symm, (if_neg hneg).symm⟩, by rw [ht]; exact hP9, va_K.moved hW.alike hK9, hD9⟩, hS.F ht⟩) hS.2.2 dX3_headChanged_23
  · have hneg : sd_lp v b 64 < 0 := hp_i_lt c6
    refine lv_iconst (v := 0) hx hb dX3_headChanged_9 (by decide +kernel) ?_
    have hP9 := hP.sub (ws' := [(am, .inr (2, [.ref av, .ref ab])), (av, .inl (dV, 64, .inl v)), (ab, .inl (dB, 64, .inl b))]) [0, 1, 2] rfl
    have hD9 := hD.sub (ws' := [(am, .inr (2, [.ref av, .ref ab])), (av, .inl (dV, 64, .inl v)), (ab, .inl (dB, 64, .inl b))]) [0, 1, 2] (by decide) rfl
    have hK9 := hK.sub (tys' := [(dV, .int), (dB, .boolean)]) [0, 1] rfl
    exact W.zret (v := 0) hx hb hr rfl (fun t ht hW => ⟨⟨0, v, rfl, ⟨(if_pos hneg).symm, (if_pos hneg).symm⟩, by rw [ht]; exact hP9, va_K.moved hW.alike hK9, hD9⟩, hS.F ht⟩) hS.2.2 dX3_headChanged_10
set_option maxHeartbeats 4000000 in
set_option maxRecDepth 100000 in
/-- all(step) -/
theorem metX3_all (l : Launch) (dC : Nat → ClassId) (dI : Nat → Nat → Nat) (am : Nat) (av : Nat) (ab : Nat) (dV : ClassId) (dB : ClassId) (v : Nat → Int32) (b : Nat → Int32) (p0 : Int32) (sz : Nat)  : Met l yX3_all (ws_ yX3_all cX3_all 3 none) ({ frames := 1, cells := 0, slots := 0, locals := 21 }) (va_Pc [.ref am, .int p0] (fun U => U.heap.size = sz ∧ va_P (dC, dI) vwCl [(am, .inr (2, [.ref av, .ref ab])), (av, .inl (dV, 64, .inl v)), (ab, .inl (dB, 64, .inl b))] U.heap ∧ va_K (dC, dI) vwCl [(dV, .int), (dB, .boolean)] U ∧ va_D (fun _ => True) [(am, .inr (2, [.ref av, .ref ab])), (av, .inl (dV, 64, .inl v)), (ab, .inl (dB, 64, .inl b))])) (va_Qv (fun (u : Unit) => True) (fun (u : Unit) (t : State) => va_P (dC, dI) vwCl [(am, .inr (2, [.ref av, .ref ab])), (av, .inl (dV, 64, .inl (sd_al v p0 64))), (ab, .inl (dB, 64, .inl b))] t.heap ∧ va_K (dC, dI) vwCl [(dV, .int), (dB, .boolean)] t ∧ va_D (va_A [(am, .inr (2, [.ref av, .ref ab])), (av, .inl (dV, 64, .inl v)), (ab, .inl (dB, 64, .inl b))] sz) [(am, .inr (2, [.ref av, .ref ab])), (av, .inl (dV, 64, .inl (sd_al v p0 64))), (ab, .inl (dB, 64, .inl b))]) (va_A [(am, .inr (2, [.ref av, .ref ab])), (av, .inl (dV, 64, .inl v)), (ab, .inl (dB, 64, .inl b))] sz)) 0 0 (va_A [(am, .inr (2, [.ref av, .ref ab])), (av, .inl (dV, 64, .inl v)), (ab, .inl (dB, 64, .inl b))] sz) := by
  refine Met.ofW (cc := cX3_all) (maxL := 3) (ret := none) (by decide) rfl ?_
  intro p e s m args below meth c s₁ B hml hvv
  obtain ⟨rfl, hsz, hP, hK, hD0⟩ := hvv
  have hx := B.exec
  have hb := B.bytes
  have hr := B.returns
  have hts := atoms_spec (ws := (ws_ yX3_all cX3_all 3 none)) B.pre
  have hts : ∀ w ∈ lw_all, w.before _ s = true := fun w h => hts w (List.mem_cons_of_mem _ h)
  have hown : s.vm.findClass RX3 = some m.cls := findClass_of_methodNamed B.named
  have hlocks := B.notSynchronized
  subst hsz
  have hD := hD0.self (sz := s.heap.size)
  generalize hAe : va_A [(am, .inr (2, [.ref av, .ref ab])), (av, .inl (dV, 64, .inl v)), (ab, .inl (dB, 64, .inl b))] s.heap.size = A at hD ⊢
  have hA : ∀ q : Nat, s.heap.size ≤ q → A q := fun q h => by rw [← hAe]; exact Or.inr h
  have hS : va_S A s.heap s.heap [] := va_S.rf
  have hP : va_P (dC, dI) vwCl [(am, .inr (2, [.ref av, .ref ab])), (av, .inl (dV, 64, .inl v)), (ab, .inl (dB, 64, .inl b))] s.heap := hP
  have hl := lv_entry ([.ref am, .int p0]) (n := 3) (Nat.le_of_ble_eq_true rfl)
  rw [lg_entry_eq]
  generalize (lg_sl ([.ref am, .int p0]) ++ List.replicate (3 - (lg_sl ([.ref am, .int p0])).length) Slot.unset).toArray = ls at hl ⊢
  have hl : lv_has ls 3 [(0, .ref am), (1, .int p0)] := hl
  refine lv_iconst (v := (nI 0)) hx hb dX3_all_0 (by decide +kernel) ?_
  refine lv_istore_n (lv' := [(2, .int (nI 0)), (0, .ref am), (1, .int p0)]) hx hb dX3_all_1 rfl hl (by decide) rfl (fun ls hl => ?_)
  have hP : va_P (dC, dI) vwCl [(am, .inr (2, [.ref av, .ref ab])), (av, .inl (dV, 64, .inl (sd_al v p0 0))), (ab, .inl (dB, 64, .inl b))] s.heap := by rw [sd_al_0]; exact hP
  have hD : va_D A [(am, .inr (2, [.ref av, .ref ab])), (av, .inl (dV, 64, .inl (sd_al v p0 0))), (ab, .inl (dB, 64, .inl b))] := by rw [sd_al_0]; exact hD
  refine wl_loop (σ := Nat) (fun x => 64 - x) (fun (x : Nat) (H : Heap) (locs : List Loc) (ls : Array Slot) => va_P (dC, dI) vwCl [(am, .inr (2, [.ref av, .ref ab])), (av, .inl (dV, 64, .inl (sd_al v p0 x))), (ab, .inl (dB, 64, .inl b))] H ∧ va_D A [(am, .inr (2, [.ref av, .ref ab])), (av, .inl (dV, 64, .inl (sd_al v p0 x))), (ab, .inl (dB, 64, .inl b))] ∧ va_S A s.heap H locs ∧ lv_has ls 3 [(0, .ref am), (1, .int p0), (2, .int (nI x))] ∧ (x ≤ 64)) (fun x H locs ls hI ih => ?_) (0) _ _ _ ⟨hP.sub (ws' := [(am, .inr (2, [.ref av, .ref ab])), (av, .inl (dV, 64, .inl (sd_al v p0 0))), (ab, .inl (dB, 64, .inl b))]) [0, 1, 2] rfl, hD.sub (ws' := [(am, .inr (2, [.ref av, .ref ab])), (av, .inl (dV, 64, .inl (sd_al v p0 0))), (ab, .inl (dB, 64, .inl b))]) [0, 1, 2] (by decide) rfl, hS, lv_sub hl [1, 2, 0] rfl, Nat.zero_le 64⟩
  obtain ⟨i, ei⟩ : ∃ y, y = x := ⟨_, rfl⟩
  subst ei
  obtain ⟨hP, hD, hS, hl, hI⟩ := hI
  have hP : va_P (dC, dI) vwCl [(am, .inr (2, [.ref av, .ref ab])), (av, .inl (dV, 64, .inl (sd_al v p0 i))), (ab, .inl (dB, 64, .inl b))] H := hP
  have hD : va_D A [(am, .inr (2, [.ref av, .ref ab])), (av, .inl (dV, 64, .inl (sd_al v p0 i))), (ab, .inl (dB, 64, .inl b))] := hD
  have hl : lv_has ls 3 [(0, .ref am), (1, .int p0), (2, .int (nI i))] := hl
  have hI : i ≤ 64 := hI
  refine lv_iload_n hx hb dX3_all_2 rfl (lv_at hl 2 rfl) ?_
  refine lv_bipush (v := (nI 64)) hx hb dX3_all_3 (by decide +kernel) ?_
  refine lv_icmp_ge (tgt := 37) hx hb dX3_all_5 (by decide) (fun c5 => ?_) (fun c5 => ?_)
  · obtain rfl : i = 64 := by
      have q : 64 ≤ i := (nI_leI (by omega) (by omega)).mp c5
      omega
    have hP9 := hP.sub (ws' := [(am, .inr (2, [.ref av, .ref ab])), (av, .inl (dV, 64, .inl (sd_al v p0 64))), (ab, .inl (dB, 64, .inl b))]) [0, 1, 2] rfl
    have hD9 := hD.sub (ws' := [(am, .inr (2, [.ref av, .ref ab])), (av, .inl (dV, 64, .inl (sd_al v p0 64))), (ab, .inl (dB, 64, .inl b))]) [0, 1, 2] (by decide) rfl
    have hK9 := hK.sub (tys' := [(dV, .int), (dB, .boolean)]) [0, 1] rfl
    exact W.vret hx hb hr (fun t ht hW => ⟨⟨(), rfl, trivial, by rw [ht]; exact hP9, va_K.moved hW.alike hK9, hD9⟩, hS.F ht⟩) hS.2.2 dX3_all_37
  · have hlt : i < 64 := by
      rcases Nat.lt_or_ge i 64 with q | q
      · exact q
      · exact absurd (nI_le q (by omega)) c5
    refine lv_aload_n hx hb dX3_all_8 rfl (lv_at hl 0 rfl) ?_
    refine va_get (D := (dC, dI)) (ci := 2) (v := .ref av) (C := RX3) (T := TX3) (N := 2) hx hb hts in_X3 hown hK hP 0 rfl rfl 0 (by decide) (hts _ q264) (fun _ h9 => h9) rfl dX3_all_9 ?_
    refine lv_iload_n hx hb dX3_all_12 rfl (lv_at hl 2 rfl) ?_
    refine lv_aload_n hx hb dX3_all_13 rfl (lv_at hl 0 rfl) ?_
    refine va_get (D := (dC, dI)) (ci := 2) (v := .ref av) (C := RX3) (T := TX3) (N := 2) hx hb hts in_X3 hown hK hP 0 rfl rfl 0 (by decide) (hts _ q264) (fun _ h9 => h9) rfl dX3_all_14 ?_
    refine lv_iload_n hx hb dX3_all_17 rfl (lv_at hl 2 rfl) ?_
    refine va_iald hx hb hK hP 1 0 rfl rfl (vp_in_nI (by omega) (by omega)) dX3_all_18 ?_
    refine lv_topi (fun y_1 ey_1 => ?_)
    obtain rfl : y_1 = v i := ey_1.trans ((congrArg (sd_al v p0 i) (nI_clamp (by omega))).trans (sd_al_r v p0 i))
    refine lv_iload_n hx hb dX3_all_19 rfl (lv_at hl 1 rfl) ?_
    refine lv_iload_n hx hb dX3_all_20 rfl (lv_at hl 2 rfl) ?_
    refine lv_imul hx hb dX3_all_21 ?_
    refine lv_bipush (v := 64) hx hb dX3_all_22 (by decide +kernel) ?_
    refine lv_imul hx hb dX3_all_24 ?_
    refine lv_iadd hx hb dX3_all_25 ?_
    refine lv_iload_n hx hb dX3_all_26 rfl (lv_at hl 2 rfl) ?_
    have hPc := hP.sub (ws' := []) [] rfl
    have hDc := hD.sub (ws' := []) [] (by decide) rfl
    have hKc := hK.sub (tys' := []) [] rfl
    have hFc := va_free (wc := []) hD hS hA [] rfl
    refine va_calli (va_runS (As := [.int ((v i) + ((p0 * (nI i)) * 64)), .int (nI i)]) (rest := [.int (nI i), .ref av]) ⟨hx, hb, hml, hown, hts⟩ (metX3_marked l dC dI ((v i) + ((p0 * (nI i)) * 64)) (nI i) H.size ) (va_cwS 2 hts (lw_S q275 q276 q6 q277) rfl rfl rfl (by decide +kernel) ⟨Nat.le_of_ble_eq_true rfl, Nat.le_of_ble_eq_true rfl⟩) ⟨fun a U g mk q => by obtain ⟨q0, q1, qP, qK, qD⟩ := q; exact ⟨q0, q1, qP, va_K.moved (u := U) (U := U.calling g mk a) (Vm.Alike.refl U.vm) qK, qD⟩, fun U hU hW => ⟨rfl, by rw [hU], by rw [hU]; exact hPc, va_K.moved hW.alike hKc, hDc.weaken (fun _ _ _ _ => trivial)⟩⟩ rfl rfl hl.1 rfl (lv_room (Nat.le_of_ble_eq_true rfl)) dX3_all_27 ⟨Nat.le_of_ble_eq_true rfl, Nat.le_of_ble_eq_true rfl⟩) hS (fun q _ h => hFc q h) hFc (fun r1 u t H1 locs ht hvm hwq hB hz1 hk1 hS => ?_)
    have hw : r1 = sd_mk ((v i) + ((p0 * (nI i)) * 64)) (nI i) := hwq
    subst hw
    obtain ⟨hP1, hK1, hD1⟩ := hB
    rw [ht] at hP1
    obtain ⟨hP, hD⟩ := va_join (wr := [(am, .inr (2, [.ref av, .ref ab])), (av, .inl (dV, 64, .inl (sd_al v p0 i))), (ab, .inl (dB, 64, .inl b))]) (w1 := []) hP hD [] [0, 1, 2] rfl rfl (by decide) (by decide) hk1 hFc hP1 hD1
    generalize H1 = H at hP hS ⊢
    have hP : va_P (dC, dI) vwCl [(am, .inr (2, [.ref av, .ref ab])), (av, .inl (dV, 64, .inl (sd_al v p0 i))), (ab, .inl (dB, 64, .inl b))] H := hP
    have hD : va_D A [(am, .inr (2, [.ref av, .ref ab])), (av, .inl (dV, 64, .inl (sd_al v p0 i))), (ab, .inl (dB, 64, .inl b))] := hD
    refine va_iast hx hb hK hP hD hS 1 0 rfl rfl (vp_in_nI (by omega) (by omega)) dX3_all_30 (fun H locs hP hD hS => ?_)
    rw [nI_clamp (n := i) (by omega)] at hP hD
    rw [show upd (sd_al v p0 i) i (sd_mk ((v i) + ((p0 * (nI i)) * 64)) (nI i)) = sd_al v p0 (i + 1) from sd_al_s v p0 i] at hP hD
    have hP : va_P (dC, dI) vwCl [(am, .inr (2, [.ref av, .ref ab])), (av, .inl (dV, 64, .inl (sd_al v p0 (i + 1)))), (ab, .inl (dB, 64, .inl b))] H := hP
    have hD : va_D A [(am, .inr (2, [.ref av, .ref ab])), (av, .inl (dV, 64, .inl (sd_al v p0 (i + 1)))), (ab, .inl (dB, 64, .inl b))] := hD
    refine lv_iinc (v := nI (i + 1)) (lv' := [(2, .int (nI (i + 1))), (0, .ref am), (1, .int p0)]) hx hb dX3_all_31 hl (k := 2) rfl (by rw [← nI_1]; rfl) (by decide) rfl (fun ls hl => ?_)
    refine lv_goto (tgt := 2) hx hb dX3_all_34 (by decide) ?_
    exact ih ((i + 1)) _ _ _ (by first | omega | (dsimp only; omega)) ⟨hP.sub (ws' := [(am, .inr (2, [.ref av, .ref ab])), (av, .inl (dV, 64, .inl (sd_al v p0 (i + 1)))), (ab, .inl (dB, 64, .inl b))]) [0, 1, 2] rfl, hD.sub (ws' := [(am, .inr (2, [.ref av, .ref ab])), (av, .inl (dV, 64, .inl (sd_al v p0 (i + 1)))), (ab, .inl (dB, 64, .inl b))]) [0, 1, 2] (by decide) rfl, hS, lv_sub hl [1, 2, 0] rfl, by omega⟩
set_option maxHeartbeats 4000000 in
set_option maxRecDepth 100000 in
/-- front() -/
theorem metX3_front (l : Launch) (dC : Nat → ClassId) (dI : Nat → Nat → Nat) (am : Nat) (av : Nat) (ab : Nat) (dV : ClassId) (dB : ClassId) (v : Nat → Int32) (b : Nat → Int32) (sz : Nat)  : Met l yX3_front (ws_ yX3_front cX3_front 4 (some .int)) ({ frames := 1, cells := 0, slots := 0, locals := 22 }) (va_Pc [.ref am] (fun U => U.heap.size = sz ∧ va_P (dC, dI) vwCl [(am, .inr (2, [.ref av, .ref ab])), (av, .inl (dV, 64, .inl v)), (ab, .inl (dB, 64, .inl b))] U.heap ∧ va_K (dC, dI) vwCl [(dV, .int), (dB, .boolean)] U ∧ va_D (fun _ => True) [(am, .inr (2, [.ref av, .ref ab])), (av, .inl (dV, 64, .inl v)), (ab, .inl (dB, 64, .inl b))])) (va_Qi (fun (r : Int32) (u : Unit) => r = (if sd_lp v b 64 < 0 then 0 else 100 * nI (sd_mn v b (sd_lp v b 64) 64) + sd_lp v b 64)) (fun (u : Unit) (t : State) => va_P (dC, dI) vwCl [(am, .inr (2, [.ref av, .ref ab])), (av, .inl (dV, 64, .inl v)), (ab, .inl (dB, 64, .inl b))] t.heap ∧ va_K (dC, dI) vwCl [(dV, .int), (dB, .boolean)] t ∧ va_D (va_A [(am, .inr (2, [.ref av, .ref ab])), (av, .inl (dV, 64, .inl v)), (ab, .inl (dB, 64, .inl b))] sz) [(am, .inr (2, [.ref av, .ref ab])), (av, .inl (dV, 64, .inl v)), (ab, .inl (dB, 64, .inl b))]) (va_A [(am, .inr (2, [.ref av, .ref ab])), (av, .inl (dV, 64, .inl v)), (ab, .inl (dB, 64, .inl b))] sz)) 0 0 (va_A [(am, .inr (2, [.ref av, .ref ab])), (av, .inl (dV, 64, .inl v)), (ab, .inl (dB, 64, .inl b))] sz) := by
  refine Met.ofW (cc := cX3_front) (maxL := 4) (ret := (some .int)) (by decide) rfl ?_
  intro p e s m args below meth c s₁ B hml hvv
  obtain ⟨rfl, hsz, hP, hK, hD0⟩ := hvv
  have hx := B.exec
  have hb := B.bytes
  have hr := B.returns
  have hts := atoms_spec (ws := (ws_ yX3_front cX3_front 4 (some .int))) B.pre
  have hts : ∀ w ∈ lw_all, w.before _ s = true := fun w h => hts w (List.mem_cons_of_mem _ h)
  have hown : s.vm.findClass RX3 = some m.cls := findClass_of_methodNamed B.named
  have hlocks := B.notSynchronized
  subst hsz
  have hD := hD0.self (sz := s.heap.size)
  generalize hAe : va_A [(am, .inr (2, [.ref av, .ref ab])), (av, .inl (dV, 64, .inl v)), (ab, .inl (dB, 64, .inl b))] s.heap.size = A at hD ⊢
  have hA : ∀ q : Nat, s.heap.size ≤ q → A q := fun q h => by rw [← hAe]; exact Or.inr h
  have hS : va_S A s.heap s.heap [] := va_S.rf
  have hP : va_P (dC, dI) vwCl [(am, .inr (2, [.ref av, .ref ab])), (av, .inl (dV, 64, .inl v)), (ab, .inl (dB, 64, .inl b))] s.heap := hP
  have hl := lv_entry ([.ref am]) (n := 4) (Nat.le_of_ble_eq_true rfl)
  rw [lg_entry_eq]
  generalize (lg_sl ([.ref am]) ++ List.replicate (4 - (lg_sl ([.ref am])).length) Slot.unset).toArray = ls at hl ⊢
  have hl : lv_has ls 4 [(0, .ref am)] := hl
  refine lv_aload_n hx hb dX3_front_0 rfl (lv_at hl 0 rfl) ?_
  have hPc := hP.sub (ws' := [(am, .inr (2, [.ref av, .ref ab])), (av, .inl (dV, 64, .inl v)), (ab, .inl (dB, 64, .inl b))]) [0, 1, 2] rfl
  have hDc := hD.sub (ws' := [(am, .inr (2, [.ref av, .ref ab])), (av, .inl (dV, 64, .inl v)), (ab, .inl (dB, 64, .inl b))]) [0, 1, 2] (by decide) rfl
  have hKc := hK.sub (tys' := [(dV, .int), (dB, .boolean)]) [0, 1] rfl
  have hFc := va_free (wc := [(am, .inr (2, [.ref av, .ref ab])), (av, .inl (dV, 64, .inl v)), (ab, .inl (dB, 64, .inl b))]) hD hS hA [0, 1, 2] rfl
  refine va_calli (va_runV (As := []) (rest := []) ⟨hx, hb, hml, hown, hts⟩ (metX3_leastPlace l dC dI am av ab dV dB v b s.heap.size ) (cwV 0 hts (lw_V q286 q288 qs1 q6 q289) rfl rfl rfl (by decide +kernel) ⟨Nat.le_of_ble_eq_true rfl, Nat.le_of_ble_eq_true rfl⟩) ⟨fun a U g mk q => by obtain ⟨q0, q1, qP, qK, qD⟩ := q; exact ⟨q0, q1, qP, va_K.moved (u := U) (U := U.calling g mk a) (Vm.Alike.refl U.vm) qK, qD⟩, va_recv hKc hPc (ci := 2) (q0 := 0) rfl rfl, fun U hU hW => ⟨rfl, by rw [hU], by rw [hU]; exact hPc, va_K.moved hW.alike hKc, hDc.weaken (fun _ _ _ _ => trivial)⟩⟩ rfl rfl hl.1 rfl (lv_room (Nat.le_of_ble_eq_true rfl)) dX3_front_1 ⟨Nat.le_of_ble_eq_true rfl, Nat.le_of_ble_eq_true rfl⟩) hS (fun q _ h => hFc q h) hFc (fun r1 u t H1 locs ht hvm hwq hB hz1 hk1 hS => ?_)
  have hw : r1 = sd_lp v b 64 := hwq
  subst hw
  obtain ⟨hP1, hK1, hD1⟩ := hB
  rw [ht] at hP1
  obtain ⟨hP, hD⟩ := va_join (wr := []) (w1 := [(am, .inr (2, [.ref av, .ref ab])), (av, .inl (dV, 64, .inl v)), (ab, .inl (dB, 64, .inl b))]) hP hD [0, 1, 2] [] rfl rfl (by decide) (by decide) hk1 hFc hP1 hD1
  generalize H1 = H at hP hS ⊢
  have hP : va_P (dC, dI) vwCl [(am, .inr (2, [.ref av, .ref ab])), (av, .inl (dV, 64, .inl v)), (ab, .inl (dB, 64, .inl b))] H := hP
  have hD : va_D A [(am, .inr (2, [.ref av, .ref ab])), (av, .inl (dV, 64, .inl v)), (ab, .inl (dB, 64, .inl b))] := hD
  refine lv_istore_n (lv' := [(1, .int (sd_lp v b 64)), (0, .ref am)]) hx hb dX3_front_4 rfl hl (by decide) rfl (fun ls hl => ?_)
  refine lv_iload_n hx hb dX3_front_5 rfl (lv_at hl 0 rfl) ?_
  refine lv_if_ge (tgt := 11) hx hb dX3_front_6 (by decide) (fun c6 => ?_) (fun c6 => ?_)
  · have hneg : ¬ sd_lp v b 64 < 0 := fun q => absurd c6 (hp_lt_nle q)
    refine lv_iconst (v := (nI 0)) hx hb dX3_front_11 (by decide +kernel) ?_
    refine lv_istore_n (lv' := [(2, .int (nI 0)), (1, .int (sd_lp v b 64)), (0, .ref am)]) hx hb dX3_front_12 rfl hl (by decide) rfl (fun ls hl => ?_)
    refine lv_iconst (v := (nI 0)) hx hb dX3_front_13 (by decide +kernel) ?_
    refine lv_istore_n (lv' := [(3, .int (nI 0)), (2, .int (nI 0)), (1, .int (sd_lp v b 64)), (0, .ref am)]) hx hb dX3_front_14 rfl hl (by decide) rfl (fun ls hl => ?_)
    refine wl_loop (σ := Nat) (fun x => 64 - x) (fun (x : Nat) (H : Heap) (locs : List Loc) (ls : Array Slot) => va_P (dC, dI) vwCl [(am, .inr (2, [.ref av, .ref ab])), (av, .inl (dV, 64, .inl v)), (ab, .inl (dB, 64, .inl b))] H ∧ va_D A [(am, .inr (2, [.ref av, .ref ab])), (av, .inl (dV, 64, .inl v)), (ab, .inl (dB, 64, .inl b))] ∧ va_S A s.heap H locs ∧ lv_has ls 4 [(0, .ref am), (1, .int (sd_lp v b 64)), (2, .int (nI (sd_mn v b (sd_lp v b 64) x))), (3, .int (nI x))] ∧ (x ≤ 64)) (fun x H locs ls hI ih => ?_) (0) _ _ _ ⟨hP.sub (ws' := [(am, .inr (2, [.ref av, .ref ab])), (av, .inl (dV, 64, .inl v)), (ab, .inl (dB, 64, .inl b))]) [0, 1, 2] rfl, hD.sub (ws' := [(am, .inr (2, [.ref av, .ref ab])), (av, .inl (dV, 64, .inl v)), (ab, .inl (dB, 64, .inl b))]) [0, 1, 2] (by decide) rfl, hS, lv_sub hl [3, 2, 1, 0] rfl, Nat.zero_le 64⟩
    obtain ⟨i, ei⟩ : ∃ y, y = x := ⟨_, rfl⟩
    subst ei
    obtain ⟨hP, hD, hS, hl, hI⟩ := hI
    have hP : va_P (dC, dI) vwCl [(am, .inr (2, [.ref av, .ref ab])), (av, .inl (dV, 64, .inl v)), (ab, .inl (dB, 64, .inl b))] H := hP
    have hD : va_D A [(am, .inr (2, [.ref av, .ref ab])), (av, .inl (dV, 64, .inl v)), (ab, .inl (dB, 64, .inl b))] := hD
    have hl : lv_has ls 4 [(0, .ref am), (1, .int (sd_lp v b 64)), (2, .int (nI (sd_mn v b (sd_lp v b 64) i))), (3, .int (nI i))] := hl
    have hI : i ≤ 64 := hI
    refine lv_iload_n hx hb dX3_front_15 rfl (lv_at hl 3 rfl) ?_
    refine lv_bipush (v := (nI 64)) hx hb dX3_front_16 (by decide +kernel) ?_
    refine lv_icmp_ge (tgt := 54) hx hb dX3_front_18 (by decide) (fun c18 => ?_) (fun c18 => ?_)
    · obtain rfl : i = 64 := by
        have q : 64 ≤ i := (nI_leI (by omega) (by omega)).mp c18
        omega
      refine lv_bipush (v := 100) hx hb dX3_front_54 (by decide +kernel) ?_
      refine lv_iload_n hx hb dX3_front_56 rfl (lv_at hl 2 rfl) ?_
      refine lv_imul hx hb dX3_front_57 ?_
      refine lv_iload_n hx hb dX3_front_58 rfl (lv_at hl 1 rfl) ?_
      refine lv_iadd hx hb dX3_front_59 ?_
      have hP9 := hP.sub (ws' := [(am, .inr (2, [.ref av, .ref ab])), (av, .inl (dV, 64, .inl v)), (ab, .inl (dB, 64, .inl b))]) [0, 1, 2] rfl
      have hD9 := hD.sub (ws' := [(am, .inr (2, [.ref av, .ref ab])), (av, .inl (dV, 64, .inl v)), (ab, .inl (dB, 64, .inl b))]) [0, 1, 2] (by decide) rfl
      have hK9 := hK.sub (tys' := [(dV, .int), (dB, .boolean)]) [0, 1] rfl
      exact W.iret (v := ((100 * (nI (sd_mn v b (sd_lp v b 64) 64))) + (sd_lp v b 64))) hx hb hr (fun t ht hW => ⟨⟨((100 * (nI (sd_mn v b (sd_lp v b 64) 64))) + (sd_lp v b 64)), (), rfl, (if_neg hneg).symm, by rw [ht]; exact hP9, va_K.moved hW.alike hK9, hD9⟩, hS.F ht⟩) hS.2.2 dX3_front_60
    · have hlt : i < 64 := by
        rcases Nat.lt_or_ge i 64 with q | q
        · exact q
        · exact absurd (nI_le q (by omega)) c18
      refine lv_aload_n hx hb dX3_front_21 rfl (lv_at hl 0 rfl) ?_
      refine va_get (D := (dC, dI)) (ci := 2) (v := .ref ab) (C := RX3) (T := TX3) (N := 2) hx hb hts in_X3 hown hK hP 0 rfl rfl 1 (by decide) (hts _ q265) (fun _ h9 => h9) rfl dX3_front_22 ?_
      refine lv_iload_n hx hb dX3_front_25 rfl (lv_at hl 3 rfl) ?_
      refine va_zald hx hb hK hP 2 1 rfl rfl (vp_in_nI (by omega) (by omega)) dX3_front_26 ?_
      refine lv_topi (fun y_1 ey_1 => ?_)
      obtain rfl : y_1 = b i := ey_1.trans (congrArg b (nI_clamp (by omega)))
      refine lv_if_eq (tgt := 48) hx hb dX3_front_27 (by decide) (fun c27 => ?_) (fun c27 => ?_)
      · refine lv_iinc (v := nI (i + 1)) (lv' := [(3, .int (nI (i + 1))), (0, .ref am), (1, .int (sd_lp v b 64)), (2, .int (nI (sd_mn v b (sd_lp v b 64) i)))]) hx hb dX3_front_48 hl (k := 3) rfl (by rw [← nI_1]; rfl) (by decide) rfl (fun ls hl => ?_)
        refine lv_goto (tgt := 15) hx hb dX3_front_51 (by decide) ?_
        have hl : lv_has ls 4 [(3, .int (nI (i + 1))), (0, .ref am), (1, .int (sd_lp v b 64)), (2, .int (nI (sd_mn v b (sd_lp v b 64) (i + 1))))] := by rw [sd_mn_n c27]; exact hl
        exact ih ((i + 1)) _ _ _ (by first | omega | (dsimp only; omega)) ⟨hP.sub (ws' := [(am, .inr (2, [.ref av, .ref ab])), (av, .inl (dV, 64, .inl v)), (ab, .inl (dB, 64, .inl b))]) [0, 1, 2] rfl, hD.sub (ws' := [(am, .inr (2, [.ref av, .ref ab])), (av, .inl (dV, 64, .inl v)), (ab, .inl (dB, 64, .inl b))]) [0, 1, 2] (by decide) rfl, hS, lv_sub hl [1, 2, 3, 0] rfl, by omega⟩
      · refine lv_aload_n hx hb dX3_front_30 rfl (lv_at hl 0 rfl) ?_
        refine va_get (D := (dC, dI)) (ci := 2) (v := .ref av) (C := RX3) (T := TX3) (N := 2) hx hb hts in_X3 hown hK hP 0 rfl rfl 0 (by decide) (hts _ q264) (fun _ h9 => h9) rfl dX3_front_31 ?_
        refine lv_iload_n hx hb dX3_front_34 rfl (lv_at hl 3 rfl) ?_
        refine va_iald hx hb hK hP 1 0 rfl rfl (vp_in_nI (by omega) (by omega)) dX3_front_35 ?_
        refine lv_topi (fun y_2 ey_2 => ?_)
        obtain rfl : y_2 = v i := ey_2.trans (congrArg v (nI_clamp (by omega)))
        refine lv_aload_n hx hb dX3_front_36 rfl (lv_at hl 0 rfl) ?_
        refine va_get (D := (dC, dI)) (ci := 2) (v := .ref av) (C := RX3) (T := TX3) (N := 2) hx hb hts in_X3 hown hK hP 0 rfl rfl 0 (by decide) (hts _ q264) (fun _ h9 => h9) rfl dX3_front_37 ?_
        refine lv_iload_n hx hb dX3_front_40 rfl (lv_at hl 1 rfl) ?_
        refine va_iald hx hb hK hP 1 0 rfl rfl (sd_lp_in (Nat.le_refl 64) hneg) dX3_front_41 ?_
        refine lv_icmp_ne (tgt := 48) hx hb dX3_front_42 (by decide) (fun c42 => ?_) (fun c42 => ?_)
        · refine lv_iinc (v := nI (i + 1)) (lv' := [(3, .int (nI (i + 1))), (0, .ref am), (1, .int (sd_lp v b 64)), (2, .int (nI (sd_mn v b (sd_lp v b 64) i)))]) hx hb dX3_front_48 hl (k := 3) rfl (by rw [← nI_1]; rfl) (by decide) rfl (fun ls hl => ?_)
          refine lv_goto (tgt := 15) hx hb dX3_front_51 (by decide) ?_
          have hl : lv_has ls 4 [(3, .int (nI (i + 1))), (0, .ref am), (1, .int (sd_lp v b 64)), (2, .int (nI (sd_mn v b (sd_lp v b 64) (i + 1))))] := by rw [sd_mn_k c27 c42]; exact hl
          exact ih ((i + 1)) _ _ _ (by first | omega | (dsimp only; omega)) ⟨hP.sub (ws' := [(am, .inr (2, [.ref av, .ref ab])), (av, .inl (dV, 64, .inl v)), (ab, .inl (dB, 64, .inl b))]) [0, 1, 2] rfl, hD.sub (ws' := [(am, .inr (2, [.ref av, .ref ab])), (av, .inl (dV, 64, .inl v)), (ab, .inl (dB, 64, .inl b))]) [0, 1, 2] (by decide) rfl, hS, lv_sub hl [1, 2, 3, 0] rfl, by omega⟩
        · refine lv_iinc (v := (nI (sd_mn v b (sd_lp v b 64) i + 1))) (lv' := [(2, .int (nI (sd_mn v b (sd_lp v b 64) i + 1))), (0, .ref am), (1, .int (sd_lp v b 64)), (3, .int (nI i))]) hx hb dX3_front_45 hl (k := 2) rfl (by rw [← nI_1]; rfl) (by decide) rfl (fun ls hl => ?_)
          refine lv_iinc (v := nI (i + 1)) (lv' := [(3, .int (nI (i + 1))), (2, .int (nI (sd_mn v b (sd_lp v b 64) i + 1))), (0, .ref am), (1, .int (sd_lp v b 64))]) hx hb dX3_front_48 hl (k := 3) rfl (by rw [← nI_1]; rfl) (by decide) rfl (fun ls hl => ?_)
          refine lv_goto (tgt := 15) hx hb dX3_front_51 (by decide) ?_
          have hl : lv_has ls 4 [(3, .int (nI (i + 1))), (2, .int (nI (sd_mn v b (sd_lp v b 64) (i + 1)))), (0, .ref am), (1, .int (sd_lp v b 64))] := by rw [sd_mn_y c27 c42]; exact hl
          exact ih ((i + 1)) _ _ _ (by first | omega | (dsimp only; omega)) ⟨hP.sub (ws' := [(am, .inr (2, [.ref av, .ref ab])), (av, .inl (dV, 64, .inl v)), (ab, .inl (dB, 64, .inl b))]) [0, 1, 2] rfl, hD.sub (ws' := [(am, .inr (2, [.ref av, .ref ab])), (av, .inl (dV, 64, .inl v)), (ab, .inl (dB, 64, .inl b))]) [0, 1, 2] (by decide) rfl, hS, lv_sub hl [2, 3, 1, 0] rfl, by omega⟩
  · have hneg : sd_lp v b 64 < 0 := hp_i_lt c6
    refine lv_iconst (v := 0) hx hb dX3_front_9 (by decide +kernel) ?_
    have hP9 := hP.sub (ws' := [(am, .inr (2, [.ref av, .ref ab])), (av, .inl (dV, 64, .inl v)), (ab, .inl (dB, 64, .inl b))]) [0, 1, 2] rfl
    have hD9 := hD.sub (ws' := [(am, .inr (2, [.ref av, .ref ab])), (av, .inl (dV, 64, .inl v)), (ab, .inl (dB, 64, .inl b))]) [0, 1, 2] (by decide) rfl
    have hK9 := hK.sub (tys' := [(dV, .int), (dB, .boolean)]) [0, 1] rfl
    exact W.iret (v := 0) hx hb hr (fun t ht hW => ⟨⟨0, (), rfl, (if_pos hneg).symm, by rw [ht]; exact hP9, va_K.moved hW.alike hK9, hD9⟩, hS.F ht⟩) hS.2.2 dX3_front_10
set_option maxHeartbeats 4000000 in
set_option maxRecDepth 100000 in
/-- waiting() -/
theorem metX3_waiting (l : Launch) (dC : Nat → ClassId) (dI : Nat → Nat → Nat) (am : Nat) (av : Nat) (ab : Nat) (dV : ClassId) (dB : ClassId) (v : Nat → Int32) (b : Nat → Int32) (sz : Nat)  : Met l yX3_waiting (ws_ yX3_waiting cX3_waiting 3 (some .int)) ({ frames := 0, cells := 0, slots := 0, locals := 0 }) (va_Pc [.ref am] (fun U => U.heap.size = sz ∧ va_P (dC, dI) vwCl [(am, .inr (2, [.ref av, .ref ab])), (av, .inl (dV, 64, .inl v)), (ab, .inl (dB, 64, .inl b))] U.heap ∧ va_K (dC, dI) vwCl [(dV, .int), (dB, .boolean)] U ∧ va_D (fun _ => True) [(am, .inr (2, [.ref av, .ref ab])), (av, .inl (dV, 64, .inl v)), (ab, .inl (dB, 64, .inl b))])) (va_Qi (fun (r : Int32) (u : Unit) => r = nI (sd_ct b 64)) (fun (u : Unit) (t : State) => va_P (dC, dI) vwCl [(am, .inr (2, [.ref av, .ref ab])), (av, .inl (dV, 64, .inl v)), (ab, .inl (dB, 64, .inl b))] t.heap ∧ va_K (dC, dI) vwCl [(dV, .int), (dB, .boolean)] t ∧ va_D (va_A [(am, .inr (2, [.ref av, .ref ab])), (av, .inl (dV, 64, .inl v)), (ab, .inl (dB, 64, .inl b))] sz) [(am, .inr (2, [.ref av, .ref ab])), (av, .inl (dV, 64, .inl v)), (ab, .inl (dB, 64, .inl b))]) (va_A [(am, .inr (2, [.ref av, .ref ab])), (av, .inl (dV, 64, .inl v)), (ab, .inl (dB, 64, .inl b))] sz)) 0 0 (va_A [(am, .inr (2, [.ref av, .ref ab])), (av, .inl (dV, 64, .inl v)), (ab, .inl (dB, 64, .inl b))] sz) := by
  refine Met.ofW (cc := cX3_waiting) (maxL := 3) (ret := (some .int)) (by decide) rfl ?_
  intro p e s m args below meth c s₁ B hml hvv
  obtain ⟨rfl, hsz, hP, hK, hD0⟩ := hvv
  have hx := B.exec
  have hb := B.bytes
  have hr := B.returns
  have hts := atoms_spec (ws := (ws_ yX3_waiting cX3_waiting 3 (some .int))) B.pre
  have hts : ∀ w ∈ lw_all, w.before _ s = true := fun w h => hts w (List.mem_cons_of_mem _ h)
  have hown : s.vm.findClass RX3 = some m.cls := findClass_of_methodNamed B.named
  have hlocks := B.notSynchronized
  subst hsz
  have hD := hD0.self (sz := s.heap.size)
  generalize hAe : va_A [(am, .inr (2, [.ref av, .ref ab])), (av, .inl (dV, 64, .inl v)), (ab, .inl (dB, 64, .inl b))] s.heap.size = A at hD ⊢
  have hA : ∀ q : Nat, s.heap.size ≤ q → A q := fun q h => by rw [← hAe]; exact Or.inr h
  have hS : va_S A s.heap s.heap [] := va_S.rf
  have hP : va_P (dC, dI) vwCl [(am, .inr (2, [.ref av, .ref ab])), (av, .inl (dV, 64, .inl v)), (ab, .inl (dB, 64, .inl b))] s.heap := hP
  have hl := lv_entry ([.ref am]) (n := 3) (Nat.le_of_ble_eq_true rfl)
  rw [lg_entry_eq]
  generalize (lg_sl ([.ref am]) ++ List.replicate (3 - (lg_sl ([.ref am])).length) Slot.unset).toArray = ls at hl ⊢
  have hl : lv_has ls 3 [(0, .ref am)] := hl
  refine lv_iconst (v := (nI 0)) hx hb dX3_waiting_0 (by decide +kernel) ?_
  refine lv_istore_n (lv' := [(1, .int (nI 0)), (0, .ref am)]) hx hb dX3_waiting_1 rfl hl (by decide) rfl (fun ls hl => ?_)
  refine lv_iconst (v := (nI 0)) hx hb dX3_waiting_2 (by decide +kernel) ?_
  refine lv_istore_n (lv' := [(2, .int (nI 0)), (1, .int (nI 0)), (0, .ref am)]) hx hb dX3_waiting_3 rfl hl (by decide) rfl (fun ls hl => ?_)
  refine wl_loop (σ := Nat) (fun x => 64 - x) (fun (x : Nat) (H : Heap) (locs : List Loc) (ls : Array Slot) => va_P (dC, dI) vwCl [(am, .inr (2, [.ref av, .ref ab])), (av, .inl (dV, 64, .inl v)), (ab, .inl (dB, 64, .inl b))] H ∧ va_D A [(am, .inr (2, [.ref av, .ref ab])), (av, .inl (dV, 64, .inl v)), (ab, .inl (dB, 64, .inl b))] ∧ va_S A s.heap H locs ∧ lv_has ls 3 [(0, .ref am), (1, .int (nI (sd_ct b x))), (2, .int (nI x))] ∧ (x ≤ 64)) (fun x H locs ls hI ih => ?_) (0) _ _ _ ⟨hP.sub (ws' := [(am, .inr (2, [.ref av, .ref ab])), (av, .inl (dV, 64, .inl v)), (ab, .inl (dB, 64, .inl b))]) [0, 1, 2] rfl, hD.sub (ws' := [(am, .inr (2, [.ref av, .ref ab])), (av, .inl (dV, 64, .inl v)), (ab, .inl (dB, 64, .inl b))]) [0, 1, 2] (by decide) rfl, hS, lv_sub hl [2, 1, 0] rfl, Nat.zero_le 64⟩
  obtain ⟨i, ei⟩ : ∃ y, y = x := ⟨_, rfl⟩
  subst ei
  obtain ⟨hP, hD, hS, hl, hI⟩ := hI
  have hP : va_P (dC, dI) vwCl [(am, .inr (2, [.ref av, .ref ab])), (av, .inl (dV, 64, .inl v)), (ab, .inl (dB, 64, .inl b))] H := hP
  have hD : va_D A [(am, .inr (2, [.ref av, .ref ab])), (av, .inl (dV, 64, .inl v)), (ab, .inl (dB, 64, .inl b))] := hD
  have hl : lv_has ls 3 [(0, .ref am), (1, .int (nI (sd_ct b i))), (2, .int (nI i))] := hl
  have hI : i ≤ 64 := hI
  refine lv_iload_n hx hb dX3_waiting_4 rfl (lv_at hl 2 rfl) ?_
  refine lv_bipush (v := (nI 64)) hx hb dX3_waiting_5 (by decide +kernel) ?_
  refine lv_icmp_ge (tgt := 28) hx hb dX3_waiting_7 (by decide) (fun c7 => ?_) (fun c7 => ?_)
  · obtain rfl : i = 64 := by
      have q : 64 ≤ i := (nI_leI (by omega) (by omega)).mp c7
      omega
    refine lv_iload_n hx hb dX3_waiting_28 rfl (lv_at hl 1 rfl) ?_
    have hP9 := hP.sub (ws' := [(am, .inr (2, [.ref av, .ref ab])), (av, .inl (dV, 64, .inl v)), (ab, .inl (dB, 64, .inl b))]) [0, 1, 2] rfl
    have hD9 := hD.sub (ws' := [(am, .inr (2, [.ref av, .ref ab])), (av, .inl (dV, 64, .inl v)), (ab, .inl (dB, 64, .inl b))]) [0, 1, 2] (by decide) rfl
    have hK9 := hK.sub (tys' := [(dV, .int), (dB, .boolean)]) [0, 1] rfl
    exact W.iret (v := (nI (sd_ct b 64))) hx hb hr (fun t ht hW => ⟨⟨(nI (sd_ct b 64)), (), rfl, rfl, by rw [ht]; exact hP9, va_K.moved hW.alike hK9, hD9⟩, hS.F ht⟩) hS.2.2 dX3_waiting_29
  · have hlt : i < 64 := by
      rcases Nat.lt_or_ge i 64 with q | q
      · exact q
      · exact absurd (nI_le q (by omega)) c7
    refine lv_aload_n hx hb dX3_waiting_10 rfl (lv_at hl 0 rfl) ?_
    refine va_get (D := (dC, dI)) (ci := 2) (v := .ref ab) (C := RX3) (T := TX3) (N := 2) hx hb hts in_X3 hown hK hP 0 rfl rfl 1 (by decide) (hts _ q265) (fun _ h9 => h9) rfl dX3_waiting_11 ?_
    refine lv_iload_n hx hb dX3_waiting_14 rfl (lv_at hl 2 rfl) ?_
    refine va_zald hx hb hK hP 2 1 rfl rfl (vp_in_nI (by omega) (by omega)) dX3_waiting_15 ?_
    refine lv_topi (fun y_1 ey_1 => ?_)
    obtain rfl : y_1 = b i := ey_1.trans (congrArg b (nI_clamp (by omega)))
    refine lv_if_eq (tgt := 22) hx hb dX3_waiting_16 (by decide) (fun c16 => ?_) (fun c16 => ?_)
    · refine lv_iinc (v := nI (i + 1)) (lv' := [(2, .int (nI (i + 1))), (0, .ref am), (1, .int (nI (sd_ct b i)))]) hx hb dX3_waiting_22 hl (k := 2) rfl (by rw [← nI_1]; rfl) (by decide) rfl (fun ls hl => ?_)
      refine lv_goto (tgt := 4) hx hb dX3_waiting_25 (by decide) ?_
      have hl : lv_has ls 3 [(2, .int (nI (i + 1))), (0, .ref am), (1, .int (nI (sd_ct b (i + 1))))] := by rw [sd_ct_n c16]; exact hl
      exact ih ((i + 1)) _ _ _ (by first | omega | (dsimp only; omega)) ⟨hP.sub (ws' := [(am, .inr (2, [.ref av, .ref ab])), (av, .inl (dV, 64, .inl v)), (ab, .inl (dB, 64, .inl b))]) [0, 1, 2] rfl, hD.sub (ws' := [(am, .inr (2, [.ref av, .ref ab])), (av, .inl (dV, 64, .inl v)), (ab, .inl (dB, 64, .inl b))]) [0, 1, 2] (by decide) rfl, hS, lv_sub hl [1, 2, 0] rfl, by omega⟩
    · refine lv_iinc (v := (nI (sd_ct b i + 1))) (lv' := [(1, .int (nI (sd_ct b i + 1))), (0, .ref am), (2, .int (nI i))]) hx hb dX3_waiting_19 hl (k := 1) rfl (by rw [← nI_1]; rfl) (by decide) rfl (fun ls hl => ?_)
      refine lv_iinc (v := nI (i + 1)) (lv' := [(2, .int (nI (i + 1))), (1, .int (nI (sd_ct b i + 1))), (0, .ref am)]) hx hb dX3_waiting_22 hl (k := 2) rfl (by rw [← nI_1]; rfl) (by decide) rfl (fun ls hl => ?_)
      refine lv_goto (tgt := 4) hx hb dX3_waiting_25 (by decide) ?_
      have hl : lv_has ls 3 [(2, .int (nI (i + 1))), (1, .int (nI (sd_ct b (i + 1)))), (0, .ref am)] := by rw [sd_ct_y c16]; exact hl
      exact ih ((i + 1)) _ _ _ (by first | omega | (dsimp only; omega)) ⟨hP.sub (ws' := [(am, .inr (2, [.ref av, .ref ab])), (av, .inl (dV, 64, .inl v)), (ab, .inl (dB, 64, .inl b))]) [0, 1, 2] rfl, hD.sub (ws' := [(am, .inr (2, [.ref av, .ref ab])), (av, .inl (dV, 64, .inl v)), (ab, .inl (dB, 64, .inl b))]) [0, 1, 2] (by decide) rfl, hS, lv_sub hl [2, 1, 0] rfl, by omega⟩
set_option maxHeartbeats 4000000 in
set_option maxRecDepth 100000 in
/-- value(i) -/
theorem metX3_value (l : Launch) (dC : Nat → ClassId) (dI : Nat → Nat → Nat) (am : Nat) (av : Nat) (ab : Nat) (dV : ClassId) (dB : ClassId) (v : Nat → Int32) (b : Nat → Int32) (p0 : Int32) (k : Nat) (sz : Nat) (hk : k < 64) (ek : p0 &&& 63 = nI k) : Met l yX3_value (ws_ yX3_value cX3_value 2 (some .int)) ({ frames := 0, cells := 0, slots := 0, locals := 0 }) (va_Pc [.ref am, .int p0] (fun U => U.heap.size = sz ∧ va_P (dC, dI) vwCl [(am, .inr (2, [.ref av, .ref ab])), (av, .inl (dV, 64, .inl v)), (ab, .inl (dB, 64, .inl b))] U.heap ∧ va_K (dC, dI) vwCl [(dV, .int), (dB, .boolean)] U ∧ va_D (fun _ => True) [(am, .inr (2, [.ref av, .ref ab])), (av, .inl (dV, 64, .inl v)), (ab, .inl (dB, 64, .inl b))])) (va_Qi (fun (r : Int32) (u : Unit) => r = v k) (fun (u : Unit) (t : State) => va_P (dC, dI) vwCl [(am, .inr (2, [.ref av, .ref ab])), (av, .inl (dV, 64, .inl v)), (ab, .inl (dB, 64, .inl b))] t.heap ∧ va_K (dC, dI) vwCl [(dV, .int), (dB, .boolean)] t ∧ va_D (va_A [(am, .inr (2, [.ref av, .ref ab])), (av, .inl (dV, 64, .inl v)), (ab, .inl (dB, 64, .inl b))] sz) [(am, .inr (2, [.ref av, .ref ab])), (av, .inl (dV, 64, .inl v)), (ab, .inl (dB, 64, .inl b))]) (va_A [(am, .inr (2, [.ref av, .ref ab])), (av, .inl (dV, 64, .inl v)), (ab, .inl (dB, 64, .inl b))] sz)) 0 0 (va_A [(am, .inr (2, [.ref av, .ref ab])), (av, .inl (dV, 64, .inl v)), (ab, .inl (dB, 64, .inl b))] sz) := by
  refine Met.ofW (cc := cX3_value) (maxL := 2) (ret := (some .int)) (by decide) rfl ?_
  intro p e s m args below meth c s₁ B hml hvv
  obtain ⟨rfl, hsz, hP, hK, hD0⟩ := hvv
  have hx := B.exec
  have hb := B.bytes
  have hr := B.returns
  have hts := atoms_spec (ws := (ws_ yX3_value cX3_value 2 (some .int))) B.pre
  have hts : ∀ w ∈ lw_all, w.before _ s = true := fun w h => hts w (List.mem_cons_of_mem _ h)
  have hown : s.vm.findClass RX3 = some m.cls := findClass_of_methodNamed B.named
  have hlocks := B.notSynchronized
  subst hsz
  have hD := hD0.self (sz := s.heap.size)
  generalize hAe : va_A [(am, .inr (2, [.ref av, .ref ab])), (av, .inl (dV, 64, .inl v)), (ab, .inl (dB, 64, .inl b))] s.heap.size = A at hD ⊢
  have hA : ∀ q : Nat, s.heap.size ≤ q → A q := fun q h => by rw [← hAe]; exact Or.inr h
  have hS : va_S A s.heap s.heap [] := va_S.rf
  have hP : va_P (dC, dI) vwCl [(am, .inr (2, [.ref av, .ref ab])), (av, .inl (dV, 64, .inl v)), (ab, .inl (dB, 64, .inl b))] s.heap := hP
  have hl := lv_entry ([.ref am, .int p0]) (n := 2) (Nat.le_of_ble_eq_true rfl)
  rw [lg_entry_eq]
  generalize (lg_sl ([.ref am, .int p0]) ++ List.replicate (2 - (lg_sl ([.ref am, .int p0])).length) Slot.unset).toArray = ls at hl ⊢
  have hl : lv_has ls 2 [(0, .ref am), (1, .int p0)] := hl
  refine lv_aload_n hx hb dX3_value_0 rfl (lv_at hl 0 rfl) ?_
  refine va_get (D := (dC, dI)) (ci := 2) (v := .ref av) (C := RX3) (T := TX3) (N := 2) hx hb hts in_X3 hown hK hP 0 rfl rfl 0 (by decide) (hts _ q264) (fun _ h9 => h9) rfl dX3_value_1 ?_
  refine lv_iload_n hx hb dX3_value_4 rfl (lv_at hl 1 rfl) ?_
  refine lv_bipush (v := 63) hx hb dX3_value_5 (by decide +kernel) ?_
  refine lv_iand hx hb dX3_value_7 ?_
  refine lv_topi (fun y_1 ey_1 => ?_)
  obtain rfl : y_1 = nI k := ey_1.trans (ek)
  refine va_iald hx hb hK hP 1 0 rfl rfl (vp_in_nI (by omega) (by omega)) dX3_value_8 ?_
  refine lv_topi (fun y_2 ey_2 => ?_)
  obtain rfl : y_2 = v k := ey_2.trans (congrArg v (nI_clamp (by omega)))
  have hP9 := hP.sub (ws' := [(am, .inr (2, [.ref av, .ref ab])), (av, .inl (dV, 64, .inl v)), (ab, .inl (dB, 64, .inl b))]) [0, 1, 2] rfl
  have hD9 := hD.sub (ws' := [(am, .inr (2, [.ref av, .ref ab])), (av, .inl (dV, 64, .inl v)), (ab, .inl (dB, 64, .inl b))]) [0, 1, 2] (by decide) rfl
  have hK9 := hK.sub (tys' := [(dV, .int), (dB, .boolean)]) [0, 1] rfl
  exact W.iret (v := (v k)) hx hb hr (fun t ht hW => ⟨⟨(v k), (), rfl, rfl, by rw [ht]; exact hP9, va_K.moved hW.alike hK9, hD9⟩, hS.F ht⟩) hS.2.2 dX3_value_9
set_option maxHeartbeats 4000000 in
set_option maxRecDepth 100000 in
/-- drain() -/
theorem metX3_drain (l : Launch) (dC : Nat → ClassId) (dI : Nat → Nat → Nat) (am : Nat) (av : Nat) (ab : Nat) (dV : ClassId) (dB : ClassId) (v : Nat → Int32) (b : Nat → Int32) (sz : Nat)  : Met l yX3_drain (ws_ yX3_drain cX3_drain 2 none) ({ frames := 0, cells := 0, slots := 0, locals := 0 }) (va_Pc [.ref am] (fun U => U.heap.size = sz ∧ va_P (dC, dI) vwCl [(am, .inr (2, [.ref av, .ref ab])), (av, .inl (dV, 64, .inl v)), (ab, .inl (dB, 64, .inl b))] U.heap ∧ va_K (dC, dI) vwCl [(dV, .int), (dB, .boolean)] U ∧ va_D (fun _ => True) [(am, .inr (2, [.ref av, .ref ab])), (av, .inl (dV, 64, .inl v)), (ab, .inl (dB, 64, .inl b))])) (va_Qv (fun (u : Unit) => True) (fun (u : Unit) (t : State) => va_P (dC, dI) vwCl [(am, .inr (2, [.ref av, .ref ab])), (av, .inl (dV, 64, .inl v)), (ab, .inl (dB, 64, .inl (sd_cl b 64)))] t.heap ∧ va_K (dC, dI) vwCl [(dV, .int), (dB, .boolean)] t ∧ va_D (va_A [(am, .inr (2, [.ref av, .ref ab])), (av, .inl (dV, 64, .inl v)), (ab, .inl (dB, 64, .inl b))] sz) [(am, .inr (2, [.ref av, .ref ab])), (av, .inl (dV, 64, .inl v)), (ab, .inl (dB, 64, .inl (sd_cl b 64)))]) (va_A [(am, .inr (2, [.ref av, .ref ab])), (av, .inl (dV, 64, .inl v)), (ab, .inl (dB, 64, .inl b))] sz)) 0 0 (va_A [(am, .inr (2, [.ref av, .ref ab])), (av, .inl (dV, 64, .inl v)), (ab, .inl (dB, 64, .inl b))] sz) := by
  refine Met.ofW (cc := cX3_drain) (maxL := 2) (ret := none) (by decide) rfl ?_
  intro p e s m args below meth c s₁ B hml hvv
  obtain ⟨rfl, hsz, hP, hK, hD0⟩ := hvv
  have hx := B.exec
  have hb := B.bytes
  have hr := B.returns
  have hts := atoms_spec (ws := (ws_ yX3_drain cX3_drain 2 none)) B.pre
  have hts : ∀ w ∈ lw_all, w.before _ s = true := fun w h => hts w (List.mem_cons_of_mem _ h)
  have hown : s.vm.findClass RX3 = some m.cls := findClass_of_methodNamed B.named
  have hlocks := B.notSynchronized
  subst hsz
  have hD := hD0.self (sz := s.heap.size)
  generalize hAe : va_A [(am, .inr (2, [.ref av, .ref ab])), (av, .inl (dV, 64, .inl v)), (ab, .inl (dB, 64, .inl b))] s.heap.size = A at hD ⊢
  have hA : ∀ q : Nat, s.heap.size ≤ q → A q := fun q h => by rw [← hAe]; exact Or.inr h
  have hS : va_S A s.heap s.heap [] := va_S.rf
  have hP : va_P (dC, dI) vwCl [(am, .inr (2, [.ref av, .ref ab])), (av, .inl (dV, 64, .inl v)), (ab, .inl (dB, 64, .inl b))] s.heap := hP
  have hl := lv_entry ([.ref am]) (n := 2) (Nat.le_of_ble_eq_true rfl)
  rw [lg_entry_eq]
  generalize (lg_sl ([.ref am]) ++ List.replicate (2 - (lg_sl ([.ref am])).length) Slot.unset).toArray = ls at hl ⊢
  have hl : lv_has ls 2 [(0, .ref am)] := hl
  refine lv_iconst (v := (nI 0)) hx hb dX3_drain_0 (by decide +kernel) ?_
  refine lv_istore_n (lv' := [(1, .int (nI 0)), (0, .ref am)]) hx hb dX3_drain_1 rfl hl (by decide) rfl (fun ls hl => ?_)
  have hP : va_P (dC, dI) vwCl [(am, .inr (2, [.ref av, .ref ab])), (av, .inl (dV, 64, .inl v)), (ab, .inl (dB, 64, .inl (sd_cl b 0)))] s.heap := by rw [sd_cl_0]; exact hP
  have hD : va_D A [(am, .inr (2, [.ref av, .ref ab])), (av, .inl (dV, 64, .inl v)), (ab, .inl (dB, 64, .inl (sd_cl b 0)))] := by rw [sd_cl_0]; exact hD
  refine wl_loop (σ := Nat) (fun x => 64 - x) (fun (x : Nat) (H : Heap) (locs : List Loc) (ls : Array Slot) => va_P (dC, dI) vwCl [(am, .inr (2, [.ref av, .ref ab])), (av, .inl (dV, 64, .inl v)), (ab, .inl (dB, 64, .inl (sd_cl b x)))] H ∧ va_D A [(am, .inr (2, [.ref av, .ref ab])), (av, .inl (dV, 64, .inl v)), (ab, .inl (dB, 64, .inl (sd_cl b x)))] ∧ va_S A s.heap H locs ∧ lv_has ls 2 [(0, .ref am), (1, .int (nI x))] ∧ (x ≤ 64)) (fun x H locs ls hI ih => ?_) (0) _ _ _ ⟨hP.sub (ws' := [(am, .inr (2, [.ref av, .ref ab])), (av, .inl (dV, 64, .inl v)), (ab, .inl (dB, 64, .inl (sd_cl b 0)))]) [0, 1, 2] rfl, hD.sub (ws' := [(am, .inr (2, [.ref av, .ref ab])), (av, .inl (dV, 64, .inl v)), (ab, .inl (dB, 64, .inl (sd_cl b 0)))]) [0, 1, 2] (by decide) rfl, hS, lv_sub hl [1, 0] rfl, Nat.zero_le 64⟩
  obtain ⟨i, ei⟩ : ∃ y, y = x := ⟨_, rfl⟩
  subst ei
  obtain ⟨hP, hD, hS, hl, hI⟩ := hI
  have hP : va_P (dC, dI) vwCl [(am, .inr (2, [.ref av, .ref ab])), (av, .inl (dV, 64, .inl v)), (ab, .inl (dB, 64, .inl (sd_cl b i)))] H := hP
  have hD : va_D A [(am, .inr (2, [.ref av, .ref ab])), (av, .inl (dV, 64, .inl v)), (ab, .inl (dB, 64, .inl (sd_cl b i)))] := hD
  have hl : lv_has ls 2 [(0, .ref am), (1, .int (nI i))] := hl
  have hI : i ≤ 64 := hI
  refine lv_iload_n hx hb dX3_drain_2 rfl (lv_at hl 1 rfl) ?_
  refine lv_bipush (v := (nI 64)) hx hb dX3_drain_3 (by decide +kernel) ?_
  refine lv_icmp_ge (tgt := 21) hx hb dX3_drain_5 (by decide) (fun c5 => ?_) (fun c5 => ?_)
  · obtain rfl : i = 64 := by
      have q : 64 ≤ i := (nI_leI (by omega) (by omega)).mp c5
      omega
    have hP9 := hP.sub (ws' := [(am, .inr (2, [.ref av, .ref ab])), (av, .inl (dV, 64, .inl v)), (ab, .inl (dB, 64, .inl (sd_cl b 64)))]) [0, 1, 2] rfl
    have hD9 := hD.sub (ws' := [(am, .inr (2, [.ref av, .ref ab])), (av, .inl (dV, 64, .inl v)), (ab, .inl (dB, 64, .inl (sd_cl b 64)))]) [0, 1, 2] (by decide) rfl
    have hK9 := hK.sub (tys' := [(dV, .int), (dB, .boolean)]) [0, 1] rfl
    exact W.vret hx hb hr (fun t ht hW => ⟨⟨(), rfl, trivial, by rw [ht]; exact hP9, va_K.moved hW.alike hK9, hD9⟩, hS.F ht⟩) hS.2.2 dX3_drain_21
  · have hlt : i < 64 := by
      rcases Nat.lt_or_ge i 64 with q | q
      · exact q
      · exact absurd (nI_le q (by omega)) c5
    refine lv_aload_n hx hb dX3_drain_8 rfl (lv_at hl 0 rfl) ?_
    refine va_get (D := (dC, dI)) (ci := 2) (v := .ref ab) (C := RX3) (T := TX3) (N := 2) hx hb hts in_X3 hown hK hP 0 rfl rfl 1 (by decide) (hts _ q265) (fun _ h9 => h9) rfl dX3_drain_9 ?_
    refine lv_iload_n hx hb dX3_drain_12 rfl (lv_at hl 1 rfl) ?_
    refine lv_iconst (v := 0) hx hb dX3_drain_13 (by decide +kernel) ?_
    refine va_zast hx hb hK hP hD hS 2 1 rfl rfl (vp_in_nI (by omega) (by omega)) dX3_drain_14 (fun H locs hP hD hS => ?_)
    rw [nI_clamp (n := i) (by omega), show vp_nar .boolean 0 = 0 from by decide +kernel] at hP hD
    rw [show upd (sd_cl b i) i 0 = sd_cl b (i + 1) from sd_cl_s b i] at hP hD
    have hP : va_P (dC, dI) vwCl [(am, .inr (2, [.ref av, .ref ab])), (av, .inl (dV, 64, .inl v)), (ab, .inl (dB, 64, .inl (sd_cl b (i + 1))))] H := hP
    have hD : va_D A [(am, .inr (2, [.ref av, .ref ab])), (av, .inl (dV, 64, .inl v)), (ab, .inl (dB, 64, .inl (sd_cl b (i + 1))))] := hD
    refine lv_iinc (v := nI (i + 1)) (lv' := [(1, .int (nI (i + 1))), (0, .ref am)]) hx hb dX3_drain_15 hl (k := 1) rfl (by rw [← nI_1]; rfl) (by decide) rfl (fun ls hl => ?_)
    refine lv_goto (tgt := 2) hx hb dX3_drain_18 (by decide) ?_
    exact ih ((i + 1)) _ _ _ (by first | omega | (dsimp only; omega)) ⟨hP.sub (ws' := [(am, .inr (2, [.ref av, .ref ab])), (av, .inl (dV, 64, .inl v)), (ab, .inl (dB, 64, .inl (sd_cl b (i + 1))))]) [0, 1, 2] rfl, hD.sub (ws' := [(am, .inr (2, [.ref av, .ref ab])), (av, .inl (dV, 64, .inl v)), (ab, .inl (dB, 64, .inl (sd_cl b (i + 1))))]) [0, 1, 2] (by decide) rfl, hS, lv_sub hl [1, 0] rfl, by omega⟩
set_option maxHeartbeats 4000000 in
set_option maxRecDepth 100000 in
/-- SemiHeapDeskModel() -/
theorem metX3_init (l : Launch) (dC : Nat → ClassId) (dI : Nat → Nat → Nat) (am : Nat) (sz : Nat)  : Met l yX3_init (ws_ yX3_init cX3_init 2 none) ({ frames := 1, cells := 2, slots := 128, locals := 20 }) (va_Pc [.ref am] (fun U => U.heap.size = sz ∧ va_P (dC, dI) vwCl [(am, .inr (2, [.null, .null]))] U.heap ∧ va_K (dC, dI) vwCl [] U ∧ va_D (fun _ => True) [(am, .inr (2, [.null, .null]))])) (va_Qv (fun (u : Unit) => True) (fun (u : Unit) (t : State) => ∃ (av : Nat), ∃ (ab : Nat), ∃ (dV : ClassId), ∃ (dB : ClassId), va_P (dC, dI) vwCl [(am, .inr (2, [.ref av, .ref ab])), (av, .inl (dV, 64, .inl (sd_in 64))), (ab, .inl (dB, 64, .inl (fun _ => 0)))] t.heap ∧ va_K (dC, dI) vwCl [(dV, .int), (dB, .boolean)] t ∧ va_D (va_A [(am, .inr (2, [.null, .null]))] sz) [(am, .inr (2, [.ref av, .ref ab])), (av, .inl (dV, 64, .inl (sd_in 64))), (ab, .inl (dB, 64, .inl (fun _ => 0)))]) (va_A [(am, .inr (2, [.null, .null]))] sz)) 2 128 (va_A [(am, .inr (2, [.null, .null]))] sz) := by
  refine Met.ofW (cc := cX3_init) (maxL := 2) (ret := none) (by decide) rfl ?_
  intro p e s m args below meth c s₁ B hml hvv
  obtain ⟨rfl, hsz, hP, hK, hD0⟩ := hvv
  have hx := B.exec
  have hb := B.bytes
  have hr := B.returns
  have hts := atoms_spec (ws := (ws_ yX3_init cX3_init 2 none)) B.pre
  have hts : ∀ w ∈ lw_all, w.before _ s = true := fun w h => hts w (List.mem_cons_of_mem _ h)
  have hown : s.vm.findClass RX3 = some m.cls := findClass_of_methodNamed B.named
  have hlocks := B.notSynchronized
  have hin : meth.name = "<init>" := (name_of_methodNamed B.named B.method).1
  subst hsz
  have hD := hD0.self (sz := s.heap.size)
  generalize hAe : va_A [(am, .inr (2, [.null, .null]))] s.heap.size = A at hD ⊢
  have hA : ∀ q : Nat, s.heap.size ≤ q → A q := fun q h => by rw [← hAe]; exact Or.inr h
  have hS : va_S A s.heap s.heap [] := va_S.rf
  have hP : va_P (dC, dI) vwCl [(am, .inr (2, [.null, .null]))] s.heap := hP
  have hl := lv_entry ([.ref am]) (n := 2) (Nat.le_of_ble_eq_true rfl)
  rw [lg_entry_eq]
  generalize (lg_sl ([.ref am]) ++ List.replicate (2 - (lg_sl ([.ref am])).length) Slot.unset).toArray = ls at hl ⊢
  have hl : lv_has ls 2 [(0, .ref am)] := hl
  refine lv_aload_n hx hb dX3_init_0 rfl (lv_at hl 0 rfl) ?_
  refine W.objInit hx hb hown (hts _ q263) (hts _ q21) (hts _ q22) rfl (by rw [hml]; exact hl.1) rfl dX3_init_1 (Nat.le_of_ble_eq_true rfl) (Nat.le_of_ble_eq_true rfl) ?_
  refine W.eq (g2 := F0 m 4 ls []) rfl ?_
  refine lv_aload_n hx hb dX3_init_4 rfl (lv_at hl 0 rfl) ?_
  refine lv_bipush (v := (nI 64)) hx hb dX3_init_5 (by decide +kernel) ?_
  refine va_newa (atype := .int) (ty := .int) (N' := 64) (a0 := (64, .inl (fun _ => 0))) hx hb (hts _ q47) rfl hK hP hD hS hA (fun cA => rfl) (by decide +kernel) (by decide +kernel) (Nat.le_of_ble_eq_true rfl) (Nat.le_of_ble_eq_true rfl) (Nat.le_of_ble_eq_true rfl) dX3_init_7 (fun av dV H hK hP hD hS => ?_)
  have hK : va_K (dC, dI) vwCl [(dV, .int)] s := hK
  have hP : va_P (dC, dI) vwCl [(am, .inr (2, [.null, .null])), (av, .inl (dV, 64, .inl (fun _ => 0)))] H := hP
  have hD : va_D A [(am, .inr (2, [.null, .null])), (av, .inl (dV, 64, .inl (fun _ => 0)))] := hD
  refine W.widen (k := 1) (n := 64) (Nat.le_of_ble_eq_true rfl) (Nat.le_of_ble_eq_true rfl) ?_
  refine va_putF (D := (dC, dI)) (ci := 2) (v := .ref av) (ty := .array .int) (C := RX3) (T := TX3) (N := 2) hx hb hts in_X3 tyX3 tyX3_ok nmX3 hown hK hP hD hS 0 rfl rfl 0 (by decide) (hts _ q264) (fun _ h9 => h9) rfl hin rfl (by decide +kernel) rfl rfl (Nat.le_of_ble_eq_true rfl) dX3_init_9 (fun H locs hP hD hS => ?_)
  have hP : va_P (dC, dI) vwCl [(am, .inr (2, [.ref av, .null])), (av, .inl (dV, 64, .inl (fun _ => 0)))] H := hP
  have hD : va_D A [(am, .inr (2, [.ref av, .null])), (av, .inl (dV, 64, .inl (fun _ => 0)))] := hD
  refine lv_aload_n hx hb dX3_init_12 rfl (lv_at hl 0 rfl) ?_
  refine lv_bipush (v := (nI 64)) hx hb dX3_init_13 (by decide +kernel) ?_
  refine va_newa (atype := .boolean) (ty := .boolean) (N' := 64) (a0 := (64, .inl (fun _ => 0))) hx hb (hts _ q48) rfl hK hP hD hS hA (fun cA => rfl) (by decide +kernel) (by decide +kernel) (Nat.le_of_ble_eq_true rfl) (Nat.le_of_ble_eq_true rfl) (Nat.le_of_ble_eq_true rfl) dX3_init_15 (fun ab dB H hK hP hD hS => ?_)
  have hK : va_K (dC, dI) vwCl [(dV, .int), (dB, .boolean)] s := hK
  have hP : va_P (dC, dI) vwCl [(am, .inr (2, [.ref av, .null])), (av, .inl (dV, 64, .inl (fun _ => 0))), (ab, .inl (dB, 64, .inl (fun _ => 0)))] H := hP
  have hD : va_D A [(am, .inr (2, [.ref av, .null])), (av, .inl (dV, 64, .inl (fun _ => 0))), (ab, .inl (dB, 64, .inl (fun _ => 0)))] := hD
  refine W.widen (k := 2) (n := 128) (Nat.le_of_ble_eq_true rfl) (Nat.le_of_ble_eq_true rfl) ?_
  refine va_putF (D := (dC, dI)) (ci := 2) (v := .ref ab) (ty := .array .boolean) (C := RX3) (T := TX3) (N := 2) hx hb hts in_X3 tyX3 tyX3_ok nmX3 hown hK hP hD hS 0 rfl rfl 1 (by decide) (hts _ q265) (fun _ h9 => h9) rfl hin rfl (by decide +kernel) rfl rfl (Nat.le_of_ble_eq_true rfl) dX3_init_17 (fun H locs hP hD hS => ?_)
  have hP : va_P (dC, dI) vwCl [(am, .inr (2, [.ref av, .ref ab])), (av, .inl (dV, 64, .inl (fun _ => 0))), (ab, .inl (dB, 64, .inl (fun _ => 0)))] H := hP
  have hD : va_D A [(am, .inr (2, [.ref av, .ref ab])), (av, .inl (dV, 64, .inl (fun _ => 0))), (ab, .inl (dB, 64, .inl (fun _ => 0)))] := hD
  refine lv_iconst (v := (nI 0)) hx hb dX3_init_20 (by decide +kernel) ?_
  refine lv_istore_n (lv' := [(1, .int (nI 0)), (0, .ref am)]) hx hb dX3_init_21 rfl hl (by decide) rfl (fun ls hl => ?_)
  have hP : va_P (dC, dI) vwCl [(am, .inr (2, [.ref av, .ref ab])), (av, .inl (dV, 64, .inl (sd_in 0))), (ab, .inl (dB, 64, .inl (fun _ => 0)))] H := by rw [sd_in_0]; exact hP
  have hD : va_D A [(am, .inr (2, [.ref av, .ref ab])), (av, .inl (dV, 64, .inl (sd_in 0))), (ab, .inl (dB, 64, .inl (fun _ => 0)))] := by rw [sd_in_0]; exact hD
  refine wl_loop (σ := Nat) (fun x => 64 - x) (fun (x : Nat) (H : Heap) (locs : List Loc) (ls : Array Slot) => va_P (dC, dI) vwCl [(am, .inr (2, [.ref av, .ref ab])), (av, .inl (dV, 64, .inl (sd_in x))), (ab, .inl (dB, 64, .inl (fun _ => 0)))] H ∧ va_D A [(am, .inr (2, [.ref av, .ref ab])), (av, .inl (dV, 64, .inl (sd_in x))), (ab, .inl (dB, 64, .inl (fun _ => 0)))] ∧ va_S A s.heap H locs ∧ lv_has ls 2 [(0, .ref am), (1, .int (nI x))] ∧ (x ≤ 64)) (fun x H locs ls hI ih => ?_) (0) _ _ _ ⟨hP.sub (ws' := [(am, .inr (2, [.ref av, .ref ab])), (av, .inl (dV, 64, .inl (sd_in 0))), (ab, .inl (dB, 64, .inl (fun _ => 0)))]) [0, 1, 2] rfl, hD.sub (ws' := [(am, .inr (2, [.ref av, .ref ab])), (av, .inl (dV, 64, .inl (sd_in 0))), (ab, .inl (dB, 64, .inl (fun _ => 0)))]) [0, 1, 2] (by decide) rfl, hS, lv_sub hl [1, 0] rfl, Nat.zero_le 64⟩
  obtain ⟨i, ei⟩ : ∃ y, y = x := ⟨_, rfl⟩
  subst ei
  obtain ⟨hP, hD, hS, hl, hI⟩ := hI
  have hP : va_P (dC, dI) vwCl [(am, .inr (2, [.ref av, .ref ab])), (av, .inl (dV, 64, .inl (sd_in i))), (ab, .inl (dB, 64, .inl (fun _ => 0)))] H := hP
  have hD : va_D A [(am, .inr (2, [.ref av, .ref ab])), (av, .inl (dV, 64, .inl (sd_in i))), (ab, .inl (dB, 64, .inl (fun _ => 0)))] := hD
  have hl : lv_has ls 2 [(0, .ref am), (1, .int (nI i))] := hl
  have hI : i ≤ 64 := hI
  refine lv_iload_n hx hb dX3_init_22 rfl (lv_at hl 1 rfl) ?_
  refine lv_bipush (v := (nI 64)) hx hb dX3_init_23 (by decide +kernel) ?_
  refine lv_icmp_ge (tgt := 41) hx hb dX3_init_25 (by decide) (fun c25 => ?_) (fun c25 => ?_)
  · obtain rfl : i = 64 := by
      have q : 64 ≤ i := (nI_leI (by omega) (by omega)).mp c25
      omega
    have hP9 := hP.sub (ws' := [(am, .inr (2, [.ref av, .ref ab])), (av, .inl (dV, 64, .inl (sd_in 64))), (ab, .inl (dB, 64, .inl (fun _ => 0)))]) [0, 1, 2] rfl
    have hD9 := hD.sub (ws' := [(am, .inr (2, [.ref av, .ref ab])), (av, .inl (dV, 64, .inl (sd_in 64))), (ab, .inl (dB, 64, .inl (fun _ => 0)))]) [0, 1, 2] (by decide) rfl
    have hK9 := hK.sub (tys' := [(dV, .int), (dB, .boolean)]) [0, 1] rfl
    exact W.vret hx hb hr (fun t ht hW => ⟨⟨(), rfl, trivial, av, ab, dV, dB, by rw [ht]; exact hP9, va_K.moved hW.alike hK9, hD9⟩, hS.F ht⟩) hS.2.2 dX3_init_41
  · have hlt : i < 64 := by
      rcases Nat.lt_or_ge i 64 with q | q
      · exact q
      · exact absurd (nI_le q (by omega)) c25
    refine lv_aload_n hx hb dX3_init_28 rfl (lv_at hl 0 rfl) ?_
    refine va_get (D := (dC, dI)) (ci := 2) (v := .ref av) (C := RX3) (T := TX3) (N := 2) hx hb hts in_X3 hown hK hP 0 rfl rfl 0 (by decide) (hts _ q264) (fun _ h9 => h9) rfl dX3_init_29 ?_
    refine lv_iload_n hx hb dX3_init_32 rfl (lv_at hl 1 rfl) ?_
    refine lv_iload_n hx hb dX3_init_33 rfl (lv_at hl 1 rfl) ?_
    refine va_iast hx hb hK hP hD hS 1 0 rfl rfl (vp_in_nI (by omega) (by omega)) dX3_init_34 (fun H locs hP hD hS => ?_)
    rw [nI_clamp (n := i) (by omega)] at hP hD
    rw [show upd (sd_in i) i (nI i) = sd_in (i + 1) from sd_in_s i] at hP hD
    have hP : va_P (dC, dI) vwCl [(am, .inr (2, [.ref av, .ref ab])), (av, .inl (dV, 64, .inl (sd_in (i + 1)))), (ab, .inl (dB, 64, .inl (fun _ => 0)))] H := hP
    have hD : va_D A [(am, .inr (2, [.ref av, .ref ab])), (av, .inl (dV, 64, .inl (sd_in (i + 1)))), (ab, .inl (dB, 64, .inl (fun _ => 0)))] := hD
    refine lv_iinc (v := nI (i + 1)) (lv' := [(1, .int (nI (i + 1))), (0, .ref am)]) hx hb dX3_init_35 hl (k := 1) rfl (by rw [← nI_1]; rfl) (by decide) rfl (fun ls hl => ?_)
    refine lv_goto (tgt := 22) hx hb dX3_init_38 (by decide) ?_
    exact ih ((i + 1)) _ _ _ (by first | omega | (dsimp only; omega)) ⟨hP.sub (ws' := [(am, .inr (2, [.ref av, .ref ab])), (av, .inl (dV, 64, .inl (sd_in (i + 1)))), (ab, .inl (dB, 64, .inl (fun _ => 0)))]) [0, 1, 2] rfl, hD.sub (ws' := [(am, .inr (2, [.ref av, .ref ab])), (av, .inl (dV, 64, .inl (sd_in (i + 1)))), (ab, .inl (dB, 64, .inl (fun _ => 0)))]) [0, 1, 2] (by decide) rfl, hS, lv_sub hl [1, 0] rfl, by omega⟩
end
section
/-! THE CLAIM OUT OF ONE WALK OF THE LAW'S BODY. Your part is whole_start (and what it stands on); all else here is the same for every law, but numbers. -/
def R_law : String := "SemiHeapDeskLaw"
def lw_P (b : Addr) (xs : List Int32) (args : Array Value) (s : State) : Prop := args = #[.ref b] ∧ s.IntsAt b xs ∧ xs.length ≤ 288 ∧ (Jvm.Cond.and given_1 narrow_1).before args s = true
def lw_Q (_ : Array Value) (s : State) (o : Outcome) (t : State) : Prop := o = .returned (some (.int 1)) ∧ Framed s o t [] 1200096 5501386
def lw_Z (below : List Frame) (a : Array Value) (s : State) : State → Prop := fun t => ∃ o, t.status = .running ∧ Ended t below o ∧ lw_Q a s o t
/-- the law's own end, with 1 on the stack, nothing written that was there before, its room as the claim has it -/
theorem lw_ret {p : Program} {l : Launch} {e : Env} {s : State} {m : MethodId} {below : List Frame} {meth : Method} {c : Code} {b : Nat} (hx : p.tables.exec = Jvm.exec) (hb : c.code = code) (hr : meth.sig.returnType = ret) (hlocks : meth.locks = false) {pc : Nat} {H : Heap} {ls : Array Slot} (hdg : decode code pc = .ok (.ireturn, 1)) : W p l e room_1 s m #[Value.ref b] below meth c H [] 1200096 5501386 (lw_Z below #[Value.ref b] s) (F0 m pc ls [.int 1]) := by
  intro T hT X
  obtain ⟨fs, hret, hrun, hended, hW, hframe⟩ := X.leave (v := some (.int 1)) (hlocks := hlocks) (fun h => by rw [hr] at h; cases h)
  have hmeth' : T.vm.method? m = some meth := X.method'
  refine ⟨T.setFrames fs, ?_, .returned (some (.int 1)), hrun, hended, rfl, ⟨_, rfl⟩, hW, hframe⟩
  jvm_step X.here [X.here.top, hx, hb, hdg, hmeth', hr, ret, narrow_b1]
  (try refine ⟨rfl, ?_⟩); (try refine ⟨rfl, ?_⟩)
  first | (intro acts; rw [hret _ acts rfl rfl rfl]) | rw [hret _ _ rfl rfl rfl]
  exact Steps.refl _
/-- what holds at the law's entry: the machine, the code, the tables' words (any of lw_tbl by 'hts w (by decide +kernel)'), the script of L ints xs at the cell b, what the Statement gives of the start (any of its parts by flat_of_before) -/
def lw_At (p : Program) (s : State) (m : MethodId) (meth : Method) (c : Code) (b L : Nat) (xs : Nat → Int32) : Prop :=
  p.tables.exec = Jvm.exec ∧ c.code = code ∧ meth.sig.returnType = ret ∧ c.maxLocals = 4 ∧ s.vm.findClass R_law = some m.cls ∧ (∀ w ∈ lw_tbl, w.before #[Value.ref b] s = true) ∧ va_X b L xs s s.heap ∧ b < s.heap.size ∧ meth.locks = false ∧ (Jvm.Cond.and given_1 narrow_1).before #[Value.ref b] s = true
/-- the law's state at its loop's head, i ints read: both sides hold the same values and the same waiting places; the desk's queue holds them in heap order -/
def lw_J (dC : Nat → ClassId) (dI : Nat → Nat → Nat) (s : State) (b0 ax av ab aq ah am mv mb : Nat) (dV dB dH eV eB : ClassId) (v bb f : Nat → Int32) (n i : Nat) (H : Heap) (locs : List Loc) (ls : Array Slot) : Prop := va_P (dC, dI) vwCl [(ax, .inr (0, [.ref av, .ref ab, .ref aq])), (av, .inl (dV, 64, .inl v)), (ab, .inl (dB, 64, .inl bb)), (aq, .inr (1, [.ref av, .ref ah, .int (nI n), .null])), (ah, .inl (dH, 64, .inl f)), (am, .inr (2, [.ref mv, .ref mb])), (mv, .inl (eV, 64, .inl v)), (mb, .inl (eB, 64, .inl bb))] H ∧ va_D (fun q : Nat => s.heap.size ≤ q) [(ax, .inr (0, [.ref av, .ref ab, .ref aq])), (av, .inl (dV, 64, .inl v)), (ab, .inl (dB, 64, .inl bb)), (aq, .inr (1, [.ref av, .ref ah, .int (nI n), .null])), (ah, .inl (dH, 64, .inl f)), (am, .inr (2, [.ref mv, .ref mb])), (mv, .inl (eV, 64, .inl v)), (mb, .inl (eB, 64, .inl bb))] ∧ va_S (fun q : Nat => s.heap.size ≤ q) s.heap H locs ∧ lv_has ls 4 [(0, .ref b0), (1, .ref ax), (2, .ref am), (3, .int (nI i))] ∧ sd_I v bb f n
set_option maxHeartbeats 4000000 in
set_option maxRecDepth 100000 in
/-- case 0: change -/
theorem lw_c0 {p : Program} {l : Launch} {e : Env} {s : State} {m : MethodId} {below : List Frame} {meth : Method} {c : Code} {b0 L : Nat} {xs : Nat → Int32} (hL : L ≤ 288) (C0 : lw_At p s m meth c b0 L xs) {dC : Nat → ClassId} {dI : Nat → Nat → Nat} {ax av ab aq ah am mv mb : Nat} {dV dB dH eV eB : ClassId} (hK : va_K (dC, dI) vwCl [(dV, .int), (dB, .boolean), (dH, .int), (eV, .int), (eB, .boolean)] s) {i : Nat} (hi : i + 6 ≤ L) {v bb f : Nat → Int32} {n : Nat} {H : Heap} {locs : List Loc} {ls : Array Slot} (hJ : lw_J dC dI s b0 ax av ab aq ah am mv mb dV dB dH eV eB v bb f n i H locs ls) (kk : ∀ (v bb f : Nat → Int32) (n : Nat) (H : Heap) (locs : List Loc) (ls : Array Slot), lw_J dC dI s b0 ax av ab aq ah am mv mb dV dB dH eV eB v bb f n (i + 6) H locs ls → W p l e room_1 s m #[Value.ref b0] below meth c H locs (8 + (i + 6)) (400 + 64 * (i + 6)) (lw_Z below #[Value.ref b0] s) (F0 m 18 ls [])) : W p l e room_1 s m #[Value.ref b0] below meth c H locs (8 + i) (400 + 64 * i) (lw_Z below #[Value.ref b0] s) (F0 m 88 ls []) := by
  obtain ⟨hx, hb, hr, hml, hown, hts0, hX, hbl, hlocks, hgv⟩ := id C0
  have hts : ∀ w ∈ lw_all, w.before _ s = true := fun w h => hts0 w (lw_all_tbl h)
  have hA : ∀ q : Nat, s.heap.size ≤ q → (fun q : Nat => s.heap.size ≤ q) q := fun _ h => h
  have hbA : ¬ (fun q : Nat => s.heap.size ≤ q) b0 := Nat.not_le.mpr hbl
  obtain ⟨hP, hD, hS, hl, hI0⟩ := hJ
  have hP : va_P (dC, dI) vwCl [(ax, .inr (0, [.ref av, .ref ab, .ref aq])), (av, .inl (dV, 64, .inl v)), (ab, .inl (dB, 64, .inl bb)), (aq, .inr (1, [.ref av, .ref ah, .int (nI n), .null])), (ah, .inl (dH, 64, .inl f)), (am, .inr (2, [.ref mv, .ref mb])), (mv, .inl (eV, 64, .inl v)), (mb, .inl (eB, 64, .inl bb))] H := hP
  have hD : va_D (fun q : Nat => s.heap.size ≤ q) [(ax, .inr (0, [.ref av, .ref ab, .ref aq])), (av, .inl (dV, 64, .inl v)), (ab, .inl (dB, 64, .inl bb)), (aq, .inr (1, [.ref av, .ref ah, .int (nI n), .null])), (ah, .inl (dH, 64, .inl f)), (am, .inr (2, [.ref mv, .ref mb])), (mv, .inl (eV, 64, .inl v)), (mb, .inl (eB, 64, .inl bb))] := hD
  have hl : lv_has ls 4 [(0, .ref b0), (1, .ref ax), (2, .ref am), (3, .int (nI i))] := hl
  obtain ⟨k, hk, ek⟩ := pk_andE (xs (i + 1)) (m := 63) 6 (by decide +kernel)
  have hk : k < 64 := hk
  refine lv_aload_n hx hb dL_law_88 rfl (lv_at hl 1 rfl) ?_
  refine lv_aload_n hx hb dL_law_89 rfl (lv_at hl 0 rfl) ?_
  refine lv_iload_n hx hb dL_law_90 rfl (lv_at hl 3 rfl) ?_
  refine lv_iconst (v := (nI 1)) hx hb dL_law_91 (by decide +kernel) ?_
  refine lv_iadd hx hb dL_law_92 ?_
  refine lv_topi (fun y_1 ey_1 => ?_)
  obtain rfl : y_1 = nI (i + 1) := ey_1.trans (nI_add i 1)
  refine va_sld hx hb hX hbl hbA hS (vp_in_nI (by omega) (by omega)) dL_law_93 ?_
  refine lv_topi (fun y_2 ey_2 => ?_)
  obtain rfl : y_2 = xs (i + 1) := ey_2.trans (congrArg xs (nI_clamp (by omega)))
  refine lv_aload_n hx hb dL_law_94 rfl (lv_at hl 0 rfl) ?_
  refine lv_iload_n hx hb dL_law_95 rfl (lv_at hl 3 rfl) ?_
  refine lv_iconst (v := (nI 2)) hx hb dL_law_96 (by decide +kernel) ?_
  refine lv_iadd hx hb dL_law_97 ?_
  refine lv_topi (fun y_3 ey_3 => ?_)
  obtain rfl : y_3 = nI (i + 2) := ey_3.trans (nI_add i 2)
  refine va_sld hx hb hX hbl hbA hS (vp_in_nI (by omega) (by omega)) dL_law_98 ?_
  refine lv_topi (fun y_4 ey_4 => ?_)
  obtain rfl : y_4 = xs (i + 2) := ey_4.trans (congrArg xs (nI_clamp (by omega)))
  have hPc := hP.sub (ws' := [(ax, .inr (0, [.ref av, .ref ab, .ref aq])), (av, .inl (dV, 64, .inl v)), (ab, .inl (dB, 64, .inl bb)), (aq, .inr (1, [.ref av, .ref ah, .int (nI n), .null])), (ah, .inl (dH, 64, .inl f))]) [0, 1, 2, 3, 4] rfl
  have hDc := hD.sub (ws' := [(ax, .inr (0, [.ref av, .ref ab, .ref aq])), (av, .inl (dV, 64, .inl v)), (ab, .inl (dB, 64, .inl bb)), (aq, .inr (1, [.ref av, .ref ah, .int (nI n), .null])), (ah, .inl (dH, 64, .inl f))]) [0, 1, 2, 3, 4] (by decide) rfl
  have hKc := hK.sub (tys' := [(dV, .int), (dB, .boolean), (dH, .int)]) [0, 1, 2] rfl
  have hFc := va_free (wc := [(ax, .inr (0, [.ref av, .ref ab, .ref aq])), (av, .inl (dV, 64, .inl v)), (ab, .inl (dB, 64, .inl bb)), (aq, .inr (1, [.ref av, .ref ah, .int (nI n), .null])), (ah, .inl (dH, 64, .inl f))]) hD hS hA [0, 1, 2, 3, 4] rfl
  refine va_calli (va_runV (As := [.int (xs (i + 1)), .int (xs (i + 2))]) (rest := []) ⟨hx, hb, hml, hown, hts⟩ (metX0_change l dC dI ax av ab aq ah dV dB dH v bb f n (xs (i + 1)) (xs (i + 2)) k H.size hI0 hk ek) (cwV 2 hts (lw_V q59 q60 q61 q3 q62) rfl rfl rfl (by decide +kernel) ⟨Nat.le_of_ble_eq_true rfl, Nat.le_of_ble_eq_true rfl⟩) ⟨fun a U g mk q => by obtain ⟨q0, q1, qP, qK, qD⟩ := q; exact ⟨q0, q1, qP, va_K.moved (u := U) (U := U.calling g mk a) (Vm.Alike.refl U.vm) qK, qD⟩, va_recv hKc hPc (ci := 0) (q0 := 0) rfl rfl, fun U hU hW => ⟨rfl, by rw [hU], by rw [hU]; exact hPc, va_K.moved hW.alike hKc, hDc.weaken (fun _ _ _ _ => trivial)⟩⟩ rfl rfl hl.1 rfl (lv_room (Nat.le_of_ble_eq_true rfl)) dL_law_99 ⟨by (show _ ≤ (1200096 : Nat)); omega, by (show _ ≤ (5501386 : Nat)); omega⟩) hS (fun q _ h => hFc q h) hFc (fun r1 u1 t H1 locs ht hvm hw1q hB hz1 hk1 hS => ?_)
  have hw1 : r1 = (if bb k = 0 then 1 else 0) ∧ u1 = (if bb k = 0 then upd v k (sd_mk (xs (i + 2)) (nI k)) else v) ∧ sd_I u1 bb f n := hw1q
  obtain ⟨hP1, hK1, hD1⟩ := hB
  rw [ht] at hP1
  obtain ⟨hP, hD⟩ := va_join (wr := [(am, .inr (2, [.ref mv, .ref mb])), (mv, .inl (eV, 64, .inl v)), (mb, .inl (eB, 64, .inl bb))]) (w1 := [(ax, .inr (0, [.ref av, .ref ab, .ref aq])), (av, .inl (dV, 64, .inl u1)), (ab, .inl (dB, 64, .inl bb)), (aq, .inr (1, [.ref av, .ref ah, .int (nI n), .null])), (ah, .inl (dH, 64, .inl f))]) hP hD [0, 1, 2, 3, 4] [5, 6, 7] rfl rfl (by decide) (by decide) hk1 hFc hP1 hD1
  generalize H1 = H at hP hS ⊢
  have hP : va_P (dC, dI) vwCl [(am, .inr (2, [.ref mv, .ref mb])), (mv, .inl (eV, 64, .inl v)), (mb, .inl (eB, 64, .inl bb)), (ax, .inr (0, [.ref av, .ref ab, .ref aq])), (av, .inl (dV, 64, .inl u1)), (ab, .inl (dB, 64, .inl bb)), (aq, .inr (1, [.ref av, .ref ah, .int (nI n), .null])), (ah, .inl (dH, 64, .inl f))] H := hP
  have hD : va_D (fun q : Nat => s.heap.size ≤ q) [(am, .inr (2, [.ref mv, .ref mb])), (mv, .inl (eV, 64, .inl v)), (mb, .inl (eB, 64, .inl bb)), (ax, .inr (0, [.ref av, .ref ab, .ref aq])), (av, .inl (dV, 64, .inl u1)), (ab, .inl (dB, 64, .inl bb)), (aq, .inr (1, [.ref av, .ref ah, .int (nI n), .null])), (ah, .inl (dH, 64, .inl f))] := hD
  refine lv_aload_n hx hb dL_law_102 rfl (lv_at hl 2 rfl) ?_
  refine lv_aload_n hx hb dL_law_103 rfl (lv_at hl 0 rfl) ?_
  refine lv_iload_n hx hb dL_law_104 rfl (lv_at hl 3 rfl) ?_
  refine lv_iconst (v := (nI 1)) hx hb dL_law_105 (by decide +kernel) ?_
  refine lv_iadd hx hb dL_law_106 ?_
  refine lv_topi (fun y_5 ey_5 => ?_)
  obtain rfl : y_5 = nI (i + 1) := ey_5.trans (nI_add i 1)
  refine va_sld hx hb hX hbl hbA hS (vp_in_nI (by omega) (by omega)) dL_law_107 ?_
  refine lv_topi (fun y_6 ey_6 => ?_)
  obtain rfl : y_6 = xs (i + 1) := ey_6.trans (congrArg xs (nI_clamp (by omega)))
  refine lv_aload_n hx hb dL_law_108 rfl (lv_at hl 0 rfl) ?_
  refine lv_iload_n hx hb dL_law_109 rfl (lv_at hl 3 rfl) ?_
  refine lv_iconst (v := (nI 2)) hx hb dL_law_110 (by decide +kernel) ?_
  refine lv_iadd hx hb dL_law_111 ?_
  refine lv_topi (fun y_7 ey_7 => ?_)
  obtain rfl : y_7 = nI (i + 2) := ey_7.trans (nI_add i 2)
  refine va_sld hx hb hX hbl hbA hS (vp_in_nI (by omega) (by omega)) dL_law_112 ?_
  refine lv_topi (fun y_8 ey_8 => ?_)
  obtain rfl : y_8 = xs (i + 2) := ey_8.trans (congrArg xs (nI_clamp (by omega)))
  have hPc := hP.sub (ws' := [(am, .inr (2, [.ref mv, .ref mb])), (mv, .inl (eV, 64, .inl v)), (mb, .inl (eB, 64, .inl bb))]) [0, 1, 2] rfl
  have hDc := hD.sub (ws' := [(am, .inr (2, [.ref mv, .ref mb])), (mv, .inl (eV, 64, .inl v)), (mb, .inl (eB, 64, .inl bb))]) [0, 1, 2] (by decide) rfl
  have hKc := hK.sub (tys' := [(eV, .int), (eB, .boolean)]) [3, 4] rfl
  have hFc := va_free (wc := [(am, .inr (2, [.ref mv, .ref mb])), (mv, .inl (eV, 64, .inl v)), (mb, .inl (eB, 64, .inl bb))]) hD hS hA [0, 1, 2] rfl
  refine va_calli (va_runV (As := [.int (xs (i + 1)), .int (xs (i + 2))]) (rest := [.int r1]) ⟨hx, hb, hml, hown, hts⟩ (metX3_change l dC dI am mv mb eV eB v bb (xs (i + 1)) (xs (i + 2)) k H.size hk ek) (cwV 2 hts (lw_V q271 q272 q273 q6 q274) rfl rfl rfl (by decide +kernel) ⟨Nat.le_of_ble_eq_true rfl, Nat.le_of_ble_eq_true rfl⟩) ⟨fun a U g mk q => by obtain ⟨q0, q1, qP, qK, qD⟩ := q; exact ⟨q0, q1, qP, va_K.moved (u := U) (U := U.calling g mk a) (Vm.Alike.refl U.vm) qK, qD⟩, va_recv hKc hPc (ci := 2) (q0 := 0) rfl rfl, fun U hU hW => ⟨rfl, by rw [hU], by rw [hU]; exact hPc, va_K.moved hW.alike hKc, hDc.weaken (fun _ _ _ _ => trivial)⟩⟩ rfl rfl hl.1 rfl (lv_room (Nat.le_of_ble_eq_true rfl)) dL_law_113 ⟨by (show _ ≤ (1200096 : Nat)); omega, by (show _ ≤ (5501386 : Nat)); omega⟩) hS (fun q _ h => hFc q h) hFc (fun r2 u2 t H1 locs ht hvm hw2q hB hz1 hk1 hS => ?_)
  have hw2 : r2 = (if bb k = 0 then 1 else 0) ∧ u2 = (if bb k = 0 then upd v k (sd_mk (xs (i + 2)) (nI k)) else v) := hw2q
  obtain ⟨hP1, hK1, hD1⟩ := hB
  rw [ht] at hP1
  obtain ⟨hP, hD⟩ := va_join (wr := [(ax, .inr (0, [.ref av, .ref ab, .ref aq])), (av, .inl (dV, 64, .inl u1)), (ab, .inl (dB, 64, .inl bb)), (aq, .inr (1, [.ref av, .ref ah, .int (nI n), .null])), (ah, .inl (dH, 64, .inl f))]) (w1 := [(am, .inr (2, [.ref mv, .ref mb])), (mv, .inl (eV, 64, .inl u2)), (mb, .inl (eB, 64, .inl bb))]) hP hD [0, 1, 2] [3, 4, 5, 6, 7] rfl rfl (by decide) (by decide) hk1 hFc hP1 hD1
  generalize H1 = H at hP hS ⊢
  have hP : va_P (dC, dI) vwCl [(ax, .inr (0, [.ref av, .ref ab, .ref aq])), (av, .inl (dV, 64, .inl u1)), (ab, .inl (dB, 64, .inl bb)), (aq, .inr (1, [.ref av, .ref ah, .int (nI n), .null])), (ah, .inl (dH, 64, .inl f)), (am, .inr (2, [.ref mv, .ref mb])), (mv, .inl (eV, 64, .inl u2)), (mb, .inl (eB, 64, .inl bb))] H := hP
  have hD : va_D (fun q : Nat => s.heap.size ≤ q) [(ax, .inr (0, [.ref av, .ref ab, .ref aq])), (av, .inl (dV, 64, .inl u1)), (ab, .inl (dB, 64, .inl bb)), (aq, .inr (1, [.ref av, .ref ah, .int (nI n), .null])), (ah, .inl (dH, 64, .inl f)), (am, .inr (2, [.ref mv, .ref mb])), (mv, .inl (eV, 64, .inl u2)), (mb, .inl (eB, 64, .inl bb))] := hD
  have hu : u2 = u1 := hw2.2.trans hw1.2.1.symm
  rw [hu] at hP hD
  have hP : va_P (dC, dI) vwCl [(ax, .inr (0, [.ref av, .ref ab, .ref aq])), (av, .inl (dV, 64, .inl u1)), (ab, .inl (dB, 64, .inl bb)), (aq, .inr (1, [.ref av, .ref ah, .int (nI n), .null])), (ah, .inl (dH, 64, .inl f)), (am, .inr (2, [.ref mv, .ref mb])), (mv, .inl (eV, 64, .inl u1)), (mb, .inl (eB, 64, .inl bb))] H := hP
  have hD : va_D (fun q : Nat => s.heap.size ≤ q) [(ax, .inr (0, [.ref av, .ref ab, .ref aq])), (av, .inl (dV, 64, .inl u1)), (ab, .inl (dB, 64, .inl bb)), (aq, .inr (1, [.ref av, .ref ah, .int (nI n), .null])), (ah, .inl (dH, 64, .inl f)), (am, .inr (2, [.ref mv, .ref mb])), (mv, .inl (eV, 64, .inl u1)), (mb, .inl (eB, 64, .inl bb))] := hD
  refine lv_icmp_eq (tgt := 274) hx hb dL_law_116 (by decide) (fun c116 => ?_) (fun c116 => absurd (hw1.1.trans hw2.1.symm) c116)
  refine lv_iinc (v := (nI (i + 6))) (lv' := [(3, .int (nI (i + 6))), (0, .ref b0), (1, .ref ax), (2, .ref am)]) hx hb dL_law_274 hl (k := 3) rfl (nI_add i 6) (by decide) rfl (fun ls hl => ?_)
  refine lv_goto (tgt := 18) hx hb dL_law_277 (by decide) ?_
  refine W.widen (k := 8 + (i + 6)) (n := 400 + 64 * (i + 6)) (by omega) (by omega) ?_
  exact kk u1 bb f n _ _ _ ⟨hP.sub (ws' := [(ax, .inr (0, [.ref av, .ref ab, .ref aq])), (av, .inl (dV, 64, .inl u1)), (ab, .inl (dB, 64, .inl bb)), (aq, .inr (1, [.ref av, .ref ah, .int (nI n), .null])), (ah, .inl (dH, 64, .inl f)), (am, .inr (2, [.ref mv, .ref mb])), (mv, .inl (eV, 64, .inl u1)), (mb, .inl (eB, 64, .inl bb))]) [0, 1, 2, 3, 4, 5, 6, 7] rfl, hD.sub (ws' := [(ax, .inr (0, [.ref av, .ref ab, .ref aq])), (av, .inl (dV, 64, .inl u1)), (ab, .inl (dB, 64, .inl bb)), (aq, .inr (1, [.ref av, .ref ah, .int (nI n), .null])), (ah, .inl (dH, 64, .inl f)), (am, .inr (2, [.ref mv, .ref mb])), (mv, .inl (eV, 64, .inl u1)), (mb, .inl (eB, 64, .inl bb))]) [0, 1, 2, 3, 4, 5, 6, 7] (by decide) rfl, hS, lv_sub hl [1, 2, 3, 0] rfl, hw1.2.2⟩
set_option maxHeartbeats 4000000 in
set_option maxRecDepth 100000 in
/-- case 1: enter -/
theorem lw_c1 {p : Program} {l : Launch} {e : Env} {s : State} {m : MethodId} {below : List Frame} {meth : Method} {c : Code} {b0 L : Nat} {xs : Nat → Int32} (hL : L ≤ 288) (C0 : lw_At p s m meth c b0 L xs) {dC : Nat → ClassId} {dI : Nat → Nat → Nat} {ax av ab aq ah am mv mb : Nat} {dV dB dH eV eB : ClassId} (hK : va_K (dC, dI) vwCl [(dV, .int), (dB, .boolean), (dH, .int), (eV, .int), (eB, .boolean)] s) {i : Nat} (hi : i + 6 ≤ L) {v bb f : Nat → Int32} {n : Nat} {H : Heap} {locs : List Loc} {ls : Array Slot} (hJ : lw_J dC dI s b0 ax av ab aq ah am mv mb dV dB dH eV eB v bb f n i H locs ls) (kk : ∀ (v bb f : Nat → Int32) (n : Nat) (H : Heap) (locs : List Loc) (ls : Array Slot), lw_J dC dI s b0 ax av ab aq ah am mv mb dV dB dH eV eB v bb f n (i + 6) H locs ls → W p l e room_1 s m #[Value.ref b0] below meth c H locs (8 + (i + 6)) (400 + 64 * (i + 6)) (lw_Z below #[Value.ref b0] s) (F0 m 18 ls [])) : W p l e room_1 s m #[Value.ref b0] below meth c H locs (8 + i) (400 + 64 * i) (lw_Z below #[Value.ref b0] s) (F0 m 121 ls []) := by
  obtain ⟨hx, hb, hr, hml, hown, hts0, hX, hbl, hlocks, hgv⟩ := id C0
  have hts : ∀ w ∈ lw_all, w.before _ s = true := fun w h => hts0 w (lw_all_tbl h)
  have hA : ∀ q : Nat, s.heap.size ≤ q → (fun q : Nat => s.heap.size ≤ q) q := fun _ h => h
  have hbA : ¬ (fun q : Nat => s.heap.size ≤ q) b0 := Nat.not_le.mpr hbl
  obtain ⟨hP, hD, hS, hl, hI0⟩ := hJ
  have hP : va_P (dC, dI) vwCl [(ax, .inr (0, [.ref av, .ref ab, .ref aq])), (av, .inl (dV, 64, .inl v)), (ab, .inl (dB, 64, .inl bb)), (aq, .inr (1, [.ref av, .ref ah, .int (nI n), .null])), (ah, .inl (dH, 64, .inl f)), (am, .inr (2, [.ref mv, .ref mb])), (mv, .inl (eV, 64, .inl v)), (mb, .inl (eB, 64, .inl bb))] H := hP
  have hD : va_D (fun q : Nat => s.heap.size ≤ q) [(ax, .inr (0, [.ref av, .ref ab, .ref aq])), (av, .inl (dV, 64, .inl v)), (ab, .inl (dB, 64, .inl bb)), (aq, .inr (1, [.ref av, .ref ah, .int (nI n), .null])), (ah, .inl (dH, 64, .inl f)), (am, .inr (2, [.ref mv, .ref mb])), (mv, .inl (eV, 64, .inl v)), (mb, .inl (eB, 64, .inl bb))] := hD
  have hl : lv_has ls 4 [(0, .ref b0), (1, .ref ax), (2, .ref am), (3, .int (nI i))] := hl
  obtain ⟨k, hk, ek⟩ := pk_andE (xs (i + 1)) (m := 63) 6 (by decide +kernel)
  have hk : k < 64 := hk
  refine lv_aload_n hx hb dL_law_121 rfl (lv_at hl 1 rfl) ?_
  refine lv_aload_n hx hb dL_law_122 rfl (lv_at hl 0 rfl) ?_
  refine lv_iload_n hx hb dL_law_123 rfl (lv_at hl 3 rfl) ?_
  refine lv_iconst (v := (nI 1)) hx hb dL_law_124 (by decide +kernel) ?_
  refine lv_iadd hx hb dL_law_125 ?_
  refine lv_topi (fun y_1 ey_1 => ?_)
  obtain rfl : y_1 = nI (i + 1) := ey_1.trans (nI_add i 1)
  refine va_sld hx hb hX hbl hbA hS (vp_in_nI (by omega) (by omega)) dL_law_126 ?_
  refine lv_topi (fun y_2 ey_2 => ?_)
  obtain rfl : y_2 = xs (i + 1) := ey_2.trans (congrArg xs (nI_clamp (by omega)))
  have hPc := hP.sub (ws' := [(ax, .inr (0, [.ref av, .ref ab, .ref aq])), (av, .inl (dV, 64, .inl v)), (ab, .inl (dB, 64, .inl bb)), (aq, .inr (1, [.ref av, .ref ah, .int (nI n), .null])), (ah, .inl (dH, 64, .inl f))]) [0, 1, 2, 3, 4] rfl
  have hDc := hD.sub (ws' := [(ax, .inr (0, [.ref av, .ref ab, .ref aq])), (av, .inl (dV, 64, .inl v)), (ab, .inl (dB, 64, .inl bb)), (aq, .inr (1, [.ref av, .ref ah, .int (nI n), .null])), (ah, .inl (dH, 64, .inl f))]) [0, 1, 2, 3, 4] (by decide) rfl
  have hKc := hK.sub (tys' := [(dV, .int), (dB, .boolean), (dH, .int)]) [0, 1, 2] rfl
  have hFc := va_free (wc := [(ax, .inr (0, [.ref av, .ref ab, .ref aq])), (av, .inl (dV, 64, .inl v)), (ab, .inl (dB, 64, .inl bb)), (aq, .inr (1, [.ref av, .ref ah, .int (nI n), .null])), (ah, .inl (dH, 64, .inl f))]) hD hS hA [0, 1, 2, 3, 4] rfl
  refine va_calli (va_runV (As := [.int (xs (i + 1))]) (rest := []) ⟨hx, hb, hml, hown, hts⟩ (metX0_enter l dC dI ax av ab aq ah dV dB dH v bb f n (xs (i + 1)) k H.size hI0 hk ek) (cwV 1 hts (lw_V q63 q64 q65 q3 q66) rfl rfl rfl (by decide +kernel) ⟨Nat.le_of_ble_eq_true rfl, Nat.le_of_ble_eq_true rfl⟩) ⟨fun a U g mk q => by obtain ⟨q0, q1, qP, qK, qD⟩ := q; exact ⟨q0, q1, qP, va_K.moved (u := U) (U := U.calling g mk a) (Vm.Alike.refl U.vm) qK, qD⟩, va_recv hKc hPc (ci := 0) (q0 := 0) rfl rfl, fun U hU hW => ⟨rfl, by rw [hU], by rw [hU]; exact hPc, va_K.moved hW.alike hKc, hDc.weaken (fun _ _ _ _ => trivial)⟩⟩ rfl rfl hl.1 rfl (lv_room (Nat.le_of_ble_eq_true rfl)) dL_law_127 ⟨by (show _ ≤ (1200096 : Nat)); omega, by (show _ ≤ (5501386 : Nat)); omega⟩) hS (fun q _ h => hFc q h) hFc (fun r1 u1 t H1 locs ht hvm hw1q hB hz1 hk1 hS => ?_)
  have hw1 : r1 = (if bb k = 0 then 1 else 0) ∧ u1.1 = (if bb k = 0 then upd bb k 1 else bb) ∧ sd_I v u1.1 u1.2.1 u1.2.2 := hw1q
  obtain ⟨hP1, hK1, hD1⟩ := hB
  rw [ht] at hP1
  obtain ⟨hP, hD⟩ := va_join (wr := [(am, .inr (2, [.ref mv, .ref mb])), (mv, .inl (eV, 64, .inl v)), (mb, .inl (eB, 64, .inl bb))]) (w1 := [(ax, .inr (0, [.ref av, .ref ab, .ref aq])), (av, .inl (dV, 64, .inl v)), (ab, .inl (dB, 64, .inl u1.1)), (aq, .inr (1, [.ref av, .ref ah, .int (nI u1.2.2), .null])), (ah, .inl (dH, 64, .inl u1.2.1))]) hP hD [0, 1, 2, 3, 4] [5, 6, 7] rfl rfl (by decide) (by decide) hk1 hFc hP1 hD1
  generalize H1 = H at hP hS ⊢
  have hP : va_P (dC, dI) vwCl [(am, .inr (2, [.ref mv, .ref mb])), (mv, .inl (eV, 64, .inl v)), (mb, .inl (eB, 64, .inl bb)), (ax, .inr (0, [.ref av, .ref ab, .ref aq])), (av, .inl (dV, 64, .inl v)), (ab, .inl (dB, 64, .inl u1.1)), (aq, .inr (1, [.ref av, .ref ah, .int (nI u1.2.2), .null])), (ah, .inl (dH, 64, .inl u1.2.1))] H := hP
  have hD : va_D (fun q : Nat => s.heap.size ≤ q) [(am, .inr (2, [.ref mv, .ref mb])), (mv, .inl (eV, 64, .inl v)), (mb, .inl (eB, 64, .inl bb)), (ax, .inr (0, [.ref av, .ref ab, .ref aq])), (av, .inl (dV, 64, .inl v)), (ab, .inl (dB, 64, .inl u1.1)), (aq, .inr (1, [.ref av, .ref ah, .int (nI u1.2.2), .null])), (ah, .inl (dH, 64, .inl u1.2.1))] := hD
  refine lv_aload_n hx hb dL_law_130 rfl (lv_at hl 2 rfl) ?_
  refine lv_aload_n hx hb dL_law_131 rfl (lv_at hl 0 rfl) ?_
  refine lv_iload_n hx hb dL_law_132 rfl (lv_at hl 3 rfl) ?_
  refine lv_iconst (v := (nI 1)) hx hb dL_law_133 (by decide +kernel) ?_
  refine lv_iadd hx hb dL_law_134 ?_
  refine lv_topi (fun y_3 ey_3 => ?_)
  obtain rfl : y_3 = nI (i + 1) := ey_3.trans (nI_add i 1)
  refine va_sld hx hb hX hbl hbA hS (vp_in_nI (by omega) (by omega)) dL_law_135 ?_
  refine lv_topi (fun y_4 ey_4 => ?_)
  obtain rfl : y_4 = xs (i + 1) := ey_4.trans (congrArg xs (nI_clamp (by omega)))
  have hPc := hP.sub (ws' := [(am, .inr (2, [.ref mv, .ref mb])), (mv, .inl (eV, 64, .inl v)), (mb, .inl (eB, 64, .inl bb))]) [0, 1, 2] rfl
  have hDc := hD.sub (ws' := [(am, .inr (2, [.ref mv, .ref mb])), (mv, .inl (eV, 64, .inl v)), (mb, .inl (eB, 64, .inl bb))]) [0, 1, 2] (by decide) rfl
  have hKc := hK.sub (tys' := [(eV, .int), (eB, .boolean)]) [3, 4] rfl
  have hFc := va_free (wc := [(am, .inr (2, [.ref mv, .ref mb])), (mv, .inl (eV, 64, .inl v)), (mb, .inl (eB, 64, .inl bb))]) hD hS hA [0, 1, 2] rfl
  refine va_calli (va_runV (As := [.int (xs (i + 1))]) (rest := [.int r1]) ⟨hx, hb, hml, hown, hts⟩ (metX3_enter l dC dI am mv mb eV eB v bb (xs (i + 1)) k H.size hk ek) (cwV 1 hts (lw_V q278 q279 q280 q6 q281) rfl rfl rfl (by decide +kernel) ⟨Nat.le_of_ble_eq_true rfl, Nat.le_of_ble_eq_true rfl⟩) ⟨fun a U g mk q => by obtain ⟨q0, q1, qP, qK, qD⟩ := q; exact ⟨q0, q1, qP, va_K.moved (u := U) (U := U.calling g mk a) (Vm.Alike.refl U.vm) qK, qD⟩, va_recv hKc hPc (ci := 2) (q0 := 0) rfl rfl, fun U hU hW => ⟨rfl, by rw [hU], by rw [hU]; exact hPc, va_K.moved hW.alike hKc, hDc.weaken (fun _ _ _ _ => trivial)⟩⟩ rfl rfl hl.1 rfl (lv_room (Nat.le_of_ble_eq_true rfl)) dL_law_136 ⟨by (show _ ≤ (1200096 : Nat)); omega, by (show _ ≤ (5501386 : Nat)); omega⟩) hS (fun q _ h => hFc q h) hFc (fun r2 u2 t H1 locs ht hvm hw2q hB hz1 hk1 hS => ?_)
  have hw2 : r2 = (if bb k = 0 then 1 else 0) ∧ u2 = (if bb k = 0 then upd bb k 1 else bb) := hw2q
  obtain ⟨hP1, hK1, hD1⟩ := hB
  rw [ht] at hP1
  obtain ⟨hP, hD⟩ := va_join (wr := [(ax, .inr (0, [.ref av, .ref ab, .ref aq])), (av, .inl (dV, 64, .inl v)), (ab, .inl (dB, 64, .inl u1.1)), (aq, .inr (1, [.ref av, .ref ah, .int (nI u1.2.2), .null])), (ah, .inl (dH, 64, .inl u1.2.1))]) (w1 := [(am, .inr (2, [.ref mv, .ref mb])), (mv, .inl (eV, 64, .inl v)), (mb, .inl (eB, 64, .inl u2))]) hP hD [0, 1, 2] [3, 4, 5, 6, 7] rfl rfl (by decide) (by decide) hk1 hFc hP1 hD1
  generalize H1 = H at hP hS ⊢
  have hP : va_P (dC, dI) vwCl [(ax, .inr (0, [.ref av, .ref ab, .ref aq])), (av, .inl (dV, 64, .inl v)), (ab, .inl (dB, 64, .inl u1.1)), (aq, .inr (1, [.ref av, .ref ah, .int (nI u1.2.2), .null])), (ah, .inl (dH, 64, .inl u1.2.1)), (am, .inr (2, [.ref mv, .ref mb])), (mv, .inl (eV, 64, .inl v)), (mb, .inl (eB, 64, .inl u2))] H := hP
  have hD : va_D (fun q : Nat => s.heap.size ≤ q) [(ax, .inr (0, [.ref av, .ref ab, .ref aq])), (av, .inl (dV, 64, .inl v)), (ab, .inl (dB, 64, .inl u1.1)), (aq, .inr (1, [.ref av, .ref ah, .int (nI u1.2.2), .null])), (ah, .inl (dH, 64, .inl u1.2.1)), (am, .inr (2, [.ref mv, .ref mb])), (mv, .inl (eV, 64, .inl v)), (mb, .inl (eB, 64, .inl u2))] := hD
  have hu : u2 = u1.1 := hw2.2.trans hw1.2.1.symm
  rw [hu] at hP hD
  have hP : va_P (dC, dI) vwCl [(ax, .inr (0, [.ref av, .ref ab, .ref aq])), (av, .inl (dV, 64, .inl v)), (ab, .inl (dB, 64, .inl u1.1)), (aq, .inr (1, [.ref av, .ref ah, .int (nI u1.2.2), .null])), (ah, .inl (dH, 64, .inl u1.2.1)), (am, .inr (2, [.ref mv, .ref mb])), (mv, .inl (eV, 64, .inl v)), (mb, .inl (eB, 64, .inl u1.1))] H := hP
  have hD : va_D (fun q : Nat => s.heap.size ≤ q) [(ax, .inr (0, [.ref av, .ref ab, .ref aq])), (av, .inl (dV, 64, .inl v)), (ab, .inl (dB, 64, .inl u1.1)), (aq, .inr (1, [.ref av, .ref ah, .int (nI u1.2.2), .null])), (ah, .inl (dH, 64, .inl u1.2.1)), (am, .inr (2, [.ref mv, .ref mb])), (mv, .inl (eV, 64, .inl v)), (mb, .inl (eB, 64, .inl u1.1))] := hD
  refine lv_icmp_eq (tgt := 274) hx hb dL_law_139 (by decide) (fun c139 => ?_) (fun c139 => absurd (hw1.1.trans hw2.1.symm) c139)
  refine lv_iinc (v := (nI (i + 6))) (lv' := [(3, .int (nI (i + 6))), (0, .ref b0), (1, .ref ax), (2, .ref am)]) hx hb dL_law_274 hl (k := 3) rfl (nI_add i 6) (by decide) rfl (fun ls hl => ?_)
  refine lv_goto (tgt := 18) hx hb dL_law_277 (by decide) ?_
  refine W.widen (k := 8 + (i + 6)) (n := 400 + 64 * (i + 6)) (by omega) (by omega) ?_
  exact kk v u1.1 u1.2.1 u1.2.2 _ _ _ ⟨hP.sub (ws' := [(ax, .inr (0, [.ref av, .ref ab, .ref aq])), (av, .inl (dV, 64, .inl v)), (ab, .inl (dB, 64, .inl u1.1)), (aq, .inr (1, [.ref av, .ref ah, .int (nI u1.2.2), .null])), (ah, .inl (dH, 64, .inl u1.2.1)), (am, .inr (2, [.ref mv, .ref mb])), (mv, .inl (eV, 64, .inl v)), (mb, .inl (eB, 64, .inl u1.1))]) [0, 1, 2, 3, 4, 5, 6, 7] rfl, hD.sub (ws' := [(ax, .inr (0, [.ref av, .ref ab, .ref aq])), (av, .inl (dV, 64, .inl v)), (ab, .inl (dB, 64, .inl u1.1)), (aq, .inr (1, [.ref av, .ref ah, .int (nI u1.2.2), .null])), (ah, .inl (dH, 64, .inl u1.2.1)), (am, .inr (2, [.ref mv, .ref mb])), (mv, .inl (eV, 64, .inl v)), (mb, .inl (eB, 64, .inl u1.1))]) [0, 1, 2, 3, 4, 5, 6, 7] (by decide) rfl, hS, lv_sub hl [1, 2, 3, 0] rfl, hw1.2.2⟩
set_option maxHeartbeats 4000000 in
set_option maxRecDepth 100000 in
/-- case 2: least -/
theorem lw_c2 {p : Program} {l : Launch} {e : Env} {s : State} {m : MethodId} {below : List Frame} {meth : Method} {c : Code} {b0 L : Nat} {xs : Nat → Int32} (hL : L ≤ 288) (C0 : lw_At p s m meth c b0 L xs) {dC : Nat → ClassId} {dI : Nat → Nat → Nat} {ax av ab aq ah am mv mb : Nat} {dV dB dH eV eB : ClassId} (hK : va_K (dC, dI) vwCl [(dV, .int), (dB, .boolean), (dH, .int), (eV, .int), (eB, .boolean)] s) {i : Nat} (hi : i + 6 ≤ L) {v bb f : Nat → Int32} {n : Nat} {H : Heap} {locs : List Loc} {ls : Array Slot} (hJ : lw_J dC dI s b0 ax av ab aq ah am mv mb dV dB dH eV eB v bb f n i H locs ls) (kk : ∀ (v bb f : Nat → Int32) (n : Nat) (H : Heap) (locs : List Loc) (ls : Array Slot), lw_J dC dI s b0 ax av ab aq ah am mv mb dV dB dH eV eB v bb f n (i + 6) H locs ls → W p l e room_1 s m #[Value.ref b0] below meth c H locs (8 + (i + 6)) (400 + 64 * (i + 6)) (lw_Z below #[Value.ref b0] s) (F0 m 18 ls [])) : W p l e room_1 s m #[Value.ref b0] below meth c H locs (8 + i) (400 + 64 * i) (lw_Z below #[Value.ref b0] s) (F0 m 144 ls []) := by
  obtain ⟨hx, hb, hr, hml, hown, hts0, hX, hbl, hlocks, hgv⟩ := id C0
  have hts : ∀ w ∈ lw_all, w.before _ s = true := fun w h => hts0 w (lw_all_tbl h)
  have hA : ∀ q : Nat, s.heap.size ≤ q → (fun q : Nat => s.heap.size ≤ q) q := fun _ h => h
  have hbA : ¬ (fun q : Nat => s.heap.size ≤ q) b0 := Nat.not_le.mpr hbl
  obtain ⟨hP, hD, hS, hl, hI0⟩ := hJ
  have hP : va_P (dC, dI) vwCl [(ax, .inr (0, [.ref av, .ref ab, .ref aq])), (av, .inl (dV, 64, .inl v)), (ab, .inl (dB, 64, .inl bb)), (aq, .inr (1, [.ref av, .ref ah, .int (nI n), .null])), (ah, .inl (dH, 64, .inl f)), (am, .inr (2, [.ref mv, .ref mb])), (mv, .inl (eV, 64, .inl v)), (mb, .inl (eB, 64, .inl bb))] H := hP
  have hD : va_D (fun q : Nat => s.heap.size ≤ q) [(ax, .inr (0, [.ref av, .ref ab, .ref aq])), (av, .inl (dV, 64, .inl v)), (ab, .inl (dB, 64, .inl bb)), (aq, .inr (1, [.ref av, .ref ah, .int (nI n), .null])), (ah, .inl (dH, 64, .inl f)), (am, .inr (2, [.ref mv, .ref mb])), (mv, .inl (eV, 64, .inl v)), (mb, .inl (eB, 64, .inl bb))] := hD
  have hl : lv_has ls 4 [(0, .ref b0), (1, .ref ax), (2, .ref am), (3, .int (nI i))] := hl
  refine lv_aload_n hx hb dL_law_144 rfl (lv_at hl 1 rfl) ?_
  have hPc := hP.sub (ws' := [(ax, .inr (0, [.ref av, .ref ab, .ref aq])), (av, .inl (dV, 64, .inl v)), (ab, .inl (dB, 64, .inl bb)), (aq, .inr (1, [.ref av, .ref ah, .int (nI n), .null])), (ah, .inl (dH, 64, .inl f))]) [0, 1, 2, 3, 4] rfl
  have hDc := hD.sub (ws' := [(ax, .inr (0, [.ref av, .ref ab, .ref aq])), (av, .inl (dV, 64, .inl v)), (ab, .inl (dB, 64, .inl bb)), (aq, .inr (1, [.ref av, .ref ah, .int (nI n), .null])), (ah, .inl (dH, 64, .inl f))]) [0, 1, 2, 3, 4] (by decide) rfl
  have hKc := hK.sub (tys' := [(dV, .int), (dB, .boolean), (dH, .int)]) [0, 1, 2] rfl
  have hFc := va_free (wc := [(ax, .inr (0, [.ref av, .ref ab, .ref aq])), (av, .inl (dV, 64, .inl v)), (ab, .inl (dB, 64, .inl bb)), (aq, .inr (1, [.ref av, .ref ah, .int (nI n), .null])), (ah, .inl (dH, 64, .inl f))]) hD hS hA [0, 1, 2, 3, 4] rfl
  refine va_calli (va_runV (As := []) (rest := []) ⟨hx, hb, hml, hown, hts⟩ (metX0_least l dC dI ax av ab aq ah dV dB dH v bb f n H.size hI0) (cwV 0 hts (lw_V q161 q162 q163 q3 q164) rfl rfl rfl (by decide +kernel) ⟨Nat.le_of_ble_eq_true rfl, Nat.le_of_ble_eq_true rfl⟩) ⟨fun a U g mk q => by obtain ⟨q0, q1, qP, qK, qD⟩ := q; exact ⟨q0, q1, qP, va_K.moved (u := U) (U := U.calling g mk a) (Vm.Alike.refl U.vm) qK, qD⟩, va_recv hKc hPc (ci := 0) (q0 := 0) rfl rfl, fun U hU hW => ⟨rfl, by rw [hU], by rw [hU]; exact hPc, va_K.moved hW.alike hKc, hDc.weaken (fun _ _ _ _ => trivial)⟩⟩ rfl rfl hl.1 rfl (lv_room (Nat.le_of_ble_eq_true rfl)) dL_law_145 ⟨by (show _ ≤ (1200096 : Nat)); omega, by (show _ ≤ (5501386 : Nat)); omega⟩) hS (fun q _ h => hFc q h) hFc (fun r1 u1 t H1 locs ht hvm hw1q hB hz1 hk1 hS => ?_)
  have hw1 : r1 = sd_lp v bb 64 := hw1q
  obtain ⟨hP1, hK1, hD1⟩ := hB
  rw [ht] at hP1
  obtain ⟨hP, hD⟩ := va_join (wr := [(am, .inr (2, [.ref mv, .ref mb])), (mv, .inl (eV, 64, .inl v)), (mb, .inl (eB, 64, .inl bb))]) (w1 := [(ax, .inr (0, [.ref av, .ref ab, .ref aq])), (av, .inl (dV, 64, .inl v)), (ab, .inl (dB, 64, .inl bb)), (aq, .inr (1, [.ref av, .ref ah, .int (nI n), .null])), (ah, .inl (dH, 64, .inl f))]) hP hD [0, 1, 2, 3, 4] [5, 6, 7] rfl rfl (by decide) (by decide) hk1 hFc hP1 hD1
  generalize H1 = H at hP hS ⊢
  have hP : va_P (dC, dI) vwCl [(am, .inr (2, [.ref mv, .ref mb])), (mv, .inl (eV, 64, .inl v)), (mb, .inl (eB, 64, .inl bb)), (ax, .inr (0, [.ref av, .ref ab, .ref aq])), (av, .inl (dV, 64, .inl v)), (ab, .inl (dB, 64, .inl bb)), (aq, .inr (1, [.ref av, .ref ah, .int (nI n), .null])), (ah, .inl (dH, 64, .inl f))] H := hP
  have hD : va_D (fun q : Nat => s.heap.size ≤ q) [(am, .inr (2, [.ref mv, .ref mb])), (mv, .inl (eV, 64, .inl v)), (mb, .inl (eB, 64, .inl bb)), (ax, .inr (0, [.ref av, .ref ab, .ref aq])), (av, .inl (dV, 64, .inl v)), (ab, .inl (dB, 64, .inl bb)), (aq, .inr (1, [.ref av, .ref ah, .int (nI n), .null])), (ah, .inl (dH, 64, .inl f))] := hD
  refine lv_aload_n hx hb dL_law_148 rfl (lv_at hl 2 rfl) ?_
  have hPc := hP.sub (ws' := [(am, .inr (2, [.ref mv, .ref mb])), (mv, .inl (eV, 64, .inl v)), (mb, .inl (eB, 64, .inl bb))]) [0, 1, 2] rfl
  have hDc := hD.sub (ws' := [(am, .inr (2, [.ref mv, .ref mb])), (mv, .inl (eV, 64, .inl v)), (mb, .inl (eB, 64, .inl bb))]) [0, 1, 2] (by decide) rfl
  have hKc := hK.sub (tys' := [(eV, .int), (eB, .boolean)]) [3, 4] rfl
  have hFc := va_free (wc := [(am, .inr (2, [.ref mv, .ref mb])), (mv, .inl (eV, 64, .inl v)), (mb, .inl (eB, 64, .inl bb))]) hD hS hA [0, 1, 2] rfl
  refine va_calli (va_runV (As := []) (rest := [.int r1]) ⟨hx, hb, hml, hown, hts⟩ (metX3_least l dC dI am mv mb eV eB v bb H.size ) (cwV 0 hts (lw_V q282 q283 q284 q6 q285) rfl rfl rfl (by decide +kernel) ⟨Nat.le_of_ble_eq_true rfl, Nat.le_of_ble_eq_true rfl⟩) ⟨fun a U g mk q => by obtain ⟨q0, q1, qP, qK, qD⟩ := q; exact ⟨q0, q1, qP, va_K.moved (u := U) (U := U.calling g mk a) (Vm.Alike.refl U.vm) qK, qD⟩, va_recv hKc hPc (ci := 2) (q0 := 0) rfl rfl, fun U hU hW => ⟨rfl, by rw [hU], by rw [hU]; exact hPc, va_K.moved hW.alike hKc, hDc.weaken (fun _ _ _ _ => trivial)⟩⟩ rfl rfl hl.1 rfl (lv_room (Nat.le_of_ble_eq_true rfl)) dL_law_149 ⟨by (show _ ≤ (1200096 : Nat)); omega, by (show _ ≤ (5501386 : Nat)); omega⟩) hS (fun q _ h => hFc q h) hFc (fun r2 u2 t H1 locs ht hvm hw2q hB hz1 hk1 hS => ?_)
  have hw2 : r2 = sd_lp v bb 64 := hw2q
  obtain ⟨hP1, hK1, hD1⟩ := hB
  rw [ht] at hP1
  obtain ⟨hP, hD⟩ := va_join (wr := [(ax, .inr (0, [.ref av, .ref ab, .ref aq])), (av, .inl (dV, 64, .inl v)), (ab, .inl (dB, 64, .inl bb)), (aq, .inr (1, [.ref av, .ref ah, .int (nI n), .null])), (ah, .inl (dH, 64, .inl f))]) (w1 := [(am, .inr (2, [.ref mv, .ref mb])), (mv, .inl (eV, 64, .inl v)), (mb, .inl (eB, 64, .inl bb))]) hP hD [0, 1, 2] [3, 4, 5, 6, 7] rfl rfl (by decide) (by decide) hk1 hFc hP1 hD1
  generalize H1 = H at hP hS ⊢
  have hP : va_P (dC, dI) vwCl [(ax, .inr (0, [.ref av, .ref ab, .ref aq])), (av, .inl (dV, 64, .inl v)), (ab, .inl (dB, 64, .inl bb)), (aq, .inr (1, [.ref av, .ref ah, .int (nI n), .null])), (ah, .inl (dH, 64, .inl f)), (am, .inr (2, [.ref mv, .ref mb])), (mv, .inl (eV, 64, .inl v)), (mb, .inl (eB, 64, .inl bb))] H := hP
  have hD : va_D (fun q : Nat => s.heap.size ≤ q) [(ax, .inr (0, [.ref av, .ref ab, .ref aq])), (av, .inl (dV, 64, .inl v)), (ab, .inl (dB, 64, .inl bb)), (aq, .inr (1, [.ref av, .ref ah, .int (nI n), .null])), (ah, .inl (dH, 64, .inl f)), (am, .inr (2, [.ref mv, .ref mb])), (mv, .inl (eV, 64, .inl v)), (mb, .inl (eB, 64, .inl bb))] := hD
  refine lv_icmp_eq (tgt := 274) hx hb dL_law_152 (by decide) (fun c152 => ?_) (fun c152 => absurd (hw1.trans hw2.symm) c152)
  refine lv_iinc (v := (nI (i + 6))) (lv' := [(3, .int (nI (i + 6))), (0, .ref b0), (1, .ref ax), (2, .ref am)]) hx hb dL_law_274 hl (k := 3) rfl (nI_add i 6) (by decide) rfl (fun ls hl => ?_)
  refine lv_goto (tgt := 18) hx hb dL_law_277 (by decide) ?_
  refine W.widen (k := 8 + (i + 6)) (n := 400 + 64 * (i + 6)) (by omega) (by omega) ?_
  exact kk v bb f n _ _ _ ⟨hP.sub (ws' := [(ax, .inr (0, [.ref av, .ref ab, .ref aq])), (av, .inl (dV, 64, .inl v)), (ab, .inl (dB, 64, .inl bb)), (aq, .inr (1, [.ref av, .ref ah, .int (nI n), .null])), (ah, .inl (dH, 64, .inl f)), (am, .inr (2, [.ref mv, .ref mb])), (mv, .inl (eV, 64, .inl v)), (mb, .inl (eB, 64, .inl bb))]) [0, 1, 2, 3, 4, 5, 6, 7] rfl, hD.sub (ws' := [(ax, .inr (0, [.ref av, .ref ab, .ref aq])), (av, .inl (dV, 64, .inl v)), (ab, .inl (dB, 64, .inl bb)), (aq, .inr (1, [.ref av, .ref ah, .int (nI n), .null])), (ah, .inl (dH, 64, .inl f)), (am, .inr (2, [.ref mv, .ref mb])), (mv, .inl (eV, 64, .inl v)), (mb, .inl (eB, 64, .inl bb))]) [0, 1, 2, 3, 4, 5, 6, 7] (by decide) rfl, hS, lv_sub hl [1, 2, 3, 0] rfl, hI0⟩
set_option maxHeartbeats 4000000 in
set_option maxRecDepth 100000 in
/-- case 3: take -/
theorem lw_c3 {p : Program} {l : Launch} {e : Env} {s : State} {m : MethodId} {below : List Frame} {meth : Method} {c : Code} {b0 L : Nat} {xs : Nat → Int32} (hL : L ≤ 288) (C0 : lw_At p s m meth c b0 L xs) {dC : Nat → ClassId} {dI : Nat → Nat → Nat} {ax av ab aq ah am mv mb : Nat} {dV dB dH eV eB : ClassId} (hK : va_K (dC, dI) vwCl [(dV, .int), (dB, .boolean), (dH, .int), (eV, .int), (eB, .boolean)] s) {i : Nat} (hi : i + 6 ≤ L) {v bb f : Nat → Int32} {n : Nat} {H : Heap} {locs : List Loc} {ls : Array Slot} (hJ : lw_J dC dI s b0 ax av ab aq ah am mv mb dV dB dH eV eB v bb f n i H locs ls) (kk : ∀ (v bb f : Nat → Int32) (n : Nat) (H : Heap) (locs : List Loc) (ls : Array Slot), lw_J dC dI s b0 ax av ab aq ah am mv mb dV dB dH eV eB v bb f n (i + 6) H locs ls → W p l e room_1 s m #[Value.ref b0] below meth c H locs (8 + (i + 6)) (400 + 64 * (i + 6)) (lw_Z below #[Value.ref b0] s) (F0 m 18 ls [])) : W p l e room_1 s m #[Value.ref b0] below meth c H locs (8 + i) (400 + 64 * i) (lw_Z below #[Value.ref b0] s) (F0 m 157 ls []) := by
  obtain ⟨hx, hb, hr, hml, hown, hts0, hX, hbl, hlocks, hgv⟩ := id C0
  have hts : ∀ w ∈ lw_all, w.before _ s = true := fun w h => hts0 w (lw_all_tbl h)
  have hA : ∀ q : Nat, s.heap.size ≤ q → (fun q : Nat => s.heap.size ≤ q) q := fun _ h => h
  have hbA : ¬ (fun q : Nat => s.heap.size ≤ q) b0 := Nat.not_le.mpr hbl
  obtain ⟨hP, hD, hS, hl, hI0⟩ := hJ
  have hP : va_P (dC, dI) vwCl [(ax, .inr (0, [.ref av, .ref ab, .ref aq])), (av, .inl (dV, 64, .inl v)), (ab, .inl (dB, 64, .inl bb)), (aq, .inr (1, [.ref av, .ref ah, .int (nI n), .null])), (ah, .inl (dH, 64, .inl f)), (am, .inr (2, [.ref mv, .ref mb])), (mv, .inl (eV, 64, .inl v)), (mb, .inl (eB, 64, .inl bb))] H := hP
  have hD : va_D (fun q : Nat => s.heap.size ≤ q) [(ax, .inr (0, [.ref av, .ref ab, .ref aq])), (av, .inl (dV, 64, .inl v)), (ab, .inl (dB, 64, .inl bb)), (aq, .inr (1, [.ref av, .ref ah, .int (nI n), .null])), (ah, .inl (dH, 64, .inl f)), (am, .inr (2, [.ref mv, .ref mb])), (mv, .inl (eV, 64, .inl v)), (mb, .inl (eB, 64, .inl bb))] := hD
  have hl : lv_has ls 4 [(0, .ref b0), (1, .ref ax), (2, .ref am), (3, .int (nI i))] := hl
  refine lv_aload_n hx hb dL_law_157 rfl (lv_at hl 1 rfl) ?_
  have hPc := hP.sub (ws' := [(ax, .inr (0, [.ref av, .ref ab, .ref aq])), (av, .inl (dV, 64, .inl v)), (ab, .inl (dB, 64, .inl bb)), (aq, .inr (1, [.ref av, .ref ah, .int (nI n), .null])), (ah, .inl (dH, 64, .inl f))]) [0, 1, 2, 3, 4] rfl
  have hDc := hD.sub (ws' := [(ax, .inr (0, [.ref av, .ref ab, .ref aq])), (av, .inl (dV, 64, .inl v)), (ab, .inl (dB, 64, .inl bb)), (aq, .inr (1, [.ref av, .ref ah, .int (nI n), .null])), (ah, .inl (dH, 64, .inl f))]) [0, 1, 2, 3, 4] (by decide) rfl
  have hKc := hK.sub (tys' := [(dV, .int), (dB, .boolean), (dH, .int)]) [0, 1, 2] rfl
  have hFc := va_free (wc := [(ax, .inr (0, [.ref av, .ref ab, .ref aq])), (av, .inl (dV, 64, .inl v)), (ab, .inl (dB, 64, .inl bb)), (aq, .inr (1, [.ref av, .ref ah, .int (nI n), .null])), (ah, .inl (dH, 64, .inl f))]) hD hS hA [0, 1, 2, 3, 4] rfl
  refine va_calli (va_runV (As := []) (rest := []) ⟨hx, hb, hml, hown, hts⟩ (metX0_take l dC dI ax av ab aq ah dV dB dH v bb f n H.size hI0) (cwV 0 hts (lw_V q194 q195 q196 q3 q197) rfl rfl rfl (by decide +kernel) ⟨Nat.le_of_ble_eq_true rfl, Nat.le_of_ble_eq_true rfl⟩) ⟨fun a U g mk q => by obtain ⟨q0, q1, qP, qK, qD⟩ := q; exact ⟨q0, q1, qP, va_K.moved (u := U) (U := U.calling g mk a) (Vm.Alike.refl U.vm) qK, qD⟩, va_recv hKc hPc (ci := 0) (q0 := 0) rfl rfl, fun U hU hW => ⟨rfl, by rw [hU], by rw [hU]; exact hPc, va_K.moved hW.alike hKc, hDc.weaken (fun _ _ _ _ => trivial)⟩⟩ rfl rfl hl.1 rfl (lv_room (Nat.le_of_ble_eq_true rfl)) dL_law_158 ⟨by (show _ ≤ (1200096 : Nat)); omega, by (show _ ≤ (5501386 : Nat)); omega⟩) hS (fun q _ h => hFc q h) hFc (fun r1 u1 t H1 locs ht hvm hw1q hB hz1 hk1 hS => ?_)
  have hw1 : r1 = sd_lp v bb 64 ∧ u1.1 = (if sd_lp v bb 64 < 0 then bb else upd bb (sd_lp v bb 64).toNatClampNeg 0) ∧ sd_I v u1.1 u1.2.1 u1.2.2 := hw1q
  obtain ⟨hP1, hK1, hD1⟩ := hB
  rw [ht] at hP1
  obtain ⟨hP, hD⟩ := va_join (wr := [(am, .inr (2, [.ref mv, .ref mb])), (mv, .inl (eV, 64, .inl v)), (mb, .inl (eB, 64, .inl bb))]) (w1 := [(ax, .inr (0, [.ref av, .ref ab, .ref aq])), (av, .inl (dV, 64, .inl v)), (ab, .inl (dB, 64, .inl u1.1)), (aq, .inr (1, [.ref av, .ref ah, .int (nI u1.2.2), .null])), (ah, .inl (dH, 64, .inl u1.2.1))]) hP hD [0, 1, 2, 3, 4] [5, 6, 7] rfl rfl (by decide) (by decide) hk1 hFc hP1 hD1
  generalize H1 = H at hP hS ⊢
  have hP : va_P (dC, dI) vwCl [(am, .inr (2, [.ref mv, .ref mb])), (mv, .inl (eV, 64, .inl v)), (mb, .inl (eB, 64, .inl bb)), (ax, .inr (0, [.ref av, .ref ab, .ref aq])), (av, .inl (dV, 64, .inl v)), (ab, .inl (dB, 64, .inl u1.1)), (aq, .inr (1, [.ref av, .ref ah, .int (nI u1.2.2), .null])), (ah, .inl (dH, 64, .inl u1.2.1))] H := hP
  have hD : va_D (fun q : Nat => s.heap.size ≤ q) [(am, .inr (2, [.ref mv, .ref mb])), (mv, .inl (eV, 64, .inl v)), (mb, .inl (eB, 64, .inl bb)), (ax, .inr (0, [.ref av, .ref ab, .ref aq])), (av, .inl (dV, 64, .inl v)), (ab, .inl (dB, 64, .inl u1.1)), (aq, .inr (1, [.ref av, .ref ah, .int (nI u1.2.2), .null])), (ah, .inl (dH, 64, .inl u1.2.1))] := hD
  refine lv_aload_n hx hb dL_law_161 rfl (lv_at hl 2 rfl) ?_
  have hPc := hP.sub (ws' := [(am, .inr (2, [.ref mv, .ref mb])), (mv, .inl (eV, 64, .inl v)), (mb, .inl (eB, 64, .inl bb))]) [0, 1, 2] rfl
  have hDc := hD.sub (ws' := [(am, .inr (2, [.ref mv, .ref mb])), (mv, .inl (eV, 64, .inl v)), (mb, .inl (eB, 64, .inl bb))]) [0, 1, 2] (by decide) rfl
  have hKc := hK.sub (tys' := [(eV, .int), (eB, .boolean)]) [3, 4] rfl
  have hFc := va_free (wc := [(am, .inr (2, [.ref mv, .ref mb])), (mv, .inl (eV, 64, .inl v)), (mb, .inl (eB, 64, .inl bb))]) hD hS hA [0, 1, 2] rfl
  refine va_calli (va_runV (As := []) (rest := [.int r1]) ⟨hx, hb, hml, hown, hts⟩ (metX3_take l dC dI am mv mb eV eB v bb H.size ) (cwV 0 hts (lw_V q290 q291 q292 q6 q293) rfl rfl rfl (by decide +kernel) ⟨Nat.le_of_ble_eq_true rfl, Nat.le_of_ble_eq_true rfl⟩) ⟨fun a U g mk q => by obtain ⟨q0, q1, qP, qK, qD⟩ := q; exact ⟨q0, q1, qP, va_K.moved (u := U) (U := U.calling g mk a) (Vm.Alike.refl U.vm) qK, qD⟩, va_recv hKc hPc (ci := 2) (q0 := 0) rfl rfl, fun U hU hW => ⟨rfl, by rw [hU], by rw [hU]; exact hPc, va_K.moved hW.alike hKc, hDc.weaken (fun _ _ _ _ => trivial)⟩⟩ rfl rfl hl.1 rfl (lv_room (Nat.le_of_ble_eq_true rfl)) dL_law_162 ⟨by (show _ ≤ (1200096 : Nat)); omega, by (show _ ≤ (5501386 : Nat)); omega⟩) hS (fun q _ h => hFc q h) hFc (fun r2 u2 t H1 locs ht hvm hw2q hB hz1 hk1 hS => ?_)
  have hw2 : r2 = sd_lp v bb 64 ∧ u2 = (if sd_lp v bb 64 < 0 then bb else upd bb (sd_lp v bb 64).toNatClampNeg 0) := hw2q
  obtain ⟨hP1, hK1, hD1⟩ := hB
  rw [ht] at hP1
  obtain ⟨hP, hD⟩ := va_join (wr := [(ax, .inr (0, [.ref av, .ref ab, .ref aq])), (av, .inl (dV, 64, .inl v)), (ab, .inl (dB, 64, .inl u1.1)), (aq, .inr (1, [.ref av, .ref ah, .int (nI u1.2.2), .null])), (ah, .inl (dH, 64, .inl u1.2.1))]) (w1 := [(am, .inr (2, [.ref mv, .ref mb])), (mv, .inl (eV, 64, .inl v)), (mb, .inl (eB, 64, .inl u2))]) hP hD [0, 1, 2] [3, 4, 5, 6, 7] rfl rfl (by decide) (by decide) hk1 hFc hP1 hD1
  generalize H1 = H at hP hS ⊢
  have hP : va_P (dC, dI) vwCl [(ax, .inr (0, [.ref av, .ref ab, .ref aq])), (av, .inl (dV, 64, .inl v)), (ab, .inl (dB, 64, .inl u1.1)), (aq, .inr (1, [.ref av, .ref ah, .int (nI u1.2.2), .null])), (ah, .inl (dH, 64, .inl u1.2.1)), (am, .inr (2, [.ref mv, .ref mb])), (mv, .inl (eV, 64, .inl v)), (mb, .inl (eB, 64, .inl u2))] H := hP
  have hD : va_D (fun q : Nat => s.heap.size ≤ q) [(ax, .inr (0, [.ref av, .ref ab, .ref aq])), (av, .inl (dV, 64, .inl v)), (ab, .inl (dB, 64, .inl u1.1)), (aq, .inr (1, [.ref av, .ref ah, .int (nI u1.2.2), .null])), (ah, .inl (dH, 64, .inl u1.2.1)), (am, .inr (2, [.ref mv, .ref mb])), (mv, .inl (eV, 64, .inl v)), (mb, .inl (eB, 64, .inl u2))] := hD
  have hu : u2 = u1.1 := hw2.2.trans hw1.2.1.symm
  rw [hu] at hP hD
  have hP : va_P (dC, dI) vwCl [(ax, .inr (0, [.ref av, .ref ab, .ref aq])), (av, .inl (dV, 64, .inl v)), (ab, .inl (dB, 64, .inl u1.1)), (aq, .inr (1, [.ref av, .ref ah, .int (nI u1.2.2), .null])), (ah, .inl (dH, 64, .inl u1.2.1)), (am, .inr (2, [.ref mv, .ref mb])), (mv, .inl (eV, 64, .inl v)), (mb, .inl (eB, 64, .inl u1.1))] H := hP
  have hD : va_D (fun q : Nat => s.heap.size ≤ q) [(ax, .inr (0, [.ref av, .ref ab, .ref aq])), (av, .inl (dV, 64, .inl v)), (ab, .inl (dB, 64, .inl u1.1)), (aq, .inr (1, [.ref av, .ref ah, .int (nI u1.2.2), .null])), (ah, .inl (dH, 64, .inl u1.2.1)), (am, .inr (2, [.ref mv, .ref mb])), (mv, .inl (eV, 64, .inl v)), (mb, .inl (eB, 64, .inl u1.1))] := hD
  refine lv_icmp_eq (tgt := 274) hx hb dL_law_165 (by decide) (fun c165 => ?_) (fun c165 => absurd (hw1.1.trans hw2.1.symm) c165)
  refine lv_iinc (v := (nI (i + 6))) (lv' := [(3, .int (nI (i + 6))), (0, .ref b0), (1, .ref ax), (2, .ref am)]) hx hb dL_law_274 hl (k := 3) rfl (nI_add i 6) (by decide) rfl (fun ls hl => ?_)
  refine lv_goto (tgt := 18) hx hb dL_law_277 (by decide) ?_
  refine W.widen (k := 8 + (i + 6)) (n := 400 + 64 * (i + 6)) (by omega) (by omega) ?_
  exact kk v u1.1 u1.2.1 u1.2.2 _ _ _ ⟨hP.sub (ws' := [(ax, .inr (0, [.ref av, .ref ab, .ref aq])), (av, .inl (dV, 64, .inl v)), (ab, .inl (dB, 64, .inl u1.1)), (aq, .inr (1, [.ref av, .ref ah, .int (nI u1.2.2), .null])), (ah, .inl (dH, 64, .inl u1.2.1)), (am, .inr (2, [.ref mv, .ref mb])), (mv, .inl (eV, 64, .inl v)), (mb, .inl (eB, 64, .inl u1.1))]) [0, 1, 2, 3, 4, 5, 6, 7] rfl, hD.sub (ws' := [(ax, .inr (0, [.ref av, .ref ab, .ref aq])), (av, .inl (dV, 64, .inl v)), (ab, .inl (dB, 64, .inl u1.1)), (aq, .inr (1, [.ref av, .ref ah, .int (nI u1.2.2), .null])), (ah, .inl (dH, 64, .inl u1.2.1)), (am, .inr (2, [.ref mv, .ref mb])), (mv, .inl (eV, 64, .inl v)), (mb, .inl (eB, 64, .inl u1.1))]) [0, 1, 2, 3, 4, 5, 6, 7] (by decide) rfl, hS, lv_sub hl [1, 2, 3, 0] rfl, hw1.2.2⟩
set_option maxHeartbeats 4000000 in
set_option maxRecDepth 100000 in
/-- case 4: headChanged -/
theorem lw_c4 {p : Program} {l : Launch} {e : Env} {s : State} {m : MethodId} {below : List Frame} {meth : Method} {c : Code} {b0 L : Nat} {xs : Nat → Int32} (hL : L ≤ 288) (C0 : lw_At p s m meth c b0 L xs) {dC : Nat → ClassId} {dI : Nat → Nat → Nat} {ax av ab aq ah am mv mb : Nat} {dV dB dH eV eB : ClassId} (hK : va_K (dC, dI) vwCl [(dV, .int), (dB, .boolean), (dH, .int), (eV, .int), (eB, .boolean)] s) {i : Nat} (hi : i + 6 ≤ L) {v bb f : Nat → Int32} {n : Nat} {H : Heap} {locs : List Loc} {ls : Array Slot} (hJ : lw_J dC dI s b0 ax av ab aq ah am mv mb dV dB dH eV eB v bb f n i H locs ls) (kk : ∀ (v bb f : Nat → Int32) (n : Nat) (H : Heap) (locs : List Loc) (ls : Array Slot), lw_J dC dI s b0 ax av ab aq ah am mv mb dV dB dH eV eB v bb f n (i + 6) H locs ls → W p l e room_1 s m #[Value.ref b0] below meth c H locs (8 + (i + 6)) (400 + 64 * (i + 6)) (lw_Z below #[Value.ref b0] s) (F0 m 18 ls [])) : W p l e room_1 s m #[Value.ref b0] below meth c H locs (8 + i) (400 + 64 * i) (lw_Z below #[Value.ref b0] s) (F0 m 170 ls []) := by
  obtain ⟨hx, hb, hr, hml, hown, hts0, hX, hbl, hlocks, hgv⟩ := id C0
  have hts : ∀ w ∈ lw_all, w.before _ s = true := fun w h => hts0 w (lw_all_tbl h)
  have hA : ∀ q : Nat, s.heap.size ≤ q → (fun q : Nat => s.heap.size ≤ q) q := fun _ h => h
  have hbA : ¬ (fun q : Nat => s.heap.size ≤ q) b0 := Nat.not_le.mpr hbl
  obtain ⟨hP, hD, hS, hl, hI0⟩ := hJ
  have hP : va_P (dC, dI) vwCl [(ax, .inr (0, [.ref av, .ref ab, .ref aq])), (av, .inl (dV, 64, .inl v)), (ab, .inl (dB, 64, .inl bb)), (aq, .inr (1, [.ref av, .ref ah, .int (nI n), .null])), (ah, .inl (dH, 64, .inl f)), (am, .inr (2, [.ref mv, .ref mb])), (mv, .inl (eV, 64, .inl v)), (mb, .inl (eB, 64, .inl bb))] H := hP
  have hD : va_D (fun q : Nat => s.heap.size ≤ q) [(ax, .inr (0, [.ref av, .ref ab, .ref aq])), (av, .inl (dV, 64, .inl v)), (ab, .inl (dB, 64, .inl bb)), (aq, .inr (1, [.ref av, .ref ah, .int (nI n), .null])), (ah, .inl (dH, 64, .inl f)), (am, .inr (2, [.ref mv, .ref mb])), (mv, .inl (eV, 64, .inl v)), (mb, .inl (eB, 64, .inl bb))] := hD
  have hl : lv_has ls 4 [(0, .ref b0), (1, .ref ax), (2, .ref am), (3, .int (nI i))] := hl
  refine lv_aload_n hx hb dL_law_170 rfl (lv_at hl 1 rfl) ?_
  refine lv_aload_n hx hb dL_law_171 rfl (lv_at hl 0 rfl) ?_
  refine lv_iload_n hx hb dL_law_172 rfl (lv_at hl 3 rfl) ?_
  refine lv_iconst (v := (nI 1)) hx hb dL_law_173 (by decide +kernel) ?_
  refine lv_iadd hx hb dL_law_174 ?_
  refine lv_topi (fun y_1 ey_1 => ?_)
  obtain rfl : y_1 = nI (i + 1) := ey_1.trans (nI_add i 1)
  refine va_sld hx hb hX hbl hbA hS (vp_in_nI (by omega) (by omega)) dL_law_175 ?_
  refine lv_topi (fun y_2 ey_2 => ?_)
  obtain rfl : y_2 = xs (i + 1) := ey_2.trans (congrArg xs (nI_clamp (by omega)))
  have hPc := hP.sub (ws' := [(ax, .inr (0, [.ref av, .ref ab, .ref aq])), (av, .inl (dV, 64, .inl v)), (ab, .inl (dB, 64, .inl bb)), (aq, .inr (1, [.ref av, .ref ah, .int (nI n), .null])), (ah, .inl (dH, 64, .inl f))]) [0, 1, 2, 3, 4] rfl
  have hDc := hD.sub (ws' := [(ax, .inr (0, [.ref av, .ref ab, .ref aq])), (av, .inl (dV, 64, .inl v)), (ab, .inl (dB, 64, .inl bb)), (aq, .inr (1, [.ref av, .ref ah, .int (nI n), .null])), (ah, .inl (dH, 64, .inl f))]) [0, 1, 2, 3, 4] (by decide) rfl
  have hKc := hK.sub (tys' := [(dV, .int), (dB, .boolean), (dH, .int)]) [0, 1, 2] rfl
  have hFc := va_free (wc := [(ax, .inr (0, [.ref av, .ref ab, .ref aq])), (av, .inl (dV, 64, .inl v)), (ab, .inl (dB, 64, .inl bb)), (aq, .inr (1, [.ref av, .ref ah, .int (nI n), .null])), (ah, .inl (dH, 64, .inl f))]) hD hS hA [0, 1, 2, 3, 4] rfl
  refine va_calli (va_runV (As := [.int (xs (i + 1))]) (rest := []) ⟨hx, hb, hml, hown, hts⟩ (metX0_headChanged l dC dI ax av ab aq ah dV dB dH v bb f n (xs (i + 1)) H.size hI0) (cwV 1 hts (lw_V q205 q206 q207 q3 q208) rfl rfl rfl (by decide +kernel) ⟨Nat.le_of_ble_eq_true rfl, Nat.le_of_ble_eq_true rfl⟩) ⟨fun a U g mk q => by obtain ⟨q0, q1, qP, qK, qD⟩ := q; exact ⟨q0, q1, qP, va_K.moved (u := U) (U := U.calling g mk a) (Vm.Alike.refl U.vm) qK, qD⟩, va_recv hKc hPc (ci := 0) (q0 := 0) rfl rfl, fun U hU hW => ⟨rfl, by rw [hU], by rw [hU]; exact hPc, va_K.moved hW.alike hKc, hDc.weaken (fun _ _ _ _ => trivial)⟩⟩ rfl rfl hl.1 rfl (lv_room (Nat.le_of_ble_eq_true rfl)) dL_law_176 ⟨by (show _ ≤ (1200096 : Nat)); omega, by (show _ ≤ (5501386 : Nat)); omega⟩) hS (fun q _ h => hFc q h) hFc (fun r1 u1 t H1 locs ht hvm hw1q hB hz1 hk1 hS => ?_)
  have hw1 : r1 = (if sd_lp v bb 64 < 0 then 0 else 1) ∧ u1.1 = (if sd_lp v bb 64 < 0 then v else upd v (sd_lp v bb 64).toNatClampNeg (sd_mk (xs (i + 1)) (sd_lp v bb 64))) ∧ sd_I u1.1 bb u1.2 n := hw1q
  obtain ⟨hP1, hK1, hD1⟩ := hB
  rw [ht] at hP1
  obtain ⟨hP, hD⟩ := va_join (wr := [(am, .inr (2, [.ref mv, .ref mb])), (mv, .inl (eV, 64, .inl v)), (mb, .inl (eB, 64, .inl bb))]) (w1 := [(ax, .inr (0, [.ref av, .ref ab, .ref aq])), (av, .inl (dV, 64, .inl u1.1)), (ab, .inl (dB, 64, .inl bb)), (aq, .inr (1, [.ref av, .ref ah, .int (nI n), .null])), (ah, .inl (dH, 64, .inl u1.2))]) hP hD [0, 1, 2, 3, 4] [5, 6, 7] rfl rfl (by decide) (by decide) hk1 hFc hP1 hD1
  generalize H1 = H at hP hS ⊢
  have hP : va_P (dC, dI) vwCl [(am, .inr (2, [.ref mv, .ref mb])), (mv, .inl (eV, 64, .inl v)), (mb, .inl (eB, 64, .inl bb)), (ax, .inr (0, [.ref av, .ref ab, .ref aq])), (av, .inl (dV, 64, .inl u1.1)), (ab, .inl (dB, 64, .inl bb)), (aq, .inr (1, [.ref av, .ref ah, .int (nI n), .null])), (ah, .inl (dH, 64, .inl u1.2))] H := hP
  have hD : va_D (fun q : Nat => s.heap.size ≤ q) [(am, .inr (2, [.ref mv, .ref mb])), (mv, .inl (eV, 64, .inl v)), (mb, .inl (eB, 64, .inl bb)), (ax, .inr (0, [.ref av, .ref ab, .ref aq])), (av, .inl (dV, 64, .inl u1.1)), (ab, .inl (dB, 64, .inl bb)), (aq, .inr (1, [.ref av, .ref ah, .int (nI n), .null])), (ah, .inl (dH, 64, .inl u1.2))] := hD
  refine lv_aload_n hx hb dL_law_179 rfl (lv_at hl 2 rfl) ?_
  refine lv_aload_n hx hb dL_law_180 rfl (lv_at hl 0 rfl) ?_
  refine lv_iload_n hx hb dL_law_181 rfl (lv_at hl 3 rfl) ?_
  refine lv_iconst (v := (nI 1)) hx hb dL_law_182 (by decide +kernel) ?_
  refine lv_iadd hx hb dL_law_183 ?_
  refine lv_topi (fun y_3 ey_3 => ?_)
  obtain rfl : y_3 = nI (i + 1) := ey_3.trans (nI_add i 1)
  refine va_sld hx hb hX hbl hbA hS (vp_in_nI (by omega) (by omega)) dL_law_184 ?_
  refine lv_topi (fun y_4 ey_4 => ?_)
  obtain rfl : y_4 = xs (i + 1) := ey_4.trans (congrArg xs (nI_clamp (by omega)))
  have hPc := hP.sub (ws' := [(am, .inr (2, [.ref mv, .ref mb])), (mv, .inl (eV, 64, .inl v)), (mb, .inl (eB, 64, .inl bb))]) [0, 1, 2] rfl
  have hDc := hD.sub (ws' := [(am, .inr (2, [.ref mv, .ref mb])), (mv, .inl (eV, 64, .inl v)), (mb, .inl (eB, 64, .inl bb))]) [0, 1, 2] (by decide) rfl
  have hKc := hK.sub (tys' := [(eV, .int), (eB, .boolean)]) [3, 4] rfl
  have hFc := va_free (wc := [(am, .inr (2, [.ref mv, .ref mb])), (mv, .inl (eV, 64, .inl v)), (mb, .inl (eB, 64, .inl bb))]) hD hS hA [0, 1, 2] rfl
  refine va_calli (va_runV (As := [.int (xs (i + 1))]) (rest := [.int r1]) ⟨hx, hb, hml, hown, hts⟩ (metX3_headChanged l dC dI am mv mb eV eB v bb (xs (i + 1)) H.size ) (cwV 1 hts (lw_V q294 q295 q296 q6 q297) rfl rfl rfl (by decide +kernel) ⟨Nat.le_of_ble_eq_true rfl, Nat.le_of_ble_eq_true rfl⟩) ⟨fun a U g mk q => by obtain ⟨q0, q1, qP, qK, qD⟩ := q; exact ⟨q0, q1, qP, va_K.moved (u := U) (U := U.calling g mk a) (Vm.Alike.refl U.vm) qK, qD⟩, va_recv hKc hPc (ci := 2) (q0 := 0) rfl rfl, fun U hU hW => ⟨rfl, by rw [hU], by rw [hU]; exact hPc, va_K.moved hW.alike hKc, hDc.weaken (fun _ _ _ _ => trivial)⟩⟩ rfl rfl hl.1 rfl (lv_room (Nat.le_of_ble_eq_true rfl)) dL_law_185 ⟨by (show _ ≤ (1200096 : Nat)); omega, by (show _ ≤ (5501386 : Nat)); omega⟩) hS (fun q _ h => hFc q h) hFc (fun r2 u2 t H1 locs ht hvm hw2q hB hz1 hk1 hS => ?_)
  have hw2 : r2 = (if sd_lp v bb 64 < 0 then 0 else 1) ∧ u2 = (if sd_lp v bb 64 < 0 then v else upd v (sd_lp v bb 64).toNatClampNeg (sd_mk (xs (i + 1)) (sd_lp v bb 64))) := hw2q
  obtain ⟨hP1, hK1, hD1⟩ := hB
  rw [ht] at hP1
  obtain ⟨hP, hD⟩ := va_join (wr := [(ax, .inr (0, [.ref av, .ref ab, .ref aq])), (av, .inl (dV, 64, .inl u1.1)), (ab, .inl (dB, 64, .inl bb)), (aq, .inr (1, [.ref av, .ref ah, .int (nI n), .null])), (ah, .inl (dH, 64, .inl u1.2))]) (w1 := [(am, .inr (2, [.ref mv, .ref mb])), (mv, .inl (eV, 64, .inl u2)), (mb, .inl (eB, 64, .inl bb))]) hP hD [0, 1, 2] [3, 4, 5, 6, 7] rfl rfl (by decide) (by decide) hk1 hFc hP1 hD1
  generalize H1 = H at hP hS ⊢
  have hP : va_P (dC, dI) vwCl [(ax, .inr (0, [.ref av, .ref ab, .ref aq])), (av, .inl (dV, 64, .inl u1.1)), (ab, .inl (dB, 64, .inl bb)), (aq, .inr (1, [.ref av, .ref ah, .int (nI n), .null])), (ah, .inl (dH, 64, .inl u1.2)), (am, .inr (2, [.ref mv, .ref mb])), (mv, .inl (eV, 64, .inl u2)), (mb, .inl (eB, 64, .inl bb))] H := hP
  have hD : va_D (fun q : Nat => s.heap.size ≤ q) [(ax, .inr (0, [.ref av, .ref ab, .ref aq])), (av, .inl (dV, 64, .inl u1.1)), (ab, .inl (dB, 64, .inl bb)), (aq, .inr (1, [.ref av, .ref ah, .int (nI n), .null])), (ah, .inl (dH, 64, .inl u1.2)), (am, .inr (2, [.ref mv, .ref mb])), (mv, .inl (eV, 64, .inl u2)), (mb, .inl (eB, 64, .inl bb))] := hD
  have hu : u2 = u1.1 := hw2.2.trans hw1.2.1.symm
  rw [hu] at hP hD
  have hP : va_P (dC, dI) vwCl [(ax, .inr (0, [.ref av, .ref ab, .ref aq])), (av, .inl (dV, 64, .inl u1.1)), (ab, .inl (dB, 64, .inl bb)), (aq, .inr (1, [.ref av, .ref ah, .int (nI n), .null])), (ah, .inl (dH, 64, .inl u1.2)), (am, .inr (2, [.ref mv, .ref mb])), (mv, .inl (eV, 64, .inl u1.1)), (mb, .inl (eB, 64, .inl bb))] H := hP
  have hD : va_D (fun q : Nat => s.heap.size ≤ q) [(ax, .inr (0, [.ref av, .ref ab, .ref aq])), (av, .inl (dV, 64, .inl u1.1)), (ab, .inl (dB, 64, .inl bb)), (aq, .inr (1, [.ref av, .ref ah, .int (nI n), .null])), (ah, .inl (dH, 64, .inl u1.2)), (am, .inr (2, [.ref mv, .ref mb])), (mv, .inl (eV, 64, .inl u1.1)), (mb, .inl (eB, 64, .inl bb))] := hD
  refine lv_icmp_eq (tgt := 274) hx hb dL_law_188 (by decide) (fun c188 => ?_) (fun c188 => absurd (hw1.1.trans hw2.1.symm) c188)
  refine lv_iinc (v := (nI (i + 6))) (lv' := [(3, .int (nI (i + 6))), (0, .ref b0), (1, .ref ax), (2, .ref am)]) hx hb dL_law_274 hl (k := 3) rfl (nI_add i 6) (by decide) rfl (fun ls hl => ?_)
  refine lv_goto (tgt := 18) hx hb dL_law_277 (by decide) ?_
  refine W.widen (k := 8 + (i + 6)) (n := 400 + 64 * (i + 6)) (by omega) (by omega) ?_
  exact kk u1.1 bb u1.2 n _ _ _ ⟨hP.sub (ws' := [(ax, .inr (0, [.ref av, .ref ab, .ref aq])), (av, .inl (dV, 64, .inl u1.1)), (ab, .inl (dB, 64, .inl bb)), (aq, .inr (1, [.ref av, .ref ah, .int (nI n), .null])), (ah, .inl (dH, 64, .inl u1.2)), (am, .inr (2, [.ref mv, .ref mb])), (mv, .inl (eV, 64, .inl u1.1)), (mb, .inl (eB, 64, .inl bb))]) [0, 1, 2, 3, 4, 5, 6, 7] rfl, hD.sub (ws' := [(ax, .inr (0, [.ref av, .ref ab, .ref aq])), (av, .inl (dV, 64, .inl u1.1)), (ab, .inl (dB, 64, .inl bb)), (aq, .inr (1, [.ref av, .ref ah, .int (nI n), .null])), (ah, .inl (dH, 64, .inl u1.2)), (am, .inr (2, [.ref mv, .ref mb])), (mv, .inl (eV, 64, .inl u1.1)), (mb, .inl (eB, 64, .inl bb))]) [0, 1, 2, 3, 4, 5, 6, 7] (by decide) rfl, hS, lv_sub hl [1, 2, 3, 0] rfl, hw1.2.2⟩
set_option maxHeartbeats 4000000 in
set_option maxRecDepth 100000 in
/-- case 5: all -/
theorem lw_c5 {p : Program} {l : Launch} {e : Env} {s : State} {m : MethodId} {below : List Frame} {meth : Method} {c : Code} {b0 L : Nat} {xs : Nat → Int32} (hL : L ≤ 288) (C0 : lw_At p s m meth c b0 L xs) {dC : Nat → ClassId} {dI : Nat → Nat → Nat} {ax av ab aq ah am mv mb : Nat} {dV dB dH eV eB : ClassId} (hK : va_K (dC, dI) vwCl [(dV, .int), (dB, .boolean), (dH, .int), (eV, .int), (eB, .boolean)] s) {i : Nat} (hi : i + 6 ≤ L) {v bb f : Nat → Int32} {n : Nat} {H : Heap} {locs : List Loc} {ls : Array Slot} (hJ : lw_J dC dI s b0 ax av ab aq ah am mv mb dV dB dH eV eB v bb f n i H locs ls) (kk : ∀ (v bb f : Nat → Int32) (n : Nat) (H : Heap) (locs : List Loc) (ls : Array Slot), lw_J dC dI s b0 ax av ab aq ah am mv mb dV dB dH eV eB v bb f n (i + 6) H locs ls → W p l e room_1 s m #[Value.ref b0] below meth c H locs (8 + (i + 6)) (400 + 64 * (i + 6)) (lw_Z below #[Value.ref b0] s) (F0 m 18 ls [])) : W p l e room_1 s m #[Value.ref b0] below meth c H locs (8 + i) (400 + 64 * i) (lw_Z below #[Value.ref b0] s) (F0 m 193 ls []) := by
  obtain ⟨hx, hb, hr, hml, hown, hts0, hX, hbl, hlocks, hgv⟩ := id C0
  have hts : ∀ w ∈ lw_all, w.before _ s = true := fun w h => hts0 w (lw_all_tbl h)
  have hA : ∀ q : Nat, s.heap.size ≤ q → (fun q : Nat => s.heap.size ≤ q) q := fun _ h => h
  have hbA : ¬ (fun q : Nat => s.heap.size ≤ q) b0 := Nat.not_le.mpr hbl
  obtain ⟨hP, hD, hS, hl, hI0⟩ := hJ
  have hP : va_P (dC, dI) vwCl [(ax, .inr (0, [.ref av, .ref ab, .ref aq])), (av, .inl (dV, 64, .inl v)), (ab, .inl (dB, 64, .inl bb)), (aq, .inr (1, [.ref av, .ref ah, .int (nI n), .null])), (ah, .inl (dH, 64, .inl f)), (am, .inr (2, [.ref mv, .ref mb])), (mv, .inl (eV, 64, .inl v)), (mb, .inl (eB, 64, .inl bb))] H := hP
  have hD : va_D (fun q : Nat => s.heap.size ≤ q) [(ax, .inr (0, [.ref av, .ref ab, .ref aq])), (av, .inl (dV, 64, .inl v)), (ab, .inl (dB, 64, .inl bb)), (aq, .inr (1, [.ref av, .ref ah, .int (nI n), .null])), (ah, .inl (dH, 64, .inl f)), (am, .inr (2, [.ref mv, .ref mb])), (mv, .inl (eV, 64, .inl v)), (mb, .inl (eB, 64, .inl bb))] := hD
  have hl : lv_has ls 4 [(0, .ref b0), (1, .ref ax), (2, .ref am), (3, .int (nI i))] := hl
  refine lv_aload_n hx hb dL_law_193 rfl (lv_at hl 1 rfl) ?_
  refine lv_aload_n hx hb dL_law_194 rfl (lv_at hl 0 rfl) ?_
  refine lv_iload_n hx hb dL_law_195 rfl (lv_at hl 3 rfl) ?_
  refine lv_iconst (v := (nI 1)) hx hb dL_law_196 (by decide +kernel) ?_
  refine lv_iadd hx hb dL_law_197 ?_
  refine lv_topi (fun y_1 ey_1 => ?_)
  obtain rfl : y_1 = nI (i + 1) := ey_1.trans (nI_add i 1)
  refine va_sld hx hb hX hbl hbA hS (vp_in_nI (by omega) (by omega)) dL_law_198 ?_
  refine lv_topi (fun y_2 ey_2 => ?_)
  obtain rfl : y_2 = xs (i + 1) := ey_2.trans (congrArg xs (nI_clamp (by omega)))
  have hPc := hP.sub (ws' := [(ax, .inr (0, [.ref av, .ref ab, .ref aq])), (av, .inl (dV, 64, .inl v)), (ab, .inl (dB, 64, .inl bb)), (aq, .inr (1, [.ref av, .ref ah, .int (nI n), .null])), (ah, .inl (dH, 64, .inl f))]) [0, 1, 2, 3, 4] rfl
  have hDc := hD.sub (ws' := [(ax, .inr (0, [.ref av, .ref ab, .ref aq])), (av, .inl (dV, 64, .inl v)), (ab, .inl (dB, 64, .inl bb)), (aq, .inr (1, [.ref av, .ref ah, .int (nI n), .null])), (ah, .inl (dH, 64, .inl f))]) [0, 1, 2, 3, 4] (by decide) rfl
  have hKc := hK.sub (tys' := [(dV, .int), (dB, .boolean), (dH, .int)]) [0, 1, 2] rfl
  have hFc := va_free (wc := [(ax, .inr (0, [.ref av, .ref ab, .ref aq])), (av, .inl (dV, 64, .inl v)), (ab, .inl (dB, 64, .inl bb)), (aq, .inr (1, [.ref av, .ref ah, .int (nI n), .null])), (ah, .inl (dH, 64, .inl f))]) hD hS hA [0, 1, 2, 3, 4] rfl
  refine va_callv (va_runV (As := [.int (xs (i + 1))]) (rest := []) ⟨hx, hb, hml, hown, hts⟩ (metX0_all l dC dI ax av ab aq ah dV dB dH v bb f n (xs (i + 1)) H.size hI0) (cwV 1 hts (lw_V q213 q214 q215 q3 q216) rfl rfl rfl (by decide +kernel) ⟨Nat.le_of_ble_eq_true rfl, Nat.le_of_ble_eq_true rfl⟩) ⟨fun a U g mk q => by obtain ⟨q0, q1, qP, qK, qD⟩ := q; exact ⟨q0, q1, qP, va_K.moved (u := U) (U := U.calling g mk a) (Vm.Alike.refl U.vm) qK, qD⟩, va_recv hKc hPc (ci := 0) (q0 := 0) rfl rfl, fun U hU hW => ⟨rfl, by rw [hU], by rw [hU]; exact hPc, va_K.moved hW.alike hKc, hDc.weaken (fun _ _ _ _ => trivial)⟩⟩ rfl rfl hl.1 rfl (lv_room (Nat.le_of_ble_eq_true rfl)) dL_law_199 ⟨by (show _ ≤ (1200096 : Nat)); omega, by (show _ ≤ (5501386 : Nat)); omega⟩) hS (fun q _ h => hFc q h) hFc (fun u1 t H1 locs ht hvm hw1q hB hz1 hk1 hS => ?_)
  have hw1 : sd_I (sd_al v (xs (i + 1)) 64) bb u1 n := hw1q
  obtain ⟨hP1, hK1, hD1⟩ := hB
  rw [ht] at hP1
  obtain ⟨hP, hD⟩ := va_join (wr := [(am, .inr (2, [.ref mv, .ref mb])), (mv, .inl (eV, 64, .inl v)), (mb, .inl (eB, 64, .inl bb))]) (w1 := [(ax, .inr (0, [.ref av, .ref ab, .ref aq])), (av, .inl (dV, 64, .inl (sd_al v (xs (i + 1)) 64))), (ab, .inl (dB, 64, .inl bb)), (aq, .inr (1, [.ref av, .ref ah, .int (nI n), .null])), (ah, .inl (dH, 64, .inl u1))]) hP hD [0, 1, 2, 3, 4] [5, 6, 7] rfl rfl (by decide) (by decide) hk1 hFc hP1 hD1
  generalize H1 = H at hP hS ⊢
  have hP : va_P (dC, dI) vwCl [(am, .inr (2, [.ref mv, .ref mb])), (mv, .inl (eV, 64, .inl v)), (mb, .inl (eB, 64, .inl bb)), (ax, .inr (0, [.ref av, .ref ab, .ref aq])), (av, .inl (dV, 64, .inl (sd_al v (xs (i + 1)) 64))), (ab, .inl (dB, 64, .inl bb)), (aq, .inr (1, [.ref av, .ref ah, .int (nI n), .null])), (ah, .inl (dH, 64, .inl u1))] H := hP
  have hD : va_D (fun q : Nat => s.heap.size ≤ q) [(am, .inr (2, [.ref mv, .ref mb])), (mv, .inl (eV, 64, .inl v)), (mb, .inl (eB, 64, .inl bb)), (ax, .inr (0, [.ref av, .ref ab, .ref aq])), (av, .inl (dV, 64, .inl (sd_al v (xs (i + 1)) 64))), (ab, .inl (dB, 64, .inl bb)), (aq, .inr (1, [.ref av, .ref ah, .int (nI n), .null])), (ah, .inl (dH, 64, .inl u1))] := hD
  refine lv_aload_n hx hb dL_law_202 rfl (lv_at hl 2 rfl) ?_
  refine lv_aload_n hx hb dL_law_203 rfl (lv_at hl 0 rfl) ?_
  refine lv_iload_n hx hb dL_law_204 rfl (lv_at hl 3 rfl) ?_
  refine lv_iconst (v := (nI 1)) hx hb dL_law_205 (by decide +kernel) ?_
  refine lv_iadd hx hb dL_law_206 ?_
  refine lv_topi (fun y_3 ey_3 => ?_)
  obtain rfl : y_3 = nI (i + 1) := ey_3.trans (nI_add i 1)
  refine va_sld hx hb hX hbl hbA hS (vp_in_nI (by omega) (by omega)) dL_law_207 ?_
  refine lv_topi (fun y_4 ey_4 => ?_)
  obtain rfl : y_4 = xs (i + 1) := ey_4.trans (congrArg xs (nI_clamp (by omega)))
  have hPc := hP.sub (ws' := [(am, .inr (2, [.ref mv, .ref mb])), (mv, .inl (eV, 64, .inl v)), (mb, .inl (eB, 64, .inl bb))]) [0, 1, 2] rfl
  have hDc := hD.sub (ws' := [(am, .inr (2, [.ref mv, .ref mb])), (mv, .inl (eV, 64, .inl v)), (mb, .inl (eB, 64, .inl bb))]) [0, 1, 2] (by decide) rfl
  have hKc := hK.sub (tys' := [(eV, .int), (eB, .boolean)]) [3, 4] rfl
  have hFc := va_free (wc := [(am, .inr (2, [.ref mv, .ref mb])), (mv, .inl (eV, 64, .inl v)), (mb, .inl (eB, 64, .inl bb))]) hD hS hA [0, 1, 2] rfl
  refine va_callv (va_runV (As := [.int (xs (i + 1))]) (rest := []) ⟨hx, hb, hml, hown, hts⟩ (metX3_all l dC dI am mv mb eV eB v bb (xs (i + 1)) H.size ) (cwV 1 hts (lw_V q298 q299 q300 q6 q301) rfl rfl rfl (by decide +kernel) ⟨Nat.le_of_ble_eq_true rfl, Nat.le_of_ble_eq_true rfl⟩) ⟨fun a U g mk q => by obtain ⟨q0, q1, qP, qK, qD⟩ := q; exact ⟨q0, q1, qP, va_K.moved (u := U) (U := U.calling g mk a) (Vm.Alike.refl U.vm) qK, qD⟩, va_recv hKc hPc (ci := 2) (q0 := 0) rfl rfl, fun U hU hW => ⟨rfl, by rw [hU], by rw [hU]; exact hPc, va_K.moved hW.alike hKc, hDc.weaken (fun _ _ _ _ => trivial)⟩⟩ rfl rfl hl.1 rfl (lv_room (Nat.le_of_ble_eq_true rfl)) dL_law_208 ⟨by (show _ ≤ (1200096 : Nat)); omega, by (show _ ≤ (5501386 : Nat)); omega⟩) hS (fun q _ h => hFc q h) hFc (fun u2 t H1 locs ht hvm hw2q hB hz1 hk1 hS => ?_)
  have hw2 : True := hw2q
  obtain ⟨hP1, hK1, hD1⟩ := hB
  rw [ht] at hP1
  obtain ⟨hP, hD⟩ := va_join (wr := [(ax, .inr (0, [.ref av, .ref ab, .ref aq])), (av, .inl (dV, 64, .inl (sd_al v (xs (i + 1)) 64))), (ab, .inl (dB, 64, .inl bb)), (aq, .inr (1, [.ref av, .ref ah, .int (nI n), .null])), (ah, .inl (dH, 64, .inl u1))]) (w1 := [(am, .inr (2, [.ref mv, .ref mb])), (mv, .inl (eV, 64, .inl (sd_al v (xs (i + 1)) 64))), (mb, .inl (eB, 64, .inl bb))]) hP hD [0, 1, 2] [3, 4, 5, 6, 7] rfl rfl (by decide) (by decide) hk1 hFc hP1 hD1
  generalize H1 = H at hP hS ⊢
  have hP : va_P (dC, dI) vwCl [(ax, .inr (0, [.ref av, .ref ab, .ref aq])), (av, .inl (dV, 64, .inl (sd_al v (xs (i + 1)) 64))), (ab, .inl (dB, 64, .inl bb)), (aq, .inr (1, [.ref av, .ref ah, .int (nI n), .null])), (ah, .inl (dH, 64, .inl u1)), (am, .inr (2, [.ref mv, .ref mb])), (mv, .inl (eV, 64, .inl (sd_al v (xs (i + 1)) 64))), (mb, .inl (eB, 64, .inl bb))] H := hP
  have hD : va_D (fun q : Nat => s.heap.size ≤ q) [(ax, .inr (0, [.ref av, .ref ab, .ref aq])), (av, .inl (dV, 64, .inl (sd_al v (xs (i + 1)) 64))), (ab, .inl (dB, 64, .inl bb)), (aq, .inr (1, [.ref av, .ref ah, .int (nI n), .null])), (ah, .inl (dH, 64, .inl u1)), (am, .inr (2, [.ref mv, .ref mb])), (mv, .inl (eV, 64, .inl (sd_al v (xs (i + 1)) 64))), (mb, .inl (eB, 64, .inl bb))] := hD
  refine lv_goto (tgt := 274) hx hb dL_law_211 (by decide) ?_
  refine lv_iinc (v := (nI (i + 6))) (lv' := [(3, .int (nI (i + 6))), (0, .ref b0), (1, .ref ax), (2, .ref am)]) hx hb dL_law_274 hl (k := 3) rfl (nI_add i 6) (by decide) rfl (fun ls hl => ?_)
  refine lv_goto (tgt := 18) hx hb dL_law_277 (by decide) ?_
  refine W.widen (k := 8 + (i + 6)) (n := 400 + 64 * (i + 6)) (by omega) (by omega) ?_
  exact kk (sd_al v (xs (i + 1)) 64) bb u1 n _ _ _ ⟨hP.sub (ws' := [(ax, .inr (0, [.ref av, .ref ab, .ref aq])), (av, .inl (dV, 64, .inl (sd_al v (xs (i + 1)) 64))), (ab, .inl (dB, 64, .inl bb)), (aq, .inr (1, [.ref av, .ref ah, .int (nI n), .null])), (ah, .inl (dH, 64, .inl u1)), (am, .inr (2, [.ref mv, .ref mb])), (mv, .inl (eV, 64, .inl (sd_al v (xs (i + 1)) 64))), (mb, .inl (eB, 64, .inl bb))]) [0, 1, 2, 3, 4, 5, 6, 7] rfl, hD.sub (ws' := [(ax, .inr (0, [.ref av, .ref ab, .ref aq])), (av, .inl (dV, 64, .inl (sd_al v (xs (i + 1)) 64))), (ab, .inl (dB, 64, .inl bb)), (aq, .inr (1, [.ref av, .ref ah, .int (nI n), .null])), (ah, .inl (dH, 64, .inl u1)), (am, .inr (2, [.ref mv, .ref mb])), (mv, .inl (eV, 64, .inl (sd_al v (xs (i + 1)) 64))), (mb, .inl (eB, 64, .inl bb))]) [0, 1, 2, 3, 4, 5, 6, 7] (by decide) rfl, hS, lv_sub hl [1, 2, 3, 0] rfl, hw1⟩
set_option maxHeartbeats 4000000 in
set_option maxRecDepth 100000 in
/-- case 6: front -/
theorem lw_c6 {p : Program} {l : Launch} {e : Env} {s : State} {m : MethodId} {below : List Frame} {meth : Method} {c : Code} {b0 L : Nat} {xs : Nat → Int32} (hL : L ≤ 288) (C0 : lw_At p s m meth c b0 L xs) {dC : Nat → ClassId} {dI : Nat → Nat → Nat} {ax av ab aq ah am mv mb : Nat} {dV dB dH eV eB : ClassId} (hK : va_K (dC, dI) vwCl [(dV, .int), (dB, .boolean), (dH, .int), (eV, .int), (eB, .boolean)] s) {i : Nat} (hi : i + 6 ≤ L) {v bb f : Nat → Int32} {n : Nat} {H : Heap} {locs : List Loc} {ls : Array Slot} (hJ : lw_J dC dI s b0 ax av ab aq ah am mv mb dV dB dH eV eB v bb f n i H locs ls) (kk : ∀ (v bb f : Nat → Int32) (n : Nat) (H : Heap) (locs : List Loc) (ls : Array Slot), lw_J dC dI s b0 ax av ab aq ah am mv mb dV dB dH eV eB v bb f n (i + 6) H locs ls → W p l e room_1 s m #[Value.ref b0] below meth c H locs (8 + (i + 6)) (400 + 64 * (i + 6)) (lw_Z below #[Value.ref b0] s) (F0 m 18 ls [])) : W p l e room_1 s m #[Value.ref b0] below meth c H locs (8 + i) (400 + 64 * i) (lw_Z below #[Value.ref b0] s) (F0 m 214 ls []) := by
  obtain ⟨hx, hb, hr, hml, hown, hts0, hX, hbl, hlocks, hgv⟩ := id C0
  have hts : ∀ w ∈ lw_all, w.before _ s = true := fun w h => hts0 w (lw_all_tbl h)
  have hA : ∀ q : Nat, s.heap.size ≤ q → (fun q : Nat => s.heap.size ≤ q) q := fun _ h => h
  have hbA : ¬ (fun q : Nat => s.heap.size ≤ q) b0 := Nat.not_le.mpr hbl
  obtain ⟨hP, hD, hS, hl, hI0⟩ := hJ
  have hP : va_P (dC, dI) vwCl [(ax, .inr (0, [.ref av, .ref ab, .ref aq])), (av, .inl (dV, 64, .inl v)), (ab, .inl (dB, 64, .inl bb)), (aq, .inr (1, [.ref av, .ref ah, .int (nI n), .null])), (ah, .inl (dH, 64, .inl f)), (am, .inr (2, [.ref mv, .ref mb])), (mv, .inl (eV, 64, .inl v)), (mb, .inl (eB, 64, .inl bb))] H := hP
  have hD : va_D (fun q : Nat => s.heap.size ≤ q) [(ax, .inr (0, [.ref av, .ref ab, .ref aq])), (av, .inl (dV, 64, .inl v)), (ab, .inl (dB, 64, .inl bb)), (aq, .inr (1, [.ref av, .ref ah, .int (nI n), .null])), (ah, .inl (dH, 64, .inl f)), (am, .inr (2, [.ref mv, .ref mb])), (mv, .inl (eV, 64, .inl v)), (mb, .inl (eB, 64, .inl bb))] := hD
  have hl : lv_has ls 4 [(0, .ref b0), (1, .ref ax), (2, .ref am), (3, .int (nI i))] := hl
  refine lv_aload_n hx hb dL_law_214 rfl (lv_at hl 1 rfl) ?_
  have hPc := hP.sub (ws' := [(ax, .inr (0, [.ref av, .ref ab, .ref aq])), (av, .inl (dV, 64, .inl v)), (ab, .inl (dB, 64, .inl bb)), (aq, .inr (1, [.ref av, .ref ah, .int (nI n), .null])), (ah, .inl (dH, 64, .inl f))]) [0, 1, 2, 3, 4] rfl
  have hDc := hD.sub (ws' := [(ax, .inr (0, [.ref av, .ref ab, .ref aq])), (av, .inl (dV, 64, .inl v)), (ab, .inl (dB, 64, .inl bb)), (aq, .inr (1, [.ref av, .ref ah, .int (nI n), .null])), (ah, .inl (dH, 64, .inl f))]) [0, 1, 2, 3, 4] (by decide) rfl
  have hKc := hK.sub (tys' := [(dV, .int), (dB, .boolean), (dH, .int)]) [0, 1, 2] rfl
  have hFc := va_free (wc := [(ax, .inr (0, [.ref av, .ref ab, .ref aq])), (av, .inl (dV, 64, .inl v)), (ab, .inl (dB, 64, .inl bb)), (aq, .inr (1, [.ref av, .ref ah, .int (nI n), .null])), (ah, .inl (dH, 64, .inl f))]) hD hS hA [0, 1, 2, 3, 4] rfl
  refine va_calli (va_runV (As := []) (rest := []) ⟨hx, hb, hml, hown, hts⟩ (metX0_front l dC dI ax av ab aq ah dV dB dH v bb f n H.size hI0) (cwV 0 hts (lw_V q225 q226 q227 q3 q228) rfl rfl rfl (by decide +kernel) ⟨Nat.le_of_ble_eq_true rfl, Nat.le_of_ble_eq_true rfl⟩) ⟨fun a U g mk q => by obtain ⟨q0, q1, qP, qK, qD⟩ := q; exact ⟨q0, q1, qP, va_K.moved (u := U) (U := U.calling g mk a) (Vm.Alike.refl U.vm) qK, qD⟩, va_recv hKc hPc (ci := 0) (q0 := 0) rfl rfl, fun U hU hW => ⟨rfl, by rw [hU], by rw [hU]; exact hPc, va_K.moved hW.alike hKc, hDc.weaken (fun _ _ _ _ => trivial)⟩⟩ rfl rfl hl.1 rfl (lv_room (Nat.le_of_ble_eq_true rfl)) dL_law_215 ⟨by (show _ ≤ (1200096 : Nat)); omega, by (show _ ≤ (5501386 : Nat)); omega⟩) hS (fun q _ h => hFc q h) hFc (fun r1 u1 t H1 locs ht hvm hw1q hB hz1 hk1 hS => ?_)
  have hw1 : r1 = (if sd_lp v bb 64 < 0 then 0 else 100 * nI (sd_mn v bb (sd_lp v bb 64) 64) + sd_lp v bb 64) := hw1q
  obtain ⟨hP1, hK1, hD1⟩ := hB
  rw [ht] at hP1
  obtain ⟨hP, hD⟩ := va_join (wr := [(am, .inr (2, [.ref mv, .ref mb])), (mv, .inl (eV, 64, .inl v)), (mb, .inl (eB, 64, .inl bb))]) (w1 := [(ax, .inr (0, [.ref av, .ref ab, .ref aq])), (av, .inl (dV, 64, .inl v)), (ab, .inl (dB, 64, .inl bb)), (aq, .inr (1, [.ref av, .ref ah, .int (nI n), .null])), (ah, .inl (dH, 64, .inl f))]) hP hD [0, 1, 2, 3, 4] [5, 6, 7] rfl rfl (by decide) (by decide) hk1 hFc hP1 hD1
  generalize H1 = H at hP hS ⊢
  have hP : va_P (dC, dI) vwCl [(am, .inr (2, [.ref mv, .ref mb])), (mv, .inl (eV, 64, .inl v)), (mb, .inl (eB, 64, .inl bb)), (ax, .inr (0, [.ref av, .ref ab, .ref aq])), (av, .inl (dV, 64, .inl v)), (ab, .inl (dB, 64, .inl bb)), (aq, .inr (1, [.ref av, .ref ah, .int (nI n), .null])), (ah, .inl (dH, 64, .inl f))] H := hP
  have hD : va_D (fun q : Nat => s.heap.size ≤ q) [(am, .inr (2, [.ref mv, .ref mb])), (mv, .inl (eV, 64, .inl v)), (mb, .inl (eB, 64, .inl bb)), (ax, .inr (0, [.ref av, .ref ab, .ref aq])), (av, .inl (dV, 64, .inl v)), (ab, .inl (dB, 64, .inl bb)), (aq, .inr (1, [.ref av, .ref ah, .int (nI n), .null])), (ah, .inl (dH, 64, .inl f))] := hD
  refine lv_aload_n hx hb dL_law_218 rfl (lv_at hl 2 rfl) ?_
  have hPc := hP.sub (ws' := [(am, .inr (2, [.ref mv, .ref mb])), (mv, .inl (eV, 64, .inl v)), (mb, .inl (eB, 64, .inl bb))]) [0, 1, 2] rfl
  have hDc := hD.sub (ws' := [(am, .inr (2, [.ref mv, .ref mb])), (mv, .inl (eV, 64, .inl v)), (mb, .inl (eB, 64, .inl bb))]) [0, 1, 2] (by decide) rfl
  have hKc := hK.sub (tys' := [(eV, .int), (eB, .boolean)]) [3, 4] rfl
  have hFc := va_free (wc := [(am, .inr (2, [.ref mv, .ref mb])), (mv, .inl (eV, 64, .inl v)), (mb, .inl (eB, 64, .inl bb))]) hD hS hA [0, 1, 2] rfl
  refine va_calli (va_runV (As := []) (rest := [.int r1]) ⟨hx, hb, hml, hown, hts⟩ (metX3_front l dC dI am mv mb eV eB v bb H.size ) (cwV 0 hts (lw_V q302 q303 q304 q6 q305) rfl rfl rfl (by decide +kernel) ⟨Nat.le_of_ble_eq_true rfl, Nat.le_of_ble_eq_true rfl⟩) ⟨fun a U g mk q => by obtain ⟨q0, q1, qP, qK, qD⟩ := q; exact ⟨q0, q1, qP, va_K.moved (u := U) (U := U.calling g mk a) (Vm.Alike.refl U.vm) qK, qD⟩, va_recv hKc hPc (ci := 2) (q0 := 0) rfl rfl, fun U hU hW => ⟨rfl, by rw [hU], by rw [hU]; exact hPc, va_K.moved hW.alike hKc, hDc.weaken (fun _ _ _ _ => trivial)⟩⟩ rfl rfl hl.1 rfl (lv_room (Nat.le_of_ble_eq_true rfl)) dL_law_219 ⟨by (show _ ≤ (1200096 : Nat)); omega, by (show _ ≤ (5501386 : Nat)); omega⟩) hS (fun q _ h => hFc q h) hFc (fun r2 u2 t H1 locs ht hvm hw2q hB hz1 hk1 hS => ?_)
  have hw2 : r2 = (if sd_lp v bb 64 < 0 then 0 else 100 * nI (sd_mn v bb (sd_lp v bb 64) 64) + sd_lp v bb 64) := hw2q
  obtain ⟨hP1, hK1, hD1⟩ := hB
  rw [ht] at hP1
  obtain ⟨hP, hD⟩ := va_join (wr := [(ax, .inr (0, [.ref av, .ref ab, .ref aq])), (av, .inl (dV, 64, .inl v)), (ab, .inl (dB, 64, .inl bb)), (aq, .inr (1, [.ref av, .ref ah, .int (nI n), .null])), (ah, .inl (dH, 64, .inl f))]) (w1 := [(am, .inr (2, [.ref mv, .ref mb])), (mv, .inl (eV, 64, .inl v)), (mb, .inl (eB, 64, .inl bb))]) hP hD [0, 1, 2] [3, 4, 5, 6, 7] rfl rfl (by decide) (by decide) hk1 hFc hP1 hD1
  generalize H1 = H at hP hS ⊢
  have hP : va_P (dC, dI) vwCl [(ax, .inr (0, [.ref av, .ref ab, .ref aq])), (av, .inl (dV, 64, .inl v)), (ab, .inl (dB, 64, .inl bb)), (aq, .inr (1, [.ref av, .ref ah, .int (nI n), .null])), (ah, .inl (dH, 64, .inl f)), (am, .inr (2, [.ref mv, .ref mb])), (mv, .inl (eV, 64, .inl v)), (mb, .inl (eB, 64, .inl bb))] H := hP
  have hD : va_D (fun q : Nat => s.heap.size ≤ q) [(ax, .inr (0, [.ref av, .ref ab, .ref aq])), (av, .inl (dV, 64, .inl v)), (ab, .inl (dB, 64, .inl bb)), (aq, .inr (1, [.ref av, .ref ah, .int (nI n), .null])), (ah, .inl (dH, 64, .inl f)), (am, .inr (2, [.ref mv, .ref mb])), (mv, .inl (eV, 64, .inl v)), (mb, .inl (eB, 64, .inl bb))] := hD
  refine lv_icmp_eq (tgt := 274) hx hb dL_law_222 (by decide) (fun c222 => ?_) (fun c222 => absurd (hw1.trans hw2.symm) c222)
  refine lv_iinc (v := (nI (i + 6))) (lv' := [(3, .int (nI (i + 6))), (0, .ref b0), (1, .ref ax), (2, .ref am)]) hx hb dL_law_274 hl (k := 3) rfl (nI_add i 6) (by decide) rfl (fun ls hl => ?_)
  refine lv_goto (tgt := 18) hx hb dL_law_277 (by decide) ?_
  refine W.widen (k := 8 + (i + 6)) (n := 400 + 64 * (i + 6)) (by omega) (by omega) ?_
  exact kk v bb f n _ _ _ ⟨hP.sub (ws' := [(ax, .inr (0, [.ref av, .ref ab, .ref aq])), (av, .inl (dV, 64, .inl v)), (ab, .inl (dB, 64, .inl bb)), (aq, .inr (1, [.ref av, .ref ah, .int (nI n), .null])), (ah, .inl (dH, 64, .inl f)), (am, .inr (2, [.ref mv, .ref mb])), (mv, .inl (eV, 64, .inl v)), (mb, .inl (eB, 64, .inl bb))]) [0, 1, 2, 3, 4, 5, 6, 7] rfl, hD.sub (ws' := [(ax, .inr (0, [.ref av, .ref ab, .ref aq])), (av, .inl (dV, 64, .inl v)), (ab, .inl (dB, 64, .inl bb)), (aq, .inr (1, [.ref av, .ref ah, .int (nI n), .null])), (ah, .inl (dH, 64, .inl f)), (am, .inr (2, [.ref mv, .ref mb])), (mv, .inl (eV, 64, .inl v)), (mb, .inl (eB, 64, .inl bb))]) [0, 1, 2, 3, 4, 5, 6, 7] (by decide) rfl, hS, lv_sub hl [1, 2, 3, 0] rfl, hI0⟩
set_option maxHeartbeats 4000000 in
set_option maxRecDepth 100000 in
/-- case 7: waiting -/
theorem lw_c7 {p : Program} {l : Launch} {e : Env} {s : State} {m : MethodId} {below : List Frame} {meth : Method} {c : Code} {b0 L : Nat} {xs : Nat → Int32} (hL : L ≤ 288) (C0 : lw_At p s m meth c b0 L xs) {dC : Nat → ClassId} {dI : Nat → Nat → Nat} {ax av ab aq ah am mv mb : Nat} {dV dB dH eV eB : ClassId} (hK : va_K (dC, dI) vwCl [(dV, .int), (dB, .boolean), (dH, .int), (eV, .int), (eB, .boolean)] s) {i : Nat} (hi : i + 6 ≤ L) {v bb f : Nat → Int32} {n : Nat} {H : Heap} {locs : List Loc} {ls : Array Slot} (hJ : lw_J dC dI s b0 ax av ab aq ah am mv mb dV dB dH eV eB v bb f n i H locs ls) (kk : ∀ (v bb f : Nat → Int32) (n : Nat) (H : Heap) (locs : List Loc) (ls : Array Slot), lw_J dC dI s b0 ax av ab aq ah am mv mb dV dB dH eV eB v bb f n (i + 6) H locs ls → W p l e room_1 s m #[Value.ref b0] below meth c H locs (8 + (i + 6)) (400 + 64 * (i + 6)) (lw_Z below #[Value.ref b0] s) (F0 m 18 ls [])) : W p l e room_1 s m #[Value.ref b0] below meth c H locs (8 + i) (400 + 64 * i) (lw_Z below #[Value.ref b0] s) (F0 m 227 ls []) := by
  obtain ⟨hx, hb, hr, hml, hown, hts0, hX, hbl, hlocks, hgv⟩ := id C0
  have hts : ∀ w ∈ lw_all, w.before _ s = true := fun w h => hts0 w (lw_all_tbl h)
  have hA : ∀ q : Nat, s.heap.size ≤ q → (fun q : Nat => s.heap.size ≤ q) q := fun _ h => h
  have hbA : ¬ (fun q : Nat => s.heap.size ≤ q) b0 := Nat.not_le.mpr hbl
  obtain ⟨hP, hD, hS, hl, hI0⟩ := hJ
  have hP : va_P (dC, dI) vwCl [(ax, .inr (0, [.ref av, .ref ab, .ref aq])), (av, .inl (dV, 64, .inl v)), (ab, .inl (dB, 64, .inl bb)), (aq, .inr (1, [.ref av, .ref ah, .int (nI n), .null])), (ah, .inl (dH, 64, .inl f)), (am, .inr (2, [.ref mv, .ref mb])), (mv, .inl (eV, 64, .inl v)), (mb, .inl (eB, 64, .inl bb))] H := hP
  have hD : va_D (fun q : Nat => s.heap.size ≤ q) [(ax, .inr (0, [.ref av, .ref ab, .ref aq])), (av, .inl (dV, 64, .inl v)), (ab, .inl (dB, 64, .inl bb)), (aq, .inr (1, [.ref av, .ref ah, .int (nI n), .null])), (ah, .inl (dH, 64, .inl f)), (am, .inr (2, [.ref mv, .ref mb])), (mv, .inl (eV, 64, .inl v)), (mb, .inl (eB, 64, .inl bb))] := hD
  have hl : lv_has ls 4 [(0, .ref b0), (1, .ref ax), (2, .ref am), (3, .int (nI i))] := hl
  refine lv_aload_n hx hb dL_law_227 rfl (lv_at hl 1 rfl) ?_
  have hPc := hP.sub (ws' := [(ax, .inr (0, [.ref av, .ref ab, .ref aq])), (av, .inl (dV, 64, .inl v)), (ab, .inl (dB, 64, .inl bb)), (aq, .inr (1, [.ref av, .ref ah, .int (nI n), .null])), (ah, .inl (dH, 64, .inl f))]) [0, 1, 2, 3, 4] rfl
  have hDc := hD.sub (ws' := [(ax, .inr (0, [.ref av, .ref ab, .ref aq])), (av, .inl (dV, 64, .inl v)), (ab, .inl (dB, 64, .inl bb)), (aq, .inr (1, [.ref av, .ref ah, .int (nI n), .null])), (ah, .inl (dH, 64, .inl f))]) [0, 1, 2, 3, 4] (by decide) rfl
  have hKc := hK.sub (tys' := [(dV, .int), (dB, .boolean), (dH, .int)]) [0, 1, 2] rfl
  have hFc := va_free (wc := [(ax, .inr (0, [.ref av, .ref ab, .ref aq])), (av, .inl (dV, 64, .inl v)), (ab, .inl (dB, 64, .inl bb)), (aq, .inr (1, [.ref av, .ref ah, .int (nI n), .null])), (ah, .inl (dH, 64, .inl f))]) hD hS hA [0, 1, 2, 3, 4] rfl
  refine va_calli (va_runV (As := []) (rest := []) ⟨hx, hb, hml, hown, hts⟩ (metX0_waiting l dC dI ax av ab aq ah dV dB dH v bb f n H.size hI0) (cwV 0 hts (lw_V q242 q243 q244 q3 q245) rfl rfl rfl (by decide +kernel) ⟨Nat.le_of_ble_eq_true rfl, Nat.le_of_ble_eq_true rfl⟩) ⟨fun a U g mk q => by obtain ⟨q0, q1, qP, qK, qD⟩ := q; exact ⟨q0, q1, qP, va_K.moved (u := U) (U := U.calling g mk a) (Vm.Alike.refl U.vm) qK, qD⟩, va_recv hKc hPc (ci := 0) (q0 := 0) rfl rfl, fun U hU hW => ⟨rfl, by rw [hU], by rw [hU]; exact hPc, va_K.moved hW.alike hKc, hDc.weaken (fun _ _ _ _ => trivial)⟩⟩ rfl rfl hl.1 rfl (lv_room (Nat.le_of_ble_eq_true rfl)) dL_law_228 ⟨by (show _ ≤ (1200096 : Nat)); omega, by (show _ ≤ (5501386 : Nat)); omega⟩) hS (fun q _ h => hFc q h) hFc (fun r1 u1 t H1 locs ht hvm hw1q hB hz1 hk1 hS => ?_)
  have hw1 : r1 = nI (sd_ct bb 64) := hw1q
  obtain ⟨hP1, hK1, hD1⟩ := hB
  rw [ht] at hP1
  obtain ⟨hP, hD⟩ := va_join (wr := [(am, .inr (2, [.ref mv, .ref mb])), (mv, .inl (eV, 64, .inl v)), (mb, .inl (eB, 64, .inl bb))]) (w1 := [(ax, .inr (0, [.ref av, .ref ab, .ref aq])), (av, .inl (dV, 64, .inl v)), (ab, .inl (dB, 64, .inl bb)), (aq, .inr (1, [.ref av, .ref ah, .int (nI n), .null])), (ah, .inl (dH, 64, .inl f))]) hP hD [0, 1, 2, 3, 4] [5, 6, 7] rfl rfl (by decide) (by decide) hk1 hFc hP1 hD1
  generalize H1 = H at hP hS ⊢
  have hP : va_P (dC, dI) vwCl [(am, .inr (2, [.ref mv, .ref mb])), (mv, .inl (eV, 64, .inl v)), (mb, .inl (eB, 64, .inl bb)), (ax, .inr (0, [.ref av, .ref ab, .ref aq])), (av, .inl (dV, 64, .inl v)), (ab, .inl (dB, 64, .inl bb)), (aq, .inr (1, [.ref av, .ref ah, .int (nI n), .null])), (ah, .inl (dH, 64, .inl f))] H := hP
  have hD : va_D (fun q : Nat => s.heap.size ≤ q) [(am, .inr (2, [.ref mv, .ref mb])), (mv, .inl (eV, 64, .inl v)), (mb, .inl (eB, 64, .inl bb)), (ax, .inr (0, [.ref av, .ref ab, .ref aq])), (av, .inl (dV, 64, .inl v)), (ab, .inl (dB, 64, .inl bb)), (aq, .inr (1, [.ref av, .ref ah, .int (nI n), .null])), (ah, .inl (dH, 64, .inl f))] := hD
  refine lv_aload_n hx hb dL_law_231 rfl (lv_at hl 2 rfl) ?_
  have hPc := hP.sub (ws' := [(am, .inr (2, [.ref mv, .ref mb])), (mv, .inl (eV, 64, .inl v)), (mb, .inl (eB, 64, .inl bb))]) [0, 1, 2] rfl
  have hDc := hD.sub (ws' := [(am, .inr (2, [.ref mv, .ref mb])), (mv, .inl (eV, 64, .inl v)), (mb, .inl (eB, 64, .inl bb))]) [0, 1, 2] (by decide) rfl
  have hKc := hK.sub (tys' := [(eV, .int), (eB, .boolean)]) [3, 4] rfl
  have hFc := va_free (wc := [(am, .inr (2, [.ref mv, .ref mb])), (mv, .inl (eV, 64, .inl v)), (mb, .inl (eB, 64, .inl bb))]) hD hS hA [0, 1, 2] rfl
  refine va_calli (va_runV (As := []) (rest := [.int r1]) ⟨hx, hb, hml, hown, hts⟩ (metX3_waiting l dC dI am mv mb eV eB v bb H.size ) (cwV 0 hts (lw_V q306 q307 q308 q6 q309) rfl rfl rfl (by decide +kernel) ⟨Nat.le_of_ble_eq_true rfl, Nat.le_of_ble_eq_true rfl⟩) ⟨fun a U g mk q => by obtain ⟨q0, q1, qP, qK, qD⟩ := q; exact ⟨q0, q1, qP, va_K.moved (u := U) (U := U.calling g mk a) (Vm.Alike.refl U.vm) qK, qD⟩, va_recv hKc hPc (ci := 2) (q0 := 0) rfl rfl, fun U hU hW => ⟨rfl, by rw [hU], by rw [hU]; exact hPc, va_K.moved hW.alike hKc, hDc.weaken (fun _ _ _ _ => trivial)⟩⟩ rfl rfl hl.1 rfl (lv_room (Nat.le_of_ble_eq_true rfl)) dL_law_232 ⟨by (show _ ≤ (1200096 : Nat)); omega, by (show _ ≤ (5501386 : Nat)); omega⟩) hS (fun q _ h => hFc q h) hFc (fun r2 u2 t H1 locs ht hvm hw2q hB hz1 hk1 hS => ?_)
  have hw2 : r2 = nI (sd_ct bb 64) := hw2q
  obtain ⟨hP1, hK1, hD1⟩ := hB
  rw [ht] at hP1
  obtain ⟨hP, hD⟩ := va_join (wr := [(ax, .inr (0, [.ref av, .ref ab, .ref aq])), (av, .inl (dV, 64, .inl v)), (ab, .inl (dB, 64, .inl bb)), (aq, .inr (1, [.ref av, .ref ah, .int (nI n), .null])), (ah, .inl (dH, 64, .inl f))]) (w1 := [(am, .inr (2, [.ref mv, .ref mb])), (mv, .inl (eV, 64, .inl v)), (mb, .inl (eB, 64, .inl bb))]) hP hD [0, 1, 2] [3, 4, 5, 6, 7] rfl rfl (by decide) (by decide) hk1 hFc hP1 hD1
  generalize H1 = H at hP hS ⊢
  have hP : va_P (dC, dI) vwCl [(ax, .inr (0, [.ref av, .ref ab, .ref aq])), (av, .inl (dV, 64, .inl v)), (ab, .inl (dB, 64, .inl bb)), (aq, .inr (1, [.ref av, .ref ah, .int (nI n), .null])), (ah, .inl (dH, 64, .inl f)), (am, .inr (2, [.ref mv, .ref mb])), (mv, .inl (eV, 64, .inl v)), (mb, .inl (eB, 64, .inl bb))] H := hP
  have hD : va_D (fun q : Nat => s.heap.size ≤ q) [(ax, .inr (0, [.ref av, .ref ab, .ref aq])), (av, .inl (dV, 64, .inl v)), (ab, .inl (dB, 64, .inl bb)), (aq, .inr (1, [.ref av, .ref ah, .int (nI n), .null])), (ah, .inl (dH, 64, .inl f)), (am, .inr (2, [.ref mv, .ref mb])), (mv, .inl (eV, 64, .inl v)), (mb, .inl (eB, 64, .inl bb))] := hD
  refine lv_icmp_eq (tgt := 274) hx hb dL_law_235 (by decide) (fun c235 => ?_) (fun c235 => absurd (hw1.trans hw2.symm) c235)
  refine lv_iinc (v := (nI (i + 6))) (lv' := [(3, .int (nI (i + 6))), (0, .ref b0), (1, .ref ax), (2, .ref am)]) hx hb dL_law_274 hl (k := 3) rfl (nI_add i 6) (by decide) rfl (fun ls hl => ?_)
  refine lv_goto (tgt := 18) hx hb dL_law_277 (by decide) ?_
  refine W.widen (k := 8 + (i + 6)) (n := 400 + 64 * (i + 6)) (by omega) (by omega) ?_
  exact kk v bb f n _ _ _ ⟨hP.sub (ws' := [(ax, .inr (0, [.ref av, .ref ab, .ref aq])), (av, .inl (dV, 64, .inl v)), (ab, .inl (dB, 64, .inl bb)), (aq, .inr (1, [.ref av, .ref ah, .int (nI n), .null])), (ah, .inl (dH, 64, .inl f)), (am, .inr (2, [.ref mv, .ref mb])), (mv, .inl (eV, 64, .inl v)), (mb, .inl (eB, 64, .inl bb))]) [0, 1, 2, 3, 4, 5, 6, 7] rfl, hD.sub (ws' := [(ax, .inr (0, [.ref av, .ref ab, .ref aq])), (av, .inl (dV, 64, .inl v)), (ab, .inl (dB, 64, .inl bb)), (aq, .inr (1, [.ref av, .ref ah, .int (nI n), .null])), (ah, .inl (dH, 64, .inl f)), (am, .inr (2, [.ref mv, .ref mb])), (mv, .inl (eV, 64, .inl v)), (mb, .inl (eB, 64, .inl bb))]) [0, 1, 2, 3, 4, 5, 6, 7] (by decide) rfl, hS, lv_sub hl [1, 2, 3, 0] rfl, hI0⟩
set_option maxHeartbeats 4000000 in
set_option maxRecDepth 100000 in
/-- case 8: value -/
theorem lw_c8 {p : Program} {l : Launch} {e : Env} {s : State} {m : MethodId} {below : List Frame} {meth : Method} {c : Code} {b0 L : Nat} {xs : Nat → Int32} (hL : L ≤ 288) (C0 : lw_At p s m meth c b0 L xs) {dC : Nat → ClassId} {dI : Nat → Nat → Nat} {ax av ab aq ah am mv mb : Nat} {dV dB dH eV eB : ClassId} (hK : va_K (dC, dI) vwCl [(dV, .int), (dB, .boolean), (dH, .int), (eV, .int), (eB, .boolean)] s) {i : Nat} (hi : i + 6 ≤ L) {v bb f : Nat → Int32} {n : Nat} {H : Heap} {locs : List Loc} {ls : Array Slot} (hJ : lw_J dC dI s b0 ax av ab aq ah am mv mb dV dB dH eV eB v bb f n i H locs ls) (kk : ∀ (v bb f : Nat → Int32) (n : Nat) (H : Heap) (locs : List Loc) (ls : Array Slot), lw_J dC dI s b0 ax av ab aq ah am mv mb dV dB dH eV eB v bb f n (i + 6) H locs ls → W p l e room_1 s m #[Value.ref b0] below meth c H locs (8 + (i + 6)) (400 + 64 * (i + 6)) (lw_Z below #[Value.ref b0] s) (F0 m 18 ls [])) : W p l e room_1 s m #[Value.ref b0] below meth c H locs (8 + i) (400 + 64 * i) (lw_Z below #[Value.ref b0] s) (F0 m 240 ls []) := by
  obtain ⟨hx, hb, hr, hml, hown, hts0, hX, hbl, hlocks, hgv⟩ := id C0
  have hts : ∀ w ∈ lw_all, w.before _ s = true := fun w h => hts0 w (lw_all_tbl h)
  have hA : ∀ q : Nat, s.heap.size ≤ q → (fun q : Nat => s.heap.size ≤ q) q := fun _ h => h
  have hbA : ¬ (fun q : Nat => s.heap.size ≤ q) b0 := Nat.not_le.mpr hbl
  obtain ⟨hP, hD, hS, hl, hI0⟩ := hJ
  have hP : va_P (dC, dI) vwCl [(ax, .inr (0, [.ref av, .ref ab, .ref aq])), (av, .inl (dV, 64, .inl v)), (ab, .inl (dB, 64, .inl bb)), (aq, .inr (1, [.ref av, .ref ah, .int (nI n), .null])), (ah, .inl (dH, 64, .inl f)), (am, .inr (2, [.ref mv, .ref mb])), (mv, .inl (eV, 64, .inl v)), (mb, .inl (eB, 64, .inl bb))] H := hP
  have hD : va_D (fun q : Nat => s.heap.size ≤ q) [(ax, .inr (0, [.ref av, .ref ab, .ref aq])), (av, .inl (dV, 64, .inl v)), (ab, .inl (dB, 64, .inl bb)), (aq, .inr (1, [.ref av, .ref ah, .int (nI n), .null])), (ah, .inl (dH, 64, .inl f)), (am, .inr (2, [.ref mv, .ref mb])), (mv, .inl (eV, 64, .inl v)), (mb, .inl (eB, 64, .inl bb))] := hD
  have hl : lv_has ls 4 [(0, .ref b0), (1, .ref ax), (2, .ref am), (3, .int (nI i))] := hl
  obtain ⟨k, hk, ek⟩ := pk_andE (xs (i + 1)) (m := 63) 6 (by decide +kernel)
  have hk : k < 64 := hk
  refine lv_aload_n hx hb dL_law_240 rfl (lv_at hl 1 rfl) ?_
  refine lv_aload_n hx hb dL_law_241 rfl (lv_at hl 0 rfl) ?_
  refine lv_iload_n hx hb dL_law_242 rfl (lv_at hl 3 rfl) ?_
  refine lv_iconst (v := (nI 1)) hx hb dL_law_243 (by decide +kernel) ?_
  refine lv_iadd hx hb dL_law_244 ?_
  refine lv_topi (fun y_1 ey_1 => ?_)
  obtain rfl : y_1 = nI (i + 1) := ey_1.trans (nI_add i 1)
  refine va_sld hx hb hX hbl hbA hS (vp_in_nI (by omega) (by omega)) dL_law_245 ?_
  refine lv_topi (fun y_2 ey_2 => ?_)
  obtain rfl : y_2 = xs (i + 1) := ey_2.trans (congrArg xs (nI_clamp (by omega)))
  have hPc := hP.sub (ws' := [(ax, .inr (0, [.ref av, .ref ab, .ref aq])), (av, .inl (dV, 64, .inl v)), (ab, .inl (dB, 64, .inl bb)), (aq, .inr (1, [.ref av, .ref ah, .int (nI n), .null])), (ah, .inl (dH, 64, .inl f))]) [0, 1, 2, 3, 4] rfl
  have hDc := hD.sub (ws' := [(ax, .inr (0, [.ref av, .ref ab, .ref aq])), (av, .inl (dV, 64, .inl v)), (ab, .inl (dB, 64, .inl bb)), (aq, .inr (1, [.ref av, .ref ah, .int (nI n), .null])), (ah, .inl (dH, 64, .inl f))]) [0, 1, 2, 3, 4] (by decide) rfl
  have hKc := hK.sub (tys' := [(dV, .int), (dB, .boolean), (dH, .int)]) [0, 1, 2] rfl
  have hFc := va_free (wc := [(ax, .inr (0, [.ref av, .ref ab, .ref aq])), (av, .inl (dV, 64, .inl v)), (ab, .inl (dB, 64, .inl bb)), (aq, .inr (1, [.ref av, .ref ah, .int (nI n), .null])), (ah, .inl (dH, 64, .inl f))]) hD hS hA [0, 1, 2, 3, 4] rfl
  refine va_calli (va_runV (As := [.int (xs (i + 1))]) (rest := []) ⟨hx, hb, hml, hown, hts⟩ (metX0_value l dC dI ax av ab aq ah dV dB dH v bb f n (xs (i + 1)) k H.size hI0 hk ek) (cwV 1 hts (lw_V q246 q247 q248 q3 q249) rfl rfl rfl (by decide +kernel) ⟨Nat.le_of_ble_eq_true rfl, Nat.le_of_ble_eq_true rfl⟩) ⟨fun a U g mk q => by obtain ⟨q0, q1, qP, qK, qD⟩ := q; exact ⟨q0, q1, qP, va_K.moved (u := U) (U := U.calling g mk a) (Vm.Alike.refl U.vm) qK, qD⟩, va_recv hKc hPc (ci := 0) (q0 := 0) rfl rfl, fun U hU hW => ⟨rfl, by rw [hU], by rw [hU]; exact hPc, va_K.moved hW.alike hKc, hDc.weaken (fun _ _ _ _ => trivial)⟩⟩ rfl rfl hl.1 rfl (lv_room (Nat.le_of_ble_eq_true rfl)) dL_law_246 ⟨by (show _ ≤ (1200096 : Nat)); omega, by (show _ ≤ (5501386 : Nat)); omega⟩) hS (fun q _ h => hFc q h) hFc (fun r1 u1 t H1 locs ht hvm hw1q hB hz1 hk1 hS => ?_)
  have hw1 : r1 = v k := hw1q
  obtain ⟨hP1, hK1, hD1⟩ := hB
  rw [ht] at hP1
  obtain ⟨hP, hD⟩ := va_join (wr := [(am, .inr (2, [.ref mv, .ref mb])), (mv, .inl (eV, 64, .inl v)), (mb, .inl (eB, 64, .inl bb))]) (w1 := [(ax, .inr (0, [.ref av, .ref ab, .ref aq])), (av, .inl (dV, 64, .inl v)), (ab, .inl (dB, 64, .inl bb)), (aq, .inr (1, [.ref av, .ref ah, .int (nI n), .null])), (ah, .inl (dH, 64, .inl f))]) hP hD [0, 1, 2, 3, 4] [5, 6, 7] rfl rfl (by decide) (by decide) hk1 hFc hP1 hD1
  generalize H1 = H at hP hS ⊢
  have hP : va_P (dC, dI) vwCl [(am, .inr (2, [.ref mv, .ref mb])), (mv, .inl (eV, 64, .inl v)), (mb, .inl (eB, 64, .inl bb)), (ax, .inr (0, [.ref av, .ref ab, .ref aq])), (av, .inl (dV, 64, .inl v)), (ab, .inl (dB, 64, .inl bb)), (aq, .inr (1, [.ref av, .ref ah, .int (nI n), .null])), (ah, .inl (dH, 64, .inl f))] H := hP
  have hD : va_D (fun q : Nat => s.heap.size ≤ q) [(am, .inr (2, [.ref mv, .ref mb])), (mv, .inl (eV, 64, .inl v)), (mb, .inl (eB, 64, .inl bb)), (ax, .inr (0, [.ref av, .ref ab, .ref aq])), (av, .inl (dV, 64, .inl v)), (ab, .inl (dB, 64, .inl bb)), (aq, .inr (1, [.ref av, .ref ah, .int (nI n), .null])), (ah, .inl (dH, 64, .inl f))] := hD
  refine lv_aload_n hx hb dL_law_249 rfl (lv_at hl 2 rfl) ?_
  refine lv_aload_n hx hb dL_law_250 rfl (lv_at hl 0 rfl) ?_
  refine lv_iload_n hx hb dL_law_251 rfl (lv_at hl 3 rfl) ?_
  refine lv_iconst (v := (nI 1)) hx hb dL_law_252 (by decide +kernel) ?_
  refine lv_iadd hx hb dL_law_253 ?_
  refine lv_topi (fun y_3 ey_3 => ?_)
  obtain rfl : y_3 = nI (i + 1) := ey_3.trans (nI_add i 1)
  refine va_sld hx hb hX hbl hbA hS (vp_in_nI (by omega) (by omega)) dL_law_254 ?_
  refine lv_topi (fun y_4 ey_4 => ?_)
  obtain rfl : y_4 = xs (i + 1) := ey_4.trans (congrArg xs (nI_clamp (by omega)))
  have hPc := hP.sub (ws' := [(am, .inr (2, [.ref mv, .ref mb])), (mv, .inl (eV, 64, .inl v)), (mb, .inl (eB, 64, .inl bb))]) [0, 1, 2] rfl
  have hDc := hD.sub (ws' := [(am, .inr (2, [.ref mv, .ref mb])), (mv, .inl (eV, 64, .inl v)), (mb, .inl (eB, 64, .inl bb))]) [0, 1, 2] (by decide) rfl
  have hKc := hK.sub (tys' := [(eV, .int), (eB, .boolean)]) [3, 4] rfl
  have hFc := va_free (wc := [(am, .inr (2, [.ref mv, .ref mb])), (mv, .inl (eV, 64, .inl v)), (mb, .inl (eB, 64, .inl bb))]) hD hS hA [0, 1, 2] rfl
  refine va_calli (va_runV (As := [.int (xs (i + 1))]) (rest := [.int r1]) ⟨hx, hb, hml, hown, hts⟩ (metX3_value l dC dI am mv mb eV eB v bb (xs (i + 1)) k H.size hk ek) (cwV 1 hts (lw_V q310 q311 q312 q6 q313) rfl rfl rfl (by decide +kernel) ⟨Nat.le_of_ble_eq_true rfl, Nat.le_of_ble_eq_true rfl⟩) ⟨fun a U g mk q => by obtain ⟨q0, q1, qP, qK, qD⟩ := q; exact ⟨q0, q1, qP, va_K.moved (u := U) (U := U.calling g mk a) (Vm.Alike.refl U.vm) qK, qD⟩, va_recv hKc hPc (ci := 2) (q0 := 0) rfl rfl, fun U hU hW => ⟨rfl, by rw [hU], by rw [hU]; exact hPc, va_K.moved hW.alike hKc, hDc.weaken (fun _ _ _ _ => trivial)⟩⟩ rfl rfl hl.1 rfl (lv_room (Nat.le_of_ble_eq_true rfl)) dL_law_255 ⟨by (show _ ≤ (1200096 : Nat)); omega, by (show _ ≤ (5501386 : Nat)); omega⟩) hS (fun q _ h => hFc q h) hFc (fun r2 u2 t H1 locs ht hvm hw2q hB hz1 hk1 hS => ?_)
  have hw2 : r2 = v k := hw2q
  obtain ⟨hP1, hK1, hD1⟩ := hB
  rw [ht] at hP1
  obtain ⟨hP, hD⟩ := va_join (wr := [(ax, .inr (0, [.ref av, .ref ab, .ref aq])), (av, .inl (dV, 64, .inl v)), (ab, .inl (dB, 64, .inl bb)), (aq, .inr (1, [.ref av, .ref ah, .int (nI n), .null])), (ah, .inl (dH, 64, .inl f))]) (w1 := [(am, .inr (2, [.ref mv, .ref mb])), (mv, .inl (eV, 64, .inl v)), (mb, .inl (eB, 64, .inl bb))]) hP hD [0, 1, 2] [3, 4, 5, 6, 7] rfl rfl (by decide) (by decide) hk1 hFc hP1 hD1
  generalize H1 = H at hP hS ⊢
  have hP : va_P (dC, dI) vwCl [(ax, .inr (0, [.ref av, .ref ab, .ref aq])), (av, .inl (dV, 64, .inl v)), (ab, .inl (dB, 64, .inl bb)), (aq, .inr (1, [.ref av, .ref ah, .int (nI n), .null])), (ah, .inl (dH, 64, .inl f)), (am, .inr (2, [.ref mv, .ref mb])), (mv, .inl (eV, 64, .inl v)), (mb, .inl (eB, 64, .inl bb))] H := hP
  have hD : va_D (fun q : Nat => s.heap.size ≤ q) [(ax, .inr (0, [.ref av, .ref ab, .ref aq])), (av, .inl (dV, 64, .inl v)), (ab, .inl (dB, 64, .inl bb)), (aq, .inr (1, [.ref av, .ref ah, .int (nI n), .null])), (ah, .inl (dH, 64, .inl f)), (am, .inr (2, [.ref mv, .ref mb])), (mv, .inl (eV, 64, .inl v)), (mb, .inl (eB, 64, .inl bb))] := hD
  refine lv_icmp_eq (tgt := 274) hx hb dL_law_258 (by decide) (fun c258 => ?_) (fun c258 => absurd (hw1.trans hw2.symm) c258)
  refine lv_iinc (v := (nI (i + 6))) (lv' := [(3, .int (nI (i + 6))), (0, .ref b0), (1, .ref ax), (2, .ref am)]) hx hb dL_law_274 hl (k := 3) rfl (nI_add i 6) (by decide) rfl (fun ls hl => ?_)
  refine lv_goto (tgt := 18) hx hb dL_law_277 (by decide) ?_
  refine W.widen (k := 8 + (i + 6)) (n := 400 + 64 * (i + 6)) (by omega) (by omega) ?_
  exact kk v bb f n _ _ _ ⟨hP.sub (ws' := [(ax, .inr (0, [.ref av, .ref ab, .ref aq])), (av, .inl (dV, 64, .inl v)), (ab, .inl (dB, 64, .inl bb)), (aq, .inr (1, [.ref av, .ref ah, .int (nI n), .null])), (ah, .inl (dH, 64, .inl f)), (am, .inr (2, [.ref mv, .ref mb])), (mv, .inl (eV, 64, .inl v)), (mb, .inl (eB, 64, .inl bb))]) [0, 1, 2, 3, 4, 5, 6, 7] rfl, hD.sub (ws' := [(ax, .inr (0, [.ref av, .ref ab, .ref aq])), (av, .inl (dV, 64, .inl v)), (ab, .inl (dB, 64, .inl bb)), (aq, .inr (1, [.ref av, .ref ah, .int (nI n), .null])), (ah, .inl (dH, 64, .inl f)), (am, .inr (2, [.ref mv, .ref mb])), (mv, .inl (eV, 64, .inl v)), (mb, .inl (eB, 64, .inl bb))]) [0, 1, 2, 3, 4, 5, 6, 7] (by decide) rfl, hS, lv_sub hl [1, 2, 3, 0] rfl, hI0⟩
set_option maxHeartbeats 4000000 in
set_option maxRecDepth 100000 in
/-- case 9: drain -/
theorem lw_c9 {p : Program} {l : Launch} {e : Env} {s : State} {m : MethodId} {below : List Frame} {meth : Method} {c : Code} {b0 L : Nat} {xs : Nat → Int32} (hL : L ≤ 288) (C0 : lw_At p s m meth c b0 L xs) {dC : Nat → ClassId} {dI : Nat → Nat → Nat} {ax av ab aq ah am mv mb : Nat} {dV dB dH eV eB : ClassId} (hK : va_K (dC, dI) vwCl [(dV, .int), (dB, .boolean), (dH, .int), (eV, .int), (eB, .boolean)] s) {i : Nat} (hi : i + 6 ≤ L) {v bb f : Nat → Int32} {n : Nat} {H : Heap} {locs : List Loc} {ls : Array Slot} (hJ : lw_J dC dI s b0 ax av ab aq ah am mv mb dV dB dH eV eB v bb f n i H locs ls) (kk : ∀ (v bb f : Nat → Int32) (n : Nat) (H : Heap) (locs : List Loc) (ls : Array Slot), lw_J dC dI s b0 ax av ab aq ah am mv mb dV dB dH eV eB v bb f n (i + 6) H locs ls → W p l e room_1 s m #[Value.ref b0] below meth c H locs (8 + (i + 6)) (400 + 64 * (i + 6)) (lw_Z below #[Value.ref b0] s) (F0 m 18 ls [])) : W p l e room_1 s m #[Value.ref b0] below meth c H locs (8 + i) (400 + 64 * i) (lw_Z below #[Value.ref b0] s) (F0 m 263 ls []) := by
  obtain ⟨hx, hb, hr, hml, hown, hts0, hX, hbl, hlocks, hgv⟩ := id C0
  have hts : ∀ w ∈ lw_all, w.before _ s = true := fun w h => hts0 w (lw_all_tbl h)
  have hA : ∀ q : Nat, s.heap.size ≤ q → (fun q : Nat => s.heap.size ≤ q) q := fun _ h => h
  have hbA : ¬ (fun q : Nat => s.heap.size ≤ q) b0 := Nat.not_le.mpr hbl
  obtain ⟨hP, hD, hS, hl, hI0⟩ := hJ
  have hP : va_P (dC, dI) vwCl [(ax, .inr (0, [.ref av, .ref ab, .ref aq])), (av, .inl (dV, 64, .inl v)), (ab, .inl (dB, 64, .inl bb)), (aq, .inr (1, [.ref av, .ref ah, .int (nI n), .null])), (ah, .inl (dH, 64, .inl f)), (am, .inr (2, [.ref mv, .ref mb])), (mv, .inl (eV, 64, .inl v)), (mb, .inl (eB, 64, .inl bb))] H := hP
  have hD : va_D (fun q : Nat => s.heap.size ≤ q) [(ax, .inr (0, [.ref av, .ref ab, .ref aq])), (av, .inl (dV, 64, .inl v)), (ab, .inl (dB, 64, .inl bb)), (aq, .inr (1, [.ref av, .ref ah, .int (nI n), .null])), (ah, .inl (dH, 64, .inl f)), (am, .inr (2, [.ref mv, .ref mb])), (mv, .inl (eV, 64, .inl v)), (mb, .inl (eB, 64, .inl bb))] := hD
  have hl : lv_has ls 4 [(0, .ref b0), (1, .ref ax), (2, .ref am), (3, .int (nI i))] := hl
  refine lv_aload_n hx hb dL_law_263 rfl (lv_at hl 1 rfl) ?_
  have hPc := hP.sub (ws' := [(ax, .inr (0, [.ref av, .ref ab, .ref aq])), (av, .inl (dV, 64, .inl v)), (ab, .inl (dB, 64, .inl bb)), (aq, .inr (1, [.ref av, .ref ah, .int (nI n), .null])), (ah, .inl (dH, 64, .inl f))]) [0, 1, 2, 3, 4] rfl
  have hDc := hD.sub (ws' := [(ax, .inr (0, [.ref av, .ref ab, .ref aq])), (av, .inl (dV, 64, .inl v)), (ab, .inl (dB, 64, .inl bb)), (aq, .inr (1, [.ref av, .ref ah, .int (nI n), .null])), (ah, .inl (dH, 64, .inl f))]) [0, 1, 2, 3, 4] (by decide) rfl
  have hKc := hK.sub (tys' := [(dV, .int), (dB, .boolean), (dH, .int)]) [0, 1, 2] rfl
  have hFc := va_free (wc := [(ax, .inr (0, [.ref av, .ref ab, .ref aq])), (av, .inl (dV, 64, .inl v)), (ab, .inl (dB, 64, .inl bb)), (aq, .inr (1, [.ref av, .ref ah, .int (nI n), .null])), (ah, .inl (dH, 64, .inl f))]) hD hS hA [0, 1, 2, 3, 4] rfl
  refine va_callv (va_runV (As := []) (rest := []) ⟨hx, hb, hml, hown, hts⟩ (metX0_drain l dC dI ax av ab aq ah dV dB dH v bb f n H.size hI0) (cwV 0 hts (lw_V q250 q251 q252 q3 q253) rfl rfl rfl (by decide +kernel) ⟨Nat.le_of_ble_eq_true rfl, Nat.le_of_ble_eq_true rfl⟩) ⟨fun a U g mk q => by obtain ⟨q0, q1, qP, qK, qD⟩ := q; exact ⟨q0, q1, qP, va_K.moved (u := U) (U := U.calling g mk a) (Vm.Alike.refl U.vm) qK, qD⟩, va_recv hKc hPc (ci := 0) (q0 := 0) rfl rfl, fun U hU hW => ⟨rfl, by rw [hU], by rw [hU]; exact hPc, va_K.moved hW.alike hKc, hDc.weaken (fun _ _ _ _ => trivial)⟩⟩ rfl rfl hl.1 rfl (lv_room (Nat.le_of_ble_eq_true rfl)) dL_law_264 ⟨by (show _ ≤ (1200096 : Nat)); omega, by (show _ ≤ (5501386 : Nat)); omega⟩) hS (fun q _ h => hFc q h) hFc (fun u1 t H1 locs ht hvm hw1q hB hz1 hk1 hS => ?_)
  have hw1 : sd_I v (sd_cl bb 64) f 0 := hw1q
  obtain ⟨hP1, hK1, hD1⟩ := hB
  rw [ht] at hP1
  obtain ⟨hP, hD⟩ := va_join (wr := [(am, .inr (2, [.ref mv, .ref mb])), (mv, .inl (eV, 64, .inl v)), (mb, .inl (eB, 64, .inl bb))]) (w1 := [(ax, .inr (0, [.ref av, .ref ab, .ref aq])), (av, .inl (dV, 64, .inl v)), (ab, .inl (dB, 64, .inl (sd_cl bb 64))), (aq, .inr (1, [.ref av, .ref ah, .int (nI 0), .null])), (ah, .inl (dH, 64, .inl f))]) hP hD [0, 1, 2, 3, 4] [5, 6, 7] rfl rfl (by decide) (by decide) hk1 hFc hP1 hD1
  generalize H1 = H at hP hS ⊢
  have hP : va_P (dC, dI) vwCl [(am, .inr (2, [.ref mv, .ref mb])), (mv, .inl (eV, 64, .inl v)), (mb, .inl (eB, 64, .inl bb)), (ax, .inr (0, [.ref av, .ref ab, .ref aq])), (av, .inl (dV, 64, .inl v)), (ab, .inl (dB, 64, .inl (sd_cl bb 64))), (aq, .inr (1, [.ref av, .ref ah, .int (nI 0), .null])), (ah, .inl (dH, 64, .inl f))] H := hP
  have hD : va_D (fun q : Nat => s.heap.size ≤ q) [(am, .inr (2, [.ref mv, .ref mb])), (mv, .inl (eV, 64, .inl v)), (mb, .inl (eB, 64, .inl bb)), (ax, .inr (0, [.ref av, .ref ab, .ref aq])), (av, .inl (dV, 64, .inl v)), (ab, .inl (dB, 64, .inl (sd_cl bb 64))), (aq, .inr (1, [.ref av, .ref ah, .int (nI 0), .null])), (ah, .inl (dH, 64, .inl f))] := hD
  refine lv_aload_n hx hb dL_law_267 rfl (lv_at hl 2 rfl) ?_
  have hPc := hP.sub (ws' := [(am, .inr (2, [.ref mv, .ref mb])), (mv, .inl (eV, 64, .inl v)), (mb, .inl (eB, 64, .inl bb))]) [0, 1, 2] rfl
  have hDc := hD.sub (ws' := [(am, .inr (2, [.ref mv, .ref mb])), (mv, .inl (eV, 64, .inl v)), (mb, .inl (eB, 64, .inl bb))]) [0, 1, 2] (by decide) rfl
  have hKc := hK.sub (tys' := [(eV, .int), (eB, .boolean)]) [3, 4] rfl
  have hFc := va_free (wc := [(am, .inr (2, [.ref mv, .ref mb])), (mv, .inl (eV, 64, .inl v)), (mb, .inl (eB, 64, .inl bb))]) hD hS hA [0, 1, 2] rfl
  refine va_callv (va_runV (As := []) (rest := []) ⟨hx, hb, hml, hown, hts⟩ (metX3_drain l dC dI am mv mb eV eB v bb H.size ) (cwV 0 hts (lw_V q314 q315 q316 q6 q317) rfl rfl rfl (by decide +kernel) ⟨Nat.le_of_ble_eq_true rfl, Nat.le_of_ble_eq_true rfl⟩) ⟨fun a U g mk q => by obtain ⟨q0, q1, qP, qK, qD⟩ := q; exact ⟨q0, q1, qP, va_K.moved (u := U) (U := U.calling g mk a) (Vm.Alike.refl U.vm) qK, qD⟩, va_recv hKc hPc (ci := 2) (q0 := 0) rfl rfl, fun U hU hW => ⟨rfl, by rw [hU], by rw [hU]; exact hPc, va_K.moved hW.alike hKc, hDc.weaken (fun _ _ _ _ => trivial)⟩⟩ rfl rfl hl.1 rfl (lv_room (Nat.le_of_ble_eq_true rfl)) dL_law_268 ⟨by (show _ ≤ (1200096 : Nat)); omega, by (show _ ≤ (5501386 : Nat)); omega⟩) hS (fun q _ h => hFc q h) hFc (fun u2 t H1 locs ht hvm hw2q hB hz1 hk1 hS => ?_)
  have hw2 : True := hw2q
  obtain ⟨hP1, hK1, hD1⟩ := hB
  rw [ht] at hP1
  obtain ⟨hP, hD⟩ := va_join (wr := [(ax, .inr (0, [.ref av, .ref ab, .ref aq])), (av, .inl (dV, 64, .inl v)), (ab, .inl (dB, 64, .inl (sd_cl bb 64))), (aq, .inr (1, [.ref av, .ref ah, .int (nI 0), .null])), (ah, .inl (dH, 64, .inl f))]) (w1 := [(am, .inr (2, [.ref mv, .ref mb])), (mv, .inl (eV, 64, .inl v)), (mb, .inl (eB, 64, .inl (sd_cl bb 64)))]) hP hD [0, 1, 2] [3, 4, 5, 6, 7] rfl rfl (by decide) (by decide) hk1 hFc hP1 hD1
  generalize H1 = H at hP hS ⊢
  have hP : va_P (dC, dI) vwCl [(ax, .inr (0, [.ref av, .ref ab, .ref aq])), (av, .inl (dV, 64, .inl v)), (ab, .inl (dB, 64, .inl (sd_cl bb 64))), (aq, .inr (1, [.ref av, .ref ah, .int (nI 0), .null])), (ah, .inl (dH, 64, .inl f)), (am, .inr (2, [.ref mv, .ref mb])), (mv, .inl (eV, 64, .inl v)), (mb, .inl (eB, 64, .inl (sd_cl bb 64)))] H := hP
  have hD : va_D (fun q : Nat => s.heap.size ≤ q) [(ax, .inr (0, [.ref av, .ref ab, .ref aq])), (av, .inl (dV, 64, .inl v)), (ab, .inl (dB, 64, .inl (sd_cl bb 64))), (aq, .inr (1, [.ref av, .ref ah, .int (nI 0), .null])), (ah, .inl (dH, 64, .inl f)), (am, .inr (2, [.ref mv, .ref mb])), (mv, .inl (eV, 64, .inl v)), (mb, .inl (eB, 64, .inl (sd_cl bb 64)))] := hD
  refine lv_goto (tgt := 274) hx hb dL_law_271 (by decide) ?_
  refine lv_iinc (v := (nI (i + 6))) (lv' := [(3, .int (nI (i + 6))), (0, .ref b0), (1, .ref ax), (2, .ref am)]) hx hb dL_law_274 hl (k := 3) rfl (nI_add i 6) (by decide) rfl (fun ls hl => ?_)
  refine lv_goto (tgt := 18) hx hb dL_law_277 (by decide) ?_
  refine W.widen (k := 8 + (i + 6)) (n := 400 + 64 * (i + 6)) (by omega) (by omega) ?_
  exact kk v (sd_cl bb 64) f 0 _ _ _ ⟨hP.sub (ws' := [(ax, .inr (0, [.ref av, .ref ab, .ref aq])), (av, .inl (dV, 64, .inl v)), (ab, .inl (dB, 64, .inl (sd_cl bb 64))), (aq, .inr (1, [.ref av, .ref ah, .int (nI 0), .null])), (ah, .inl (dH, 64, .inl f)), (am, .inr (2, [.ref mv, .ref mb])), (mv, .inl (eV, 64, .inl v)), (mb, .inl (eB, 64, .inl (sd_cl bb 64)))]) [0, 1, 2, 3, 4, 5, 6, 7] rfl, hD.sub (ws' := [(ax, .inr (0, [.ref av, .ref ab, .ref aq])), (av, .inl (dV, 64, .inl v)), (ab, .inl (dB, 64, .inl (sd_cl bb 64))), (aq, .inr (1, [.ref av, .ref ah, .int (nI 0), .null])), (ah, .inl (dH, 64, .inl f)), (am, .inr (2, [.ref mv, .ref mb])), (mv, .inl (eV, 64, .inl v)), (mb, .inl (eB, 64, .inl (sd_cl bb 64)))]) [0, 1, 2, 3, 4, 5, 6, 7] (by decide) rfl, hS, lv_sub hl [1, 2, 3, 0] rfl, hw1⟩
end
section
/-- the law's loop goes on -/
theorem lw_cnd {L i : Nat} (hL : L ≤ 288) (hi : i ≤ L) (h : ¬ nI L - nI 6 < nI i) : i + 6 ≤ L := by
  rw [Int32.lt_iff_toInt_lt, pk_sub_toInt (by omega) (by omega), nI_toInt (by omega)] at h
  omega
set_option maxHeartbeats 4000000 in
set_option maxRecDepth 100000 in
/-- THE LAW'S LOOP -/
theorem law_loop {p : Program} {l : Launch} {e : Env} {s : State} {m : MethodId} {below : List Frame} {meth : Method} {c : Code} {b0 L : Nat} {xs : Nat → Int32} (hL : L ≤ 288) (C0 : lw_At p s m meth c b0 L xs) {dC : Nat → ClassId} {dI : Nat → Nat → Nat} {ax av ab aq ah am mv mb : Nat} {dV dB dH eV eB : ClassId} (hK : va_K (dC, dI) vwCl [(dV, .int), (dB, .boolean), (dH, .int), (eV, .int), (eB, .boolean)] s) : ∀ (q i : Nat) (v bb f : Nat → Int32) (n : Nat) (H : Heap) (locs : List Loc) (ls : Array Slot), i ≤ L → L + 1 ≤ i + q → lw_J dC dI s b0 ax av ab aq ah am mv mb dV dB dH eV eB v bb f n i H locs ls → W p l e room_1 s m #[Value.ref b0] below meth c H locs (8 + i) (400 + 64 * i) (lw_Z below #[Value.ref b0] s) (F0 m 18 ls []) := by
  obtain ⟨hx, hb, hr, hml, hown, hts0, hX, hbl, hlocks, hgv⟩ := id C0
  have hts : ∀ w ∈ lw_all, w.before _ s = true := fun w h => hts0 w (lw_all_tbl h)
  have hA : ∀ q : Nat, s.heap.size ≤ q → (fun q : Nat => s.heap.size ≤ q) q := fun _ h => h
  have hbA : ¬ (fun q : Nat => s.heap.size ≤ q) b0 := Nat.not_le.mpr hbl
  intro q
  induction q with
  | zero =>
    intro i v bb f n H locs ls h1 h2
    exact absurd h2 (by omega)
  | succ q ih =>
    intro i v bb f n H locs ls hi hiq hJ
    obtain ⟨hP, hD, hS, hl, hI0⟩ := id hJ
    have hP : va_P (dC, dI) vwCl [(ax, .inr (0, [.ref av, .ref ab, .ref aq])), (av, .inl (dV, 64, .inl v)), (ab, .inl (dB, 64, .inl bb)), (aq, .inr (1, [.ref av, .ref ah, .int (nI n), .null])), (ah, .inl (dH, 64, .inl f)), (am, .inr (2, [.ref mv, .ref mb])), (mv, .inl (eV, 64, .inl v)), (mb, .inl (eB, 64, .inl bb))] H := hP
    have hD : va_D (fun q : Nat => s.heap.size ≤ q) [(ax, .inr (0, [.ref av, .ref ab, .ref aq])), (av, .inl (dV, 64, .inl v)), (ab, .inl (dB, 64, .inl bb)), (aq, .inr (1, [.ref av, .ref ah, .int (nI n), .null])), (ah, .inl (dH, 64, .inl f)), (am, .inr (2, [.ref mv, .ref mb])), (mv, .inl (eV, 64, .inl v)), (mb, .inl (eB, 64, .inl bb))] := hD
    have hl : lv_has ls 4 [(0, .ref b0), (1, .ref ax), (2, .ref am), (3, .int (nI i))] := hl
    refine lv_iload_n hx hb dL_law_18 rfl (lv_at hl 3 rfl) ?_
    refine lv_aload_n hx hb dL_law_19 rfl (lv_at hl 0 rfl) ?_
    refine va_slen hx hb hX hbl hbA hS dL_law_20 ?_
    refine lv_bipush (v := (nI 6)) hx hb dL_law_21 (by decide +kernel) ?_
    refine lv_isub hx hb dL_law_23 ?_
    refine lv_icmp_gt (tgt := 280) hx hb dL_law_24 (by decide) (fun c24 => ?_) (fun c24 => ?_)
    · refine lv_iconst (v := 1) hx hb dL_law_280 (by decide +kernel) ?_
      refine va_forget (fun q hq => hS.2.2 q hq) ?_
      refine W.widen (k := 1200096) (n := 5501386) (by omega) (by omega) ?_
      exact lw_ret hx hb hr hlocks dL_law_281
    · have hi6 : i + 6 ≤ L := lw_cnd hL hi c24
      obtain ⟨t, ht, et⟩ := pk_andE (xs i) (m := 15) 4 (by decide +kernel)
      have ht : t < 16 := ht
      refine lv_aload_n hx hb dL_law_27 rfl (lv_at hl 0 rfl) ?_
      refine lv_iload_n hx hb dL_law_28 rfl (lv_at hl 3 rfl) ?_
      refine va_sld hx hb hX hbl hbA hS (vp_in_nI (by omega) (by omega)) dL_law_29 ?_
      refine lv_topi (fun y_1 ey_1 => ?_)
      obtain rfl : y_1 = xs i := ey_1.trans (congrArg xs (nI_clamp (by omega)))
      refine lv_bipush (v := 15) hx hb dL_law_30 (by decide +kernel) ?_
      refine lv_iand hx hb dL_law_32 ?_
      refine lv_topi (fun y_2 ey_2 => ?_)
      obtain rfl : y_2 = nI t := ey_2.trans (et)
      rcases (show t = 0 ∨ t = 1 ∨ t = 2 ∨ t = 3 ∨ t = 4 ∨ t = 5 ∨ t = 6 ∨ t = 7 ∨ t = 8 ∨ t = 9 ∨ 10 ≤ t by omega) with rfl | rfl | rfl | rfl | rfl | rfl | rfl | rfl | rfl | rfl | h10
      · refine lv_tableIn (tgt := 88) (off := 55) hx hb dL_law_33 (by decide +kernel) (by decide +kernel) (by decide +kernel) (by decide) ?_
        exact lw_c0 hL C0 hK hi6 hJ (fun v bb f n H locs ls hJ => ih (i + 6) v bb f n H locs ls hi6 (by omega) hJ)
      · refine lv_tableIn (tgt := 121) (off := 88) hx hb dL_law_33 (by decide +kernel) (by decide +kernel) (by decide +kernel) (by decide) ?_
        exact lw_c1 hL C0 hK hi6 hJ (fun v bb f n H locs ls hJ => ih (i + 6) v bb f n H locs ls hi6 (by omega) hJ)
      · refine lv_tableIn (tgt := 144) (off := 111) hx hb dL_law_33 (by decide +kernel) (by decide +kernel) (by decide +kernel) (by decide) ?_
        exact lw_c2 hL C0 hK hi6 hJ (fun v bb f n H locs ls hJ => ih (i + 6) v bb f n H locs ls hi6 (by omega) hJ)
      · refine lv_tableIn (tgt := 157) (off := 124) hx hb dL_law_33 (by decide +kernel) (by decide +kernel) (by decide +kernel) (by decide) ?_
        exact lw_c3 hL C0 hK hi6 hJ (fun v bb f n H locs ls hJ => ih (i + 6) v bb f n H locs ls hi6 (by omega) hJ)
      · refine lv_tableIn (tgt := 170) (off := 137) hx hb dL_law_33 (by decide +kernel) (by decide +kernel) (by decide +kernel) (by decide) ?_
        exact lw_c4 hL C0 hK hi6 hJ (fun v bb f n H locs ls hJ => ih (i + 6) v bb f n H locs ls hi6 (by omega) hJ)
      · refine lv_tableIn (tgt := 193) (off := 160) hx hb dL_law_33 (by decide +kernel) (by decide +kernel) (by decide +kernel) (by decide) ?_
        exact lw_c5 hL C0 hK hi6 hJ (fun v bb f n H locs ls hJ => ih (i + 6) v bb f n H locs ls hi6 (by omega) hJ)
      · refine lv_tableIn (tgt := 214) (off := 181) hx hb dL_law_33 (by decide +kernel) (by decide +kernel) (by decide +kernel) (by decide) ?_
        exact lw_c6 hL C0 hK hi6 hJ (fun v bb f n H locs ls hJ => ih (i + 6) v bb f n H locs ls hi6 (by omega) hJ)
      · refine lv_tableIn (tgt := 227) (off := 194) hx hb dL_law_33 (by decide +kernel) (by decide +kernel) (by decide +kernel) (by decide) ?_
        exact lw_c7 hL C0 hK hi6 hJ (fun v bb f n H locs ls hJ => ih (i + 6) v bb f n H locs ls hi6 (by omega) hJ)
      · refine lv_tableIn (tgt := 240) (off := 207) hx hb dL_law_33 (by decide +kernel) (by decide +kernel) (by decide +kernel) (by decide) ?_
        exact lw_c8 hL C0 hK hi6 hJ (fun v bb f n H locs ls hJ => ih (i + 6) v bb f n H locs ls hi6 (by omega) hJ)
      · refine lv_tableIn (tgt := 263) (off := 230) hx hb dL_law_33 (by decide +kernel) (by decide +kernel) (by decide +kernel) (by decide) ?_
        exact lw_c9 hL C0 hK hi6 hJ (fun v bb f n H locs ls hJ => ih (i + 6) v bb f n H locs ls hi6 (by omega) hJ)
      · refine lv_tableOut (tgt := 274) hx hb dL_law_33 (Or.inr (by rw [nI_toInt (by omega)]; omega)) (by decide) ?_
        refine lv_iinc (v := nI (i + 6)) (lv' := [(3, .int (nI (i + 6))), (0, .ref b0), (1, .ref ax), (2, .ref am)]) hx hb dL_law_274 hl (k := 3) rfl (by rw [← nI_add]; rfl) (by decide) rfl (fun ls hl => ?_)
        refine lv_goto (tgt := 18) hx hb dL_law_277 (by decide) ?_
        refine W.widen (k := 8 + (i + 6)) (n := 400 + 64 * (i + 6)) (by omega) (by omega) ?_
        exact ih (i + 6) v bb f n H locs ls hi6 (by omega) ⟨hP, hD, hS, lv_sub hl [1, 2, 3, 0] rfl, hI0⟩
set_option maxHeartbeats 4000000 in
set_option maxRecDepth 100000 in
/-- THE LAW, from its entry -/
theorem whole_start {p : Program} {e : Env} {s : State} {m : MethodId} {below : List Frame} {meth : Method} {c : Code} (l : Launch) (hflags : l.flags = flags0) {b L : Nat} {xs : Nat → Int32} (hL : L ≤ 288) (C0 : lw_At p s m meth c b L xs) : W p l e room_1 s m #[Value.ref b] below meth c s.heap [] 0 0 (lw_Z below #[Value.ref b] s) (entryFrame m ([Value.ref b] : List Value).toArray 4) := by
  obtain ⟨b0, eb⟩ : ∃ y : Nat, y = b := ⟨_, rfl⟩
  subst eb
  obtain ⟨hx, hb, hr, hml, hown, hts0, hX, hbl, hlocks, hgv⟩ := id C0
  have hts : ∀ w ∈ lw_all, w.before _ s = true := fun w h => hts0 w (lw_all_tbl h)
  have hA : ∀ q : Nat, s.heap.size ≤ q → (fun q : Nat => s.heap.size ≤ q) q := fun _ h => h
  have hbA : ¬ (fun q : Nat => s.heap.size ≤ q) b0 := Nat.not_le.mpr hbl
  obtain ⟨c0_, iS0, hKn0⟩ := u_known (C := RX0) (T := TX0) (N := 3) (n := 3) hts0 (fun w h => lw_all_tbl (in_X0 w h)) (hts0 _ (lw_all_tbl q16))
  obtain ⟨c1_, iS1, hKn1⟩ := u_known (C := RX1) (T := TX1) (N := 4) (n := 4) hts0 (fun w h => lw_all_tbl (in_X1 w h)) (hts0 _ (lw_all_tbl q24))
  obtain ⟨c2_, iS2, hKn2⟩ := u_known (C := RX3) (T := TX3) (N := 2) (n := 2) hts0 (fun w h => lw_all_tbl (in_X3 w h)) (hts0 _ (lw_all_tbl q259))
  obtain ⟨dC, dI, hKc⟩ : ∃ (dC : Nat → ClassId) (dI : Nat → Nat → Nat), ∀ (k : Nat) (q : vw_C), vwCl[k]? = some q → u_Kn s q.1 q.2.1 q.2.2 (dC k) (dI k) := by
    refine ⟨fun k => if k = 0 then c0_ else if k = 1 then c1_ else c2_, fun k => if k = 0 then iS0 else if k = 1 then iS1 else iS2, ?_⟩
    intro k q hq
    match k, hq with
    | 0, hq => cases hq; exact hKn0
    | 1, hq => cases hq; exact hKn1
    | 2, hq => cases hq; exact hKn2
    | k + 3, hq => simp [vwCl] at hq
  have heq : (Cond.eq (.length (.static "IntArrays" "EMPTY_ARRAY" "[I")) (.int 0)).before #[Value.ref b0] s = true := flat_of_before _ hgv _ (by decide +kernel)
  obtain ⟨tE, cellE, htE, -, -⟩ := Term.length_spec (va_eqt heq)
  have hZ : va_Z "IntArrays" "EMPTY_ARRAY" "[I" (.ref tE) (fun q : Nat => s.heap.size ≤ q) s s.heap := va_Zof (hts0 _ q33) (hts _ q5) htE (fun a h q => absurd q (Nat.not_le.mpr h))
  have hS : va_S (fun q : Nat => s.heap.size ≤ q) s.heap s.heap [] := va_S.rf
  have hK : va_K (dC, dI) vwCl [] s := ⟨hKc, fun k q h => by simp at h⟩
  have hP : va_P (dC, dI) vwCl [] s.heap := fun k q h => by simp at h
  have hD : va_D (fun q : Nat => s.heap.size ≤ q) [] := ⟨fun i j p q h => by simp at h, fun k q h => by simp at h⟩
  have hl := lv_entry ([.ref b0]) (n := 4) (Nat.le_of_ble_eq_true rfl)
  rw [lg_entry_eq]
  generalize (lg_sl ([.ref b0]) ++ List.replicate (4 - (lg_sl ([.ref b0])).length) Slot.unset).toArray = ls at hl ⊢
  have hl : lv_has ls 4 [(0, .ref b0)] := hl
  refine va_new (ci := 0) (fs := [.null, .null, .null]) (C := RX0) (T := TX0) (N := 3) hx hb hts in_X0 tyX0 tyX0_ok hown (hts _ q15) (hts _ q16) (hts _ q3) hK hP hD hS hA rfl (fun j hj => by rcases (show j = 0 ∨ j = 1 ∨ j = 2 by omega) with rfl | rfl | rfl <;> rfl) (Nat.le_of_ble_eq_true rfl) (Nat.le_of_ble_eq_true rfl) dL_law_0 (fun ax H hP hD hS => ?_)
  have hP : va_P (dC, dI) vwCl [(ax, .inr (0, [.null, .null, .null]))] H := hP
  have hD : va_D (fun q : Nat => s.heap.size ≤ q) [(ax, .inr (0, [.null, .null, .null]))] := hD
  refine W.widen (k := 1) (n := 3) (Nat.le_of_ble_eq_true rfl) (Nat.le_of_ble_eq_true rfl) ?_
  refine lv_dup hx hb dL_law_3 rfl ?_
  have hPc := hP.sub (ws' := [(ax, .inr (0, [.null, .null, .null]))]) [0] rfl
  have hDc := hD.sub (ws' := [(ax, .inr (0, [.null, .null, .null]))]) [0] (by decide) rfl
  have hKc := hK.sub (tys' := []) [] rfl
  have hFc := va_free (wc := [(ax, .inr (0, [.null, .null, .null]))]) hD hS hA [0] rfl
  refine va_callv (va_runI (As := []) (rest := [.ref ax]) ⟨hx, hb, hml, hown, hts⟩ (metX0_init l dC dI ax tE H.size ) (cwI 0 hts (lw_meth q19) rfl rfl rfl (hts _ q3) (hts _ q17) (hts _ q18) rfl (by decide +kernel) ⟨Nat.le_of_ble_eq_true rfl, Nat.le_of_ble_eq_true rfl⟩) ⟨fun a U g mk q => by obtain ⟨q0, q1, qP, qK, qD, qZ⟩ := q; exact ⟨q0, q1, qP, va_K.moved (u := U) (U := U.calling g mk a) (Vm.Alike.refl U.vm) qK, qD, va_Z.moved (U := U.calling g mk a) (Vm.Alike.refl U.vm) qZ⟩, fun U hU hW => ⟨rfl, by rw [hU], by rw [hU]; exact hPc, va_K.moved hW.alike hKc, hDc.weaken (fun _ _ _ _ => trivial), by rw [hU]; exact va_Z.moved hW.alike (va_Z.narrow (va_Z.kept hZ hS.2.1) hFc)⟩⟩ rfl rfl hl.1 rfl (lv_room (Nat.le_of_ble_eq_true rfl)) dL_law_4 ⟨Nat.le_of_ble_eq_true rfl, Nat.le_of_ble_eq_true rfl⟩) hS (fun q _ h => hFc q h) hFc (fun _u t H1 locs ht hvm _hwq hB hz1 hk1 hS => ?_)
  have _hw : True := _hwq
  obtain ⟨av, ab, aq, ah, dV, dB, dH, hP1, hK1, hD1⟩ := hB
  rw [ht] at hP1
  obtain ⟨hP, hD⟩ := va_join (wr := []) (w1 := [(ax, .inr (0, [.ref av, .ref ab, .ref aq])), (av, .inl (dV, 64, .inl (sd_in 64))), (ab, .inl (dB, 64, .inl (fun _ => 0))), (aq, .inr (1, [.ref av, .ref ah, .int (nI 0), .null])), (ah, .inl (dH, 64, .inl (fun _ => 0)))]) hP hD [0] [] rfl rfl (by decide) (by decide) hk1 hFc hP1 hD1
  have hK1 := va_K.moved hvm.symm hK1
  have hK := hK.app (hK1.sub (tys' := [(dV, .int), (dB, .boolean), (dH, .int)]) [0, 1, 2] rfl)
  have hK : va_K (dC, dI) vwCl [(dV, .int), (dB, .boolean), (dH, .int)] s := hK
  generalize H1 = H at hP hS ⊢
  have hP : va_P (dC, dI) vwCl [(ax, .inr (0, [.ref av, .ref ab, .ref aq])), (av, .inl (dV, 64, .inl (sd_in 64))), (ab, .inl (dB, 64, .inl (fun _ => 0))), (aq, .inr (1, [.ref av, .ref ah, .int (nI 0), .null])), (ah, .inl (dH, 64, .inl (fun _ => 0)))] H := hP
  have hD : va_D (fun q : Nat => s.heap.size ≤ q) [(ax, .inr (0, [.ref av, .ref ab, .ref aq])), (av, .inl (dV, 64, .inl (sd_in 64))), (ab, .inl (dB, 64, .inl (fun _ => 0))), (aq, .inr (1, [.ref av, .ref ah, .int (nI 0), .null])), (ah, .inl (dH, 64, .inl (fun _ => 0)))] := hD
  refine W.widen (k := 5) (n := 199) (Nat.le_of_ble_eq_true rfl) (Nat.le_of_ble_eq_true rfl) ?_
  refine lv_astore_n (lv' := [(1, .ref ax), (0, .ref b0)]) hx hb dL_law_7 rfl hl (by decide) rfl (fun ls hl => ?_)
  refine va_new (ci := 2) (fs := [.null, .null]) (C := RX3) (T := TX3) (N := 2) hx hb hts in_X3 tyX3 tyX3_ok hown (hts _ q258) (hts _ q259) (hts _ q6) hK hP hD hS hA rfl (fun j hj => by rcases (show j = 0 ∨ j = 1 by omega) with rfl | rfl <;> rfl) (Nat.le_of_ble_eq_true rfl) (Nat.le_of_ble_eq_true rfl) dL_law_8 (fun am H hP hD hS => ?_)
  have hP : va_P (dC, dI) vwCl [(ax, .inr (0, [.ref av, .ref ab, .ref aq])), (av, .inl (dV, 64, .inl (sd_in 64))), (ab, .inl (dB, 64, .inl (fun _ => 0))), (aq, .inr (1, [.ref av, .ref ah, .int (nI 0), .null])), (ah, .inl (dH, 64, .inl (fun _ => 0))), (am, .inr (2, [.null, .null]))] H := hP
  have hD : va_D (fun q : Nat => s.heap.size ≤ q) [(ax, .inr (0, [.ref av, .ref ab, .ref aq])), (av, .inl (dV, 64, .inl (sd_in 64))), (ab, .inl (dB, 64, .inl (fun _ => 0))), (aq, .inr (1, [.ref av, .ref ah, .int (nI 0), .null])), (ah, .inl (dH, 64, .inl (fun _ => 0))), (am, .inr (2, [.null, .null]))] := hD
  refine W.widen (k := 6) (n := 201) (Nat.le_of_ble_eq_true rfl) (Nat.le_of_ble_eq_true rfl) ?_
  refine lv_dup hx hb dL_law_11 rfl ?_
  have hPc := hP.sub (ws' := [(am, .inr (2, [.null, .null]))]) [5] rfl
  have hDc := hD.sub (ws' := [(am, .inr (2, [.null, .null]))]) [5] (by decide) rfl
  have hKc := hK.sub (tys' := []) [] rfl
  have hFc := va_free (wc := [(am, .inr (2, [.null, .null]))]) hD hS hA [5] rfl
  refine va_callv (va_runI (As := []) (rest := [.ref am]) ⟨hx, hb, hml, hown, hts⟩ (metX3_init l dC dI am H.size ) (cwI 0 hts (lw_meth q262) rfl rfl rfl (hts _ q6) (hts _ q260) (hts _ q261) rfl (by decide +kernel) ⟨Nat.le_of_ble_eq_true rfl, Nat.le_of_ble_eq_true rfl⟩) ⟨fun a U g mk q => by obtain ⟨q0, q1, qP, qK, qD⟩ := q; exact ⟨q0, q1, qP, va_K.moved (u := U) (U := U.calling g mk a) (Vm.Alike.refl U.vm) qK, qD⟩, fun U hU hW => ⟨rfl, by rw [hU], by rw [hU]; exact hPc, va_K.moved hW.alike hKc, hDc.weaken (fun _ _ _ _ => trivial)⟩⟩ rfl rfl hl.1 rfl (lv_room (Nat.le_of_ble_eq_true rfl)) dL_law_12 ⟨Nat.le_of_ble_eq_true rfl, Nat.le_of_ble_eq_true rfl⟩) hS (fun q _ h => hFc q h) hFc (fun _u t H1 locs ht hvm _hwq hB hz1 hk1 hS => ?_)
  have _hw : True := _hwq
  obtain ⟨mv, mb, eV, eB, hP1, hK1, hD1⟩ := hB
  rw [ht] at hP1
  obtain ⟨hP, hD⟩ := va_join (wr := [(ax, .inr (0, [.ref av, .ref ab, .ref aq])), (av, .inl (dV, 64, .inl (sd_in 64))), (ab, .inl (dB, 64, .inl (fun _ => 0))), (aq, .inr (1, [.ref av, .ref ah, .int (nI 0), .null])), (ah, .inl (dH, 64, .inl (fun _ => 0)))]) (w1 := [(am, .inr (2, [.ref mv, .ref mb])), (mv, .inl (eV, 64, .inl (sd_in 64))), (mb, .inl (eB, 64, .inl (fun _ => 0)))]) hP hD [5] [0, 1, 2, 3, 4] rfl rfl (by decide) (by decide) hk1 hFc hP1 hD1
  have hK1 := va_K.moved hvm.symm hK1
  have hK := hK.app (hK1.sub (tys' := [(eV, .int), (eB, .boolean)]) [0, 1] rfl)
  have hK : va_K (dC, dI) vwCl [(dV, .int), (dB, .boolean), (dH, .int), (eV, .int), (eB, .boolean)] s := hK
  generalize H1 = H at hP hS ⊢
  have hP : va_P (dC, dI) vwCl [(ax, .inr (0, [.ref av, .ref ab, .ref aq])), (av, .inl (dV, 64, .inl (sd_in 64))), (ab, .inl (dB, 64, .inl (fun _ => 0))), (aq, .inr (1, [.ref av, .ref ah, .int (nI 0), .null])), (ah, .inl (dH, 64, .inl (fun _ => 0))), (am, .inr (2, [.ref mv, .ref mb])), (mv, .inl (eV, 64, .inl (sd_in 64))), (mb, .inl (eB, 64, .inl (fun _ => 0)))] H := hP
  have hD : va_D (fun q : Nat => s.heap.size ≤ q) [(ax, .inr (0, [.ref av, .ref ab, .ref aq])), (av, .inl (dV, 64, .inl (sd_in 64))), (ab, .inl (dB, 64, .inl (fun _ => 0))), (aq, .inr (1, [.ref av, .ref ah, .int (nI 0), .null])), (ah, .inl (dH, 64, .inl (fun _ => 0))), (am, .inr (2, [.ref mv, .ref mb])), (mv, .inl (eV, 64, .inl (sd_in 64))), (mb, .inl (eB, 64, .inl (fun _ => 0)))] := hD
  refine W.widen (k := 8) (n := 329) (Nat.le_of_ble_eq_true rfl) (Nat.le_of_ble_eq_true rfl) ?_
  refine lv_astore_n (lv' := [(2, .ref am), (1, .ref ax), (0, .ref b0)]) hx hb dL_law_15 rfl hl (by decide) rfl (fun ls hl => ?_)
  refine lv_iconst (v := (nI 0)) hx hb dL_law_16 (by decide +kernel) ?_
  refine lv_istore_n (lv' := [(3, .int (nI 0)), (2, .ref am), (1, .ref ax), (0, .ref b0)]) hx hb dL_law_17 rfl hl (by decide) rfl (fun ls hl => ?_)
  refine W.widen (k := 8 + 0) (n := 400 + 64 * 0) (by omega) (by omega) ?_
  exact law_loop hL C0 (hK.sub (tys' := [(dV, .int), (dB, .boolean), (dH, .int), (eV, .int), (eB, .boolean)]) [0, 1, 2, 3, 4] rfl) (L + 1) 0 (sd_in 64) (fun _ => 0) (fun _ => 0) 0 _ _ _ (Nat.zero_le L) (by omega) ⟨hP.sub (ws' := [(ax, .inr (0, [.ref av, .ref ab, .ref aq])), (av, .inl (dV, 64, .inl (sd_in 64))), (ab, .inl (dB, 64, .inl (fun _ => 0))), (aq, .inr (1, [.ref av, .ref ah, .int (nI 0), .null])), (ah, .inl (dH, 64, .inl (fun _ => 0))), (am, .inr (2, [.ref mv, .ref mb])), (mv, .inl (eV, 64, .inl (sd_in 64))), (mb, .inl (eB, 64, .inl (fun _ => 0)))]) [0, 1, 2, 3, 4, 5, 6, 7] rfl, hD.sub (ws' := [(ax, .inr (0, [.ref av, .ref ab, .ref aq])), (av, .inl (dV, 64, .inl (sd_in 64))), (ab, .inl (dB, 64, .inl (fun _ => 0))), (aq, .inr (1, [.ref av, .ref ah, .int (nI 0), .null])), (ah, .inl (dH, 64, .inl (fun _ => 0))), (am, .inr (2, [.ref mv, .ref mb])), (mv, .inl (eV, 64, .inl (sd_in 64))), (mb, .inl (eB, 64, .inl (fun _ => 0)))]) [0, 1, 2, 3, 4, 5, 6, 7] (by decide) rfl, hS, lv_sub hl [3, 2, 1, 0] rfl, sd_I_0⟩
-- ===== YOUR PART ENDS =====
set_option maxHeartbeats 4000000 in
theorem lw_walk (l : Launch) (hflags : l.flags = flags0) (b : Addr) (xs : List Int32) : MetFree l x (headSpec (Jvm.Cond.code x code maxLocals ret :: tables_1) room_1) (lw_P b xs) (fun _ _ _ _ _ => True) lw_Q := by
  refine MetFree.of_bodyS (code := code) (maxLocals := maxLocals) (ret := ret) (by decide) ?_ ?_
  · intro args s m h hn
    obtain ⟨meth, c, h1, h2, h3, h4, h5, h6, -, -⟩ := Cond.code_spec hn (atoms_spec (ws := Jvm.Cond.code x code maxLocals ret :: tables_1) h _ List.mem_cons_self)
    exact ⟨meth, c, h1, h2, h3, h4, h5, h6⟩
  · intro p e s m args below meth c s₁ B hml0 hP _
    obtain ⟨rfl, hx, hbd, hgv⟩ := hP
    obtain ⟨scr, harrAt, hlist, hof, hsmall⟩ := hx
    obtain ⟨hcb, hkn, -, -⟩ := State.arrayAt?_spec harrAt
    have hown : s.vm.findClass R_law = some m.cls := findClass_of_methodNamed B.named
    have hts0 : ∀ c ∈ (Jvm.Cond.code x code maxLocals ret :: tables_1), c.before #[Value.ref b] s = true := atoms_spec (ws := Jvm.Cond.code x code maxLocals ret :: tables_1) B.pre
    have hts : ∀ w ∈ lw_tbl, w.before #[Value.ref b] s = true := k2_hts_sels lw_privs (fun w hw => hts0 w (List.mem_cons_of_mem _ hw)) lw_privs_ok
    have hml : c.maxLocals = 4 := B.maxLocals_eq (hts0 _ List.mem_cons_self)
    have X₀ : Stand p l e room_1 s m #[Value.ref b] below meth c s₁ [] 0 0 := Stand.of_body B
    have hh0 : s₁.heap = s.heap := by rw [B.state]; rfl
    have hsz : scr.slots.size = xs.length := by rw [← Array.length_toList, hlist, List.length_map]
    have hval : ∀ j : Nat, j < xs.length → scr.slots[j]? = some (.int (xs.getD j 0)) := fun j hj => by
      rw [← Array.getElem?_toList, hlist]
      simp [hj]
    have hbl : b < s.heap.size := (Array.getElem?_eq_some_iff.mp hcb).1
    have hX : va_X b xs.length (fun j => xs.getD j 0) s s.heap := ⟨scr, hcb, hof, hkn, hsz, hval⟩
    have K : W p l e room_1 s m #[Value.ref b] below meth c s₁.heap [] 0 0 (lw_Z below #[Value.ref b] s) (entryFrame m ([Value.ref b] : List Value).toArray 4) := by
      rw [hh0]
      exact whole_start l hflags hbd ⟨B.exec, B.bytes, B.returns, hml, hown, hts, hX, hbl, B.notSynchronized, hgv⟩
    obtain ⟨t, a1, o, b1, b2, b3⟩ := K s₁ rfl X₀
    exact ⟨t, o, a1, b1, b2, b3⟩
theorem lw_pre_spec {args : Array Value} {s : State} (h : (Jvm.Cond.and given_1 narrow_1).before args s = true) (hr : rest_1_c.before args s = true) : ∃ (b : Addr) (xs : List Int32), lw_P b xs args s := by
  have hs := flat_of_before _ h
  have hq := flat_of_before _ hr
  have hc : (Cond.count 1).before args s = true := hs _ (by decide +kernel)
  have harr : (Cond.arrayOf (.arg 0) .int).before args s = true := hs _ (by decide +kernel)
  have hle : (Cond.le (.length (.arg 0)) (.int 288)).before args s = true := hs _ (by decide +kernel)
  have hlen : (Cond.isInt (.length (.arg 0))).before args s = true := hq _ (by decide +kernel)
  have hall : (Cond.all (.arg 0) (.isInt (.elem (.arg 0) (.index 0)))).before args s = true := hq _ (by decide +kernel)
  obtain ⟨b, xs, hb, hx⟩ := State.ints_of_pre rfl harr hlen hall
  have hsm : xs.length < 2 ^ 31 := hx.choose_spec.2.2.2
  have hev : (Term.length (.arg 0)).eval args s none [] s = some (.int xs.length.toInt32) := hx.length_eval hb
  have hv := Cond.le_ints hev (show (Term.int 288).eval args s none [] s = some (.int 288) from rfl)
  have hd : xs.length.toInt32 ≤ 288 := by
    simpa [Cond.before, Cond.holds, hv] using hle
  have hN : xs.length ≤ 288 := (Int32.ofNat_le_ofNat hsm (by decide)).mp (show Int32.ofNat xs.length ≤ Int32.ofNat 288 from hd)
  exact ⟨b, xs, Cond.one_arg hc (show args[0]? = some (.ref b) from hb), hx, hN, h⟩
theorem lw_comes (l : Launch) (hflags : l.flags = flags0) : Comes l x (Jvm.Cond.code x code maxLocals ret :: tables_1) room_1 (fun tb e args s => Calls_1 tb e args s ∧ rest_1 tb e args s ∧ Pre_1 tb e args s)
    (fun _ _ args s o t => lw_Q args s o t) := by
  intro p e ha hc hk s m args below hf hfit hheap happ hpre
  obtain ⟨b, xs, hP⟩ := lw_pre_spec hpre.2.2 hpre.2.1
  obtain ⟨k, o, h1, h2, h3, hQ⟩ := lw_walk l hflags b xs p e ha hc hk s m args below hf ((Spec.applies_iff_loose hf).mp happ).1 hP trivial
  exact ⟨k, o, h1, h2, h3, hQ⟩
theorem lw_frame {s t : State} {o : Outcome} {args : Array Value} (h : Framed s o t [] 1200096 5501386) :
    Framed s o t (fieldLocs frame_1_writes args s ++ arrayLocs frame_1_arrays args s ++ staticLocs frame_1_statics s) 1200096 5501386 := h
theorem lw_limb (L : Cond) (hL : ∀ (args : Array Value) (s t : State), L.after args s (.returned (some (.int 1))) t = true) :
    ArmFor flags0 classFile x code maxLocals ret World_1 tables_1 room_1 Calls_1 rest_1 Pre_1
      (fun tb e a s o t => postC L tb e a s o t ∧ Framed s o t (fieldLocs frame_1_writes a s ++ arrayLocs frame_1_arrays a s ++ staticLocs frame_1_statics s) 1200096 5501386) := by
  intro l hflags _ _ p e ha hc hk s m args below hf hfit hheap happ hpre
  obtain ⟨k, o, h1, h2, h3, rfl, hF⟩ := lw_comes l hflags p e ha hc hk s m args below hf hfit hheap happ hpre
  exact ⟨k, _, h1, h2, h3, hL args s _, lw_frame hF⟩
theorem i_vc : Claimed_1_1 ∧ Claimed_1_2 := ⟨lw_limb limb_1_1 (fun args s t => by simp [limb_1_1, Cond.after, Cond.holds, Cond.value]), lw_limb limb_1_2 (fun args s t => Cond.after_iff.mpr (by
  first | (rw [show limb_1_2 = Cond.eq .result (.int 1) from rfl, Cond.eq_ints (x := 1) (y := 1) rfl rfl]; simp; done) | (simp [limb_1_2, Cond.value, Term.eval]; done)))⟩
end
