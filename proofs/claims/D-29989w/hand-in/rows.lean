section
-- ===== PART A: goes FIRST, ahead of the names: the tables' words, and 'selects' of the private methods out of them =====
/-- a private method of a class that the tables say can be made, by its rows of tables_1 -/
def lw_okq (q : MethodName × Nat) : Prop := (q.1.cls ≠ "java/lang/invoke/MethodHandle" ∧ q.1.cls ≠ "java/lang/invoke/VarHandle") ∧ Cond.instantiable q.1.cls q.2 ∈ tables_1 ∧ Cond.privateMethod q.1 ∈ tables_1 ∧ Cond.instanceMethod q.1 ∈ tables_1
set_option maxRecDepth 100000
theorem lw_t1 {w : Cond} (h : w ∈ tables_1_1) : w ∈ tables_1 := List.mem_append_left _ h
theorem lw_t2 {w : Cond} (h : w ∈ tables_1_2) : w ∈ tables_1 := List.mem_append_right _ h
theorem lw_p0 : lw_okq (⟨"java/lang/NullPointerException", "getExtendedNPEMessage", "()Ljava/lang/String;"⟩, 8) := ⟨⟨by decide +kernel, by decide +kernel⟩, lw_t1 (List.mem_of_getElem? (i := 87) rfl), lw_t1 (List.mem_of_getElem? (i := 85) rfl), lw_t1 (List.mem_of_getElem? (i := 86) rfl)⟩
theorem lw_p1 : lw_okq (⟨"java/lang/Throwable", "fillInStackTrace", "(I)Ljava/lang/Throwable;"⟩, 6) := ⟨⟨by decide +kernel, by decide +kernel⟩, lw_t1 (List.mem_of_getElem? (i := 99) rfl), lw_t1 (List.mem_of_getElem? (i := 97) rfl), lw_t1 (List.mem_of_getElem? (i := 98) rfl)⟩
def lw_privs_1 : List (MethodName × Nat) := [(⟨"java/lang/NullPointerException", "getExtendedNPEMessage", "()Ljava/lang/String;"⟩, 8), (⟨"java/lang/Throwable", "fillInStackTrace", "(I)Ljava/lang/Throwable;"⟩, 6)]
theorem lw_r1 : ∀ q ∈ lw_privs_1, lw_okq q := List.forall_mem_cons.mpr ⟨lw_p0, List.forall_mem_cons.mpr ⟨lw_p1, fun _ h => absurd h List.not_mem_nil⟩⟩
def lw_privs : List (MethodName × Nat) := lw_privs_1
def lw_tbl : List Cond := k2_sels lw_privs ++ tables_1
theorem lw_privs_ok : ∀ q ∈ lw_privs, lw_okq q := lw_r1
-- ===== ONE list of words for every method: the tables' words that hold all through a run =====
def lw_all : List Cond := lw_tbl.filter goodWord
/-- a word of the tables by its place: claim/WORDS.tsv -/
theorem lw_w {w : Cond} (i : Nat) (h : lw_tbl[i]? = some w) (g : goodWord w = true) : w ∈ lw_all := List.mem_filter.mpr ⟨List.mem_of_getElem? h, g⟩
theorem lw_all_tbl {w : Cond} (h : w ∈ lw_all) : w ∈ lw_tbl := (List.mem_filter.mp h).1
theorem lw_self : GoodIn lw_all lw_all := fun w h => ⟨h, good_of_word (List.mem_filter.mp h).2⟩
/-- a class's field words, by their places -/
theorem lw_in (ws : List Cond) (ps : List Nat) (hp : ws = ps.filterMap (fun i => lw_tbl[i]?)) (hg : ws.all goodWord = true) : ∀ w ∈ ws, w ∈ lw_all := by
  intro w h
  have h1 := List.all_eq_true.mp hg w h
  rw [hp] at h
  obtain ⟨i, -, hi⟩ := List.mem_filterMap.mp h
  exact lw_w i hi h1
/-- the words of a contract for the method y with code b, L locals, answer r -/
abbrev ws_ (y : MethodName) (b : ByteArray) (L : Nat) (r : Option FieldType) : List Cond := Cond.code y b L r :: lw_all
theorem lw_meth {y : MethodName} {b : ByteArray} {L : Nat} {r : Option FieldType} (h : Cond.code y b L r ∈ lw_all) : GoodIn lw_all (ws_ y b L r) := by
  intro w hw
  rcases List.mem_cons.mp hw with e | e
  · rw [e]
    exact lw_self _ h
  · exact lw_self _ e
theorem lw_app {a c : List Cond} (ha : ∀ w ∈ a, w ∈ lw_all) (hc : GoodIn lw_all c) : GoodIn lw_all (a ++ c) := by
  intro w hw
  rcases List.mem_append.mp hw with e | e
  · exact lw_self w (ha w e)
  · exact hc w e
/-- what a call through an object asks: cwV n hts (lw_V ..) -/
theorem lw_V {own : String} {idx : Nat} {C : String} {y : MethodName} {b : ByteArray} {L : Nat} {r : Option FieldType} (h1 : Cond.methodLink own idx y ∈ lw_all) (h2 : Cond.instanceMethod y ∈ lw_all) (h3 : Cond.selects C y y ∈ lw_all) (h4 : Cond.initialized C ∈ lw_all) (h5 : Cond.code y b L r ∈ lw_all) : GoodIn lw_all (wsV own idx C y (ws_ y b L r)) := by
  refine lw_app ?_ (lw_meth h5)
  intro w hw
  simp only [List.mem_cons, List.not_mem_nil, or_false] at hw
  rcases hw with e | e | e | e
  · rw [e]; exact h1
  · rw [e]; exact h2
  · rw [e]; exact h3
  · rw [e]; exact h4
/-- what a static call asks: va_cwS n hts (lw_S ..) -/
theorem lw_S {own : String} {idx : Nat} {y : MethodName} {b : ByteArray} {L : Nat} {r : Option FieldType} (h1 : Cond.methodLink own idx y ∈ lw_all) (h2 : Cond.static y ∈ lw_all) (h3 : Cond.initialized y.cls ∈ lw_all) (h4 : Cond.code y b L r ∈ lw_all) : GoodIn lw_all (va_wsS own idx y (ws_ y b L r)) := by
  refine lw_app ?_ (lw_meth h4)
  intro w hw
  simp only [List.mem_cons, List.not_mem_nil, or_false] at hw
  rcases hw with e | e | e
  · rw [e]; exact h1
  · rw [e]; exact h2
  · rw [e]; exact h3
/-- the words of a contract for a method WITH HANDLERS (hh: its table) -/
abbrev wsW_ (y : MethodName) (b : ByteArray) (L : Nat) (r : Option FieldType) (hh : List (Nat × Nat × Nat × Nat)) : List Cond := Cond.codeWith y b L r hh :: lw_all
theorem lw_methW {y : MethodName} {b : ByteArray} {L : Nat} {r : Option FieldType} {hh : List (Nat × Nat × Nat × Nat)} (h : Cond.codeWith y b L r hh ∈ lw_all) : GoodIn lw_all (wsW_ y b L r hh) := by
  intro w hw
  rcases List.mem_cons.mp hw with e | e
  · rw [e]
    exact lw_self _ h
  · exact lw_self _ e
/-- any list of words by their places (lw_in), good -/
theorem lw_good {ws : List Cond} (h : ∀ w ∈ ws, w ∈ lw_all) : GoodIn lw_all ws := fun w hw => lw_self w (h w hw)
/-- what a call of a method with handlers asks: vx_cwVW n hts (lw_VW ..), vx_cwSW n hts (lw_SW ..) -/
theorem lw_VW {own : String} {idx : Nat} {C : String} {y : MethodName} {b : ByteArray} {L : Nat} {r : Option FieldType} {hh : List (Nat × Nat × Nat × Nat)} (h1 : Cond.methodLink own idx y ∈ lw_all) (h2 : Cond.instanceMethod y ∈ lw_all) (h3 : Cond.selects C y y ∈ lw_all) (h4 : Cond.initialized C ∈ lw_all) (h5 : Cond.codeWith y b L r hh ∈ lw_all) : GoodIn lw_all (wsV own idx C y (wsW_ y b L r hh)) := by
  refine lw_app ?_ (lw_methW h5)
  intro w hw
  simp only [List.mem_cons, List.not_mem_nil, or_false] at hw
  rcases hw with e | e | e | e
  · rw [e]; exact h1
  · rw [e]; exact h2
  · rw [e]; exact h3
  · rw [e]; exact h4
theorem lw_SW {own : String} {idx : Nat} {y : MethodName} {b : ByteArray} {L : Nat} {r : Option FieldType} {hh : List (Nat × Nat × Nat × Nat)} (h1 : Cond.methodLink own idx y ∈ lw_all) (h2 : Cond.static y ∈ lw_all) (h3 : Cond.initialized y.cls ∈ lw_all) (h4 : Cond.codeWith y b L r hh ∈ lw_all) : GoodIn lw_all (va_wsS own idx y (wsW_ y b L r hh)) := by
  refine lw_app ?_ (lw_methW h4)
  intro w hw
  simp only [List.mem_cons, List.not_mem_nil, or_false] at hw
  rcases hw with e | e | e
  · rw [e]; exact h1
  · rw [e]; exact h2
  · rw [e]; exact h3
/-- a word by its place in its run of the tables -/
theorem lw_at {r : List Cond} (hr : ∀ w ∈ r, w ∈ lw_tbl) {w : Cond} (i : Nat) (h : r[i]? = some w) : w ∈ lw_tbl := hr w (List.mem_of_getElem? h)
theorem lw_g {w : Cond} (h : w ∈ lw_tbl) (g : goodWord w = true) : w ∈ lw_all := List.mem_filter.mpr ⟨h, g⟩
theorem lw_ms : ∀ w ∈ k2_sels lw_privs, w ∈ lw_tbl := fun w h => show w ∈ k2_sels lw_privs ++ tables_1 from List.mem_append_left _ h
theorem lw_m1 : ∀ w ∈ tables_1_1, w ∈ lw_tbl := fun w h => show w ∈ k2_sels lw_privs ++ tables_1 from List.mem_append_right (k2_sels lw_privs) (show w ∈ tables_1 from List.mem_append_left _ h)
theorem lw_m2 : ∀ w ∈ tables_1_2, w ∈ lw_tbl := fun w h => show w ∈ k2_sels lw_privs ++ tables_1 from List.mem_append_right (k2_sels lw_privs) (show w ∈ tables_1 from List.mem_append_right _ h)
theorem qs0 : (Cond.selects "java/lang/NullPointerException" ⟨"java/lang/NullPointerException", "getExtendedNPEMessage", "()Ljava/lang/String;"⟩ ⟨"java/lang/NullPointerException", "getExtendedNPEMessage", "()Ljava/lang/String;"⟩) ∈ lw_all := lw_g (lw_at lw_ms 0 rfl) rfl
theorem qs1 : (Cond.selects "java/lang/Throwable" ⟨"java/lang/Throwable", "fillInStackTrace", "(I)Ljava/lang/Throwable;"⟩ ⟨"java/lang/Throwable", "fillInStackTrace", "(I)Ljava/lang/Throwable;"⟩) ∈ lw_all := lw_g (lw_at lw_ms 1 rfl) rfl
-- ===== end of PART A; then your names; then what follows =====
/-! DECODE ROWS BY BYTES: one lemma an opcode; a method's code is cut into short pieces once, and a row reads its own piece alone. -/
set_option maxRecDepth 100000
/-- the code has just these bytes from pc on -/
def DkAt (code : ByteArray) (pc : Nat) (bs : List UInt8) : Prop := ∀ (j : Nat) (b : UInt8), bs[j]? = some b → code.data.toList[pc + j]? = some b
/-- the piece W has the bytes bs from its place j on -/
def dkIn (W : List UInt8) (j : Nat) (bs : List UInt8) : Bool := decide ((W.drop j).take bs.length = bs)
theorem dk_seg {l W T : List UInt8} {o o2 : Nat} (h : l.drop o = W ++ T) (n : Nat) (hn : W.length = n) (ho : o + n = o2) : l.drop o2 = T := by
  subst ho
  rw [← List.drop_drop, h, List.drop_left' hn]
theorem dk_at {code : ByteArray} {W T bs : List UInt8} {o pc : Nat} (h : code.data.toList.drop o = W ++ T) (j : Nat) (hp : o + j = pc) (hw : dkIn W j bs = true) : DkAt code pc bs := by
  subst hp
  intro i b e
  have h1 := of_decide_eq_true hw
  have h2 : i < bs.length := (List.getElem?_eq_some_iff.mp e).1
  have h3 : W[j + i]? = some b := by
    rw [← h1, List.getElem?_take, if_pos h2, List.getElem?_drop] at e
    exact e
  have h4 : j + i < W.length := (List.getElem?_eq_some_iff.mp h3).1
  have h5 : (code.data.toList.drop o)[j + i]? = some b := by
    rw [h, List.getElem?_append_left h4]
    exact h3
  rw [List.getElem?_drop, ← Nat.add_assoc] at h5
  exact h5
theorem dk_u1 {A : ByteArray} {p : Nat} {b : UInt8} (h : A.data.toList[p]? = some b) : (Reader.u1 : Reader DecodeError Nat) A p = .ok (b.toNat, p + 1) := by
  obtain ⟨h1, h2⟩ := List.getElem?_eq_some_iff.mp h
  have h3 : p < A.size := by simpa using h1
  have h4 : A[p]'h3 = b := h2
  have e : (Reader.u1 : Reader DecodeError Nat) A p = (if h : p < A.size then .ok (A[p].toNat, p + 1) else .error (HasTruncated.truncated p)) := by
    show (do if h : p < A.size then do set (p + 1); Pure.pure A[p].toNat else MonadExcept.throw (HasTruncated.truncated p) : Reader DecodeError Nat) A p = _
    by_cases hi : p < A.size
    · rw [dif_pos hi, dif_pos hi]; rfl
    · rw [dif_neg hi, dif_neg hi]; rfl
  rw [e, dif_pos h3, h4]
theorem dk_bind {α β : Type} {r : Reader DecodeError α} {f : α → Reader DecodeError β} {A : ByteArray} {p s : Nat} {a : α} (h : r A p = .ok (a, s)) : (r >>= f) A p = f a A s := by
  show (do let (a, s) ← r A p; f a A s : Except DecodeError (β × Nat)) = _
  rw [h]
  rfl
theorem dk_map {α β : Type} {r : Reader DecodeError α} {g : α → β} {A : ByteArray} {p s : Nat} {a : α} (h : r A p = .ok (a, s)) : (g <$> r) A p = .ok (g a, s) := by
  show (do let (a, s) ← r A p; .ok (g a, s) : Except DecodeError (β × Nat)) = _
  rw [h]
  rfl
theorem dk_u2 {A : ByteArray} {p : Nat} {a b : UInt8} (h : A.data.toList[p]? = some a) (h2 : A.data.toList[p + 1]? = some b) : (Reader.u2 : Reader DecodeError Nat) A p = .ok (a.toNat * 256 + b.toNat, p + 2) := by
  show (Reader.u1 >>= fun hi => Reader.u1 >>= fun lo => Pure.pure (hi * 256 + lo) : Reader DecodeError Nat) A p = _
  rw [dk_bind (dk_u1 h), dk_bind (dk_u1 h2)]
  rfl
theorem dk_of {code : ByteArray} {pc n : Nat} {i : Instr} (h : Decoder.instr pc code pc = .ok (i, pc + n)) : decode code pc = .ok (i, n) := by
  have e : decode code pc = (match Decoder.instr pc code pc with | .error x => .error x | .ok (j, s) => .ok (j, s - pc)) := by
    show (do let (j, s) ← Decoder.instr pc code pc; Pure.pure (j, s - pc) : Except DecodeError (Instr × Nat)) = _
    cases Decoder.instr pc code pc <;> rfl
  rw [e, h]
  show Except.ok (i, pc + n - pc) = _
  rw [Nat.add_sub_cancel_left]
theorem dk_1 {code : ByteArray} {pc : Nat} (h : DkAt code pc [1]) : decode code pc = .ok (.aconst_null, 1) := dk_of ((dk_bind (dk_u1 (h 0 _ rfl))).trans rfl)
theorem dk_2 {code : ByteArray} {pc : Nat} (h : DkAt code pc [2]) : decode code pc = .ok (.iconst (-1), 1) := dk_of ((dk_bind (dk_u1 (h 0 _ rfl))).trans rfl)
theorem dk_3 {code : ByteArray} {pc : Nat} (h : DkAt code pc [3]) : decode code pc = .ok (.iconst 0, 1) := dk_of ((dk_bind (dk_u1 (h 0 _ rfl))).trans rfl)
theorem dk_4 {code : ByteArray} {pc : Nat} (h : DkAt code pc [4]) : decode code pc = .ok (.iconst 1, 1) := dk_of ((dk_bind (dk_u1 (h 0 _ rfl))).trans rfl)
theorem dk_5 {code : ByteArray} {pc : Nat} (h : DkAt code pc [5]) : decode code pc = .ok (.iconst 2, 1) := dk_of ((dk_bind (dk_u1 (h 0 _ rfl))).trans rfl)
theorem dk_6 {code : ByteArray} {pc : Nat} (h : DkAt code pc [6]) : decode code pc = .ok (.iconst 3, 1) := dk_of ((dk_bind (dk_u1 (h 0 _ rfl))).trans rfl)
theorem dk_7 {code : ByteArray} {pc : Nat} (h : DkAt code pc [7]) : decode code pc = .ok (.iconst 4, 1) := dk_of ((dk_bind (dk_u1 (h 0 _ rfl))).trans rfl)
theorem dk_16 {code : ByteArray} {pc : Nat} (a : UInt8) (h : DkAt code pc [16, a]) : decode code pc = .ok (.bipush (Reader.signed 8 a.toNat), 2) := dk_of ((dk_bind (dk_u1 (h 0 _ rfl))).trans ((dk_bind (dk_map (dk_u1 (h 1 _ rfl)))).trans rfl))
theorem dk_17 {code : ByteArray} {pc : Nat} (a b : UInt8) (h : DkAt code pc [17, a, b]) : decode code pc = .ok (.sipush (Reader.signed 16 (a.toNat * 256 + b.toNat)), 3) := dk_of ((dk_bind (dk_u1 (h 0 _ rfl))).trans ((dk_bind (dk_map (dk_u2 (h 1 _ rfl) (h 2 _ rfl)))).trans rfl))
theorem dk_18 {code : ByteArray} {pc : Nat} (a : UInt8) (h : DkAt code pc [18, a]) : decode code pc = .ok (.ldc a.toNat, 2) := dk_of ((dk_bind (dk_u1 (h 0 _ rfl))).trans ((dk_bind (dk_u1 (h 1 _ rfl))).trans rfl))
theorem dk_21 {code : ByteArray} {pc : Nat} (a : UInt8) (h : DkAt code pc [21, a]) : decode code pc = .ok (.iload a.toNat, 2) := dk_of ((dk_bind (dk_u1 (h 0 _ rfl))).trans ((dk_bind (dk_u1 (h 1 _ rfl))).trans rfl))
theorem dk_25 {code : ByteArray} {pc : Nat} (a : UInt8) (h : DkAt code pc [25, a]) : decode code pc = .ok (.aload a.toNat, 2) := dk_of ((dk_bind (dk_u1 (h 0 _ rfl))).trans ((dk_bind (dk_u1 (h 1 _ rfl))).trans rfl))
theorem dk_26 {code : ByteArray} {pc : Nat} (h : DkAt code pc [26]) : decode code pc = .ok (.iload_n 0, 1) := dk_of ((dk_bind (dk_u1 (h 0 _ rfl))).trans rfl)
theorem dk_27 {code : ByteArray} {pc : Nat} (h : DkAt code pc [27]) : decode code pc = .ok (.iload_n 1, 1) := dk_of ((dk_bind (dk_u1 (h 0 _ rfl))).trans rfl)
theorem dk_28 {code : ByteArray} {pc : Nat} (h : DkAt code pc [28]) : decode code pc = .ok (.iload_n 2, 1) := dk_of ((dk_bind (dk_u1 (h 0 _ rfl))).trans rfl)
theorem dk_29 {code : ByteArray} {pc : Nat} (h : DkAt code pc [29]) : decode code pc = .ok (.iload_n 3, 1) := dk_of ((dk_bind (dk_u1 (h 0 _ rfl))).trans rfl)
theorem dk_42 {code : ByteArray} {pc : Nat} (h : DkAt code pc [42]) : decode code pc = .ok (.aload_n 0, 1) := dk_of ((dk_bind (dk_u1 (h 0 _ rfl))).trans rfl)
theorem dk_43 {code : ByteArray} {pc : Nat} (h : DkAt code pc [43]) : decode code pc = .ok (.aload_n 1, 1) := dk_of ((dk_bind (dk_u1 (h 0 _ rfl))).trans rfl)
theorem dk_44 {code : ByteArray} {pc : Nat} (h : DkAt code pc [44]) : decode code pc = .ok (.aload_n 2, 1) := dk_of ((dk_bind (dk_u1 (h 0 _ rfl))).trans rfl)
theorem dk_46 {code : ByteArray} {pc : Nat} (h : DkAt code pc [46]) : decode code pc = .ok (.iaload, 1) := dk_of ((dk_bind (dk_u1 (h 0 _ rfl))).trans rfl)
theorem dk_50 {code : ByteArray} {pc : Nat} (h : DkAt code pc [50]) : decode code pc = .ok (.aaload, 1) := dk_of ((dk_bind (dk_u1 (h 0 _ rfl))).trans rfl)
theorem dk_51 {code : ByteArray} {pc : Nat} (h : DkAt code pc [51]) : decode code pc = .ok (.baload, 1) := dk_of ((dk_bind (dk_u1 (h 0 _ rfl))).trans rfl)
theorem dk_54 {code : ByteArray} {pc : Nat} (a : UInt8) (h : DkAt code pc [54, a]) : decode code pc = .ok (.istore a.toNat, 2) := dk_of ((dk_bind (dk_u1 (h 0 _ rfl))).trans ((dk_bind (dk_u1 (h 1 _ rfl))).trans rfl))
theorem dk_58 {code : ByteArray} {pc : Nat} (a : UInt8) (h : DkAt code pc [58, a]) : decode code pc = .ok (.astore a.toNat, 2) := dk_of ((dk_bind (dk_u1 (h 0 _ rfl))).trans ((dk_bind (dk_u1 (h 1 _ rfl))).trans rfl))
theorem dk_60 {code : ByteArray} {pc : Nat} (h : DkAt code pc [60]) : decode code pc = .ok (.istore_n 1, 1) := dk_of ((dk_bind (dk_u1 (h 0 _ rfl))).trans rfl)
theorem dk_61 {code : ByteArray} {pc : Nat} (h : DkAt code pc [61]) : decode code pc = .ok (.istore_n 2, 1) := dk_of ((dk_bind (dk_u1 (h 0 _ rfl))).trans rfl)
theorem dk_62 {code : ByteArray} {pc : Nat} (h : DkAt code pc [62]) : decode code pc = .ok (.istore_n 3, 1) := dk_of ((dk_bind (dk_u1 (h 0 _ rfl))).trans rfl)
theorem dk_75 {code : ByteArray} {pc : Nat} (h : DkAt code pc [75]) : decode code pc = .ok (.astore_n 0, 1) := dk_of ((dk_bind (dk_u1 (h 0 _ rfl))).trans rfl)
theorem dk_76 {code : ByteArray} {pc : Nat} (h : DkAt code pc [76]) : decode code pc = .ok (.astore_n 1, 1) := dk_of ((dk_bind (dk_u1 (h 0 _ rfl))).trans rfl)
theorem dk_77 {code : ByteArray} {pc : Nat} (h : DkAt code pc [77]) : decode code pc = .ok (.astore_n 2, 1) := dk_of ((dk_bind (dk_u1 (h 0 _ rfl))).trans rfl)
theorem dk_79 {code : ByteArray} {pc : Nat} (h : DkAt code pc [79]) : decode code pc = .ok (.iastore, 1) := dk_of ((dk_bind (dk_u1 (h 0 _ rfl))).trans rfl)
theorem dk_83 {code : ByteArray} {pc : Nat} (h : DkAt code pc [83]) : decode code pc = .ok (.aastore, 1) := dk_of ((dk_bind (dk_u1 (h 0 _ rfl))).trans rfl)
theorem dk_84 {code : ByteArray} {pc : Nat} (h : DkAt code pc [84]) : decode code pc = .ok (.bastore, 1) := dk_of ((dk_bind (dk_u1 (h 0 _ rfl))).trans rfl)
theorem dk_87 {code : ByteArray} {pc : Nat} (h : DkAt code pc [87]) : decode code pc = .ok (.pop, 1) := dk_of ((dk_bind (dk_u1 (h 0 _ rfl))).trans rfl)
theorem dk_89 {code : ByteArray} {pc : Nat} (h : DkAt code pc [89]) : decode code pc = .ok (.dup, 1) := dk_of ((dk_bind (dk_u1 (h 0 _ rfl))).trans rfl)
theorem dk_90 {code : ByteArray} {pc : Nat} (h : DkAt code pc [90]) : decode code pc = .ok (.dup_x1, 1) := dk_of ((dk_bind (dk_u1 (h 0 _ rfl))).trans rfl)
theorem dk_96 {code : ByteArray} {pc : Nat} (h : DkAt code pc [96]) : decode code pc = .ok (.iadd, 1) := dk_of ((dk_bind (dk_u1 (h 0 _ rfl))).trans rfl)
theorem dk_100 {code : ByteArray} {pc : Nat} (h : DkAt code pc [100]) : decode code pc = .ok (.isub, 1) := dk_of ((dk_bind (dk_u1 (h 0 _ rfl))).trans rfl)
theorem dk_104 {code : ByteArray} {pc : Nat} (h : DkAt code pc [104]) : decode code pc = .ok (.imul, 1) := dk_of ((dk_bind (dk_u1 (h 0 _ rfl))).trans rfl)
theorem dk_108 {code : ByteArray} {pc : Nat} (h : DkAt code pc [108]) : decode code pc = .ok (.idiv, 1) := dk_of ((dk_bind (dk_u1 (h 0 _ rfl))).trans rfl)
theorem dk_112 {code : ByteArray} {pc : Nat} (h : DkAt code pc [112]) : decode code pc = .ok (.irem, 1) := dk_of ((dk_bind (dk_u1 (h 0 _ rfl))).trans rfl)
theorem dk_122 {code : ByteArray} {pc : Nat} (h : DkAt code pc [122]) : decode code pc = .ok (.ishr, 1) := dk_of ((dk_bind (dk_u1 (h 0 _ rfl))).trans rfl)
theorem dk_126 {code : ByteArray} {pc : Nat} (h : DkAt code pc [126]) : decode code pc = .ok (.iand, 1) := dk_of ((dk_bind (dk_u1 (h 0 _ rfl))).trans rfl)
theorem dk_132 {code : ByteArray} {pc : Nat} (a b : UInt8) (h : DkAt code pc [132, a, b]) : decode code pc = .ok (.iinc a.toNat (Reader.signed 8 b.toNat), 3) := dk_of ((dk_bind (dk_u1 (h 0 _ rfl))).trans ((dk_bind (dk_u1 (h 1 _ rfl))).trans ((dk_bind (dk_map (dk_u1 (h 2 _ rfl)))).trans rfl)))
theorem dk_133 {code : ByteArray} {pc : Nat} (h : DkAt code pc [133]) : decode code pc = .ok (.i2l, 1) := dk_of ((dk_bind (dk_u1 (h 0 _ rfl))).trans rfl)
theorem dk_136 {code : ByteArray} {pc : Nat} (h : DkAt code pc [136]) : decode code pc = .ok (.l2i, 1) := dk_of ((dk_bind (dk_u1 (h 0 _ rfl))).trans rfl)
theorem dk_153 {code : ByteArray} {pc : Nat} (a b : UInt8) (h : DkAt code pc [153, a, b]) : decode code pc = .ok (.ifCond .eq (Reader.signed 16 (a.toNat * 256 + b.toNat)), 3) := dk_of ((dk_bind (dk_u1 (h 0 _ rfl))).trans ((dk_bind (dk_map (dk_u2 (h 1 _ rfl) (h 2 _ rfl)))).trans rfl))
theorem dk_154 {code : ByteArray} {pc : Nat} (a b : UInt8) (h : DkAt code pc [154, a, b]) : decode code pc = .ok (.ifCond .ne (Reader.signed 16 (a.toNat * 256 + b.toNat)), 3) := dk_of ((dk_bind (dk_u1 (h 0 _ rfl))).trans ((dk_bind (dk_map (dk_u2 (h 1 _ rfl) (h 2 _ rfl)))).trans rfl))
theorem dk_155 {code : ByteArray} {pc : Nat} (a b : UInt8) (h : DkAt code pc [155, a, b]) : decode code pc = .ok (.ifCond .lt (Reader.signed 16 (a.toNat * 256 + b.toNat)), 3) := dk_of ((dk_bind (dk_u1 (h 0 _ rfl))).trans ((dk_bind (dk_map (dk_u2 (h 1 _ rfl) (h 2 _ rfl)))).trans rfl))
theorem dk_156 {code : ByteArray} {pc : Nat} (a b : UInt8) (h : DkAt code pc [156, a, b]) : decode code pc = .ok (.ifCond .ge (Reader.signed 16 (a.toNat * 256 + b.toNat)), 3) := dk_of ((dk_bind (dk_u1 (h 0 _ rfl))).trans ((dk_bind (dk_map (dk_u2 (h 1 _ rfl) (h 2 _ rfl)))).trans rfl))
theorem dk_157 {code : ByteArray} {pc : Nat} (a b : UInt8) (h : DkAt code pc [157, a, b]) : decode code pc = .ok (.ifCond .gt (Reader.signed 16 (a.toNat * 256 + b.toNat)), 3) := dk_of ((dk_bind (dk_u1 (h 0 _ rfl))).trans ((dk_bind (dk_map (dk_u2 (h 1 _ rfl) (h 2 _ rfl)))).trans rfl))
theorem dk_158 {code : ByteArray} {pc : Nat} (a b : UInt8) (h : DkAt code pc [158, a, b]) : decode code pc = .ok (.ifCond .le (Reader.signed 16 (a.toNat * 256 + b.toNat)), 3) := dk_of ((dk_bind (dk_u1 (h 0 _ rfl))).trans ((dk_bind (dk_map (dk_u2 (h 1 _ rfl) (h 2 _ rfl)))).trans rfl))
theorem dk_159 {code : ByteArray} {pc : Nat} (a b : UInt8) (h : DkAt code pc [159, a, b]) : decode code pc = .ok (.if_icmp .eq (Reader.signed 16 (a.toNat * 256 + b.toNat)), 3) := dk_of ((dk_bind (dk_u1 (h 0 _ rfl))).trans ((dk_bind (dk_map (dk_u2 (h 1 _ rfl) (h 2 _ rfl)))).trans rfl))
theorem dk_160 {code : ByteArray} {pc : Nat} (a b : UInt8) (h : DkAt code pc [160, a, b]) : decode code pc = .ok (.if_icmp .ne (Reader.signed 16 (a.toNat * 256 + b.toNat)), 3) := dk_of ((dk_bind (dk_u1 (h 0 _ rfl))).trans ((dk_bind (dk_map (dk_u2 (h 1 _ rfl) (h 2 _ rfl)))).trans rfl))
theorem dk_161 {code : ByteArray} {pc : Nat} (a b : UInt8) (h : DkAt code pc [161, a, b]) : decode code pc = .ok (.if_icmp .lt (Reader.signed 16 (a.toNat * 256 + b.toNat)), 3) := dk_of ((dk_bind (dk_u1 (h 0 _ rfl))).trans ((dk_bind (dk_map (dk_u2 (h 1 _ rfl) (h 2 _ rfl)))).trans rfl))
theorem dk_162 {code : ByteArray} {pc : Nat} (a b : UInt8) (h : DkAt code pc [162, a, b]) : decode code pc = .ok (.if_icmp .ge (Reader.signed 16 (a.toNat * 256 + b.toNat)), 3) := dk_of ((dk_bind (dk_u1 (h 0 _ rfl))).trans ((dk_bind (dk_map (dk_u2 (h 1 _ rfl) (h 2 _ rfl)))).trans rfl))
theorem dk_163 {code : ByteArray} {pc : Nat} (a b : UInt8) (h : DkAt code pc [163, a, b]) : decode code pc = .ok (.if_icmp .gt (Reader.signed 16 (a.toNat * 256 + b.toNat)), 3) := dk_of ((dk_bind (dk_u1 (h 0 _ rfl))).trans ((dk_bind (dk_map (dk_u2 (h 1 _ rfl) (h 2 _ rfl)))).trans rfl))
theorem dk_164 {code : ByteArray} {pc : Nat} (a b : UInt8) (h : DkAt code pc [164, a, b]) : decode code pc = .ok (.if_icmp .le (Reader.signed 16 (a.toNat * 256 + b.toNat)), 3) := dk_of ((dk_bind (dk_u1 (h 0 _ rfl))).trans ((dk_bind (dk_map (dk_u2 (h 1 _ rfl) (h 2 _ rfl)))).trans rfl))
theorem dk_167 {code : ByteArray} {pc : Nat} (a b : UInt8) (h : DkAt code pc [167, a, b]) : decode code pc = .ok (.goto (Reader.signed 16 (a.toNat * 256 + b.toNat)), 3) := dk_of ((dk_bind (dk_u1 (h 0 _ rfl))).trans ((dk_bind (dk_map (dk_u2 (h 1 _ rfl) (h 2 _ rfl)))).trans rfl))
theorem dk_172 {code : ByteArray} {pc : Nat} (h : DkAt code pc [172]) : decode code pc = .ok (.ireturn, 1) := dk_of ((dk_bind (dk_u1 (h 0 _ rfl))).trans rfl)
theorem dk_173 {code : ByteArray} {pc : Nat} (h : DkAt code pc [173]) : decode code pc = .ok (.lreturn, 1) := dk_of ((dk_bind (dk_u1 (h 0 _ rfl))).trans rfl)
theorem dk_176 {code : ByteArray} {pc : Nat} (h : DkAt code pc [176]) : decode code pc = .ok (.areturn, 1) := dk_of ((dk_bind (dk_u1 (h 0 _ rfl))).trans rfl)
theorem dk_177 {code : ByteArray} {pc : Nat} (h : DkAt code pc [177]) : decode code pc = .ok (.return_, 1) := dk_of ((dk_bind (dk_u1 (h 0 _ rfl))).trans rfl)
theorem dk_178 {code : ByteArray} {pc : Nat} (a b : UInt8) (h : DkAt code pc [178, a, b]) : decode code pc = .ok (.getstatic (a.toNat * 256 + b.toNat), 3) := dk_of ((dk_bind (dk_u1 (h 0 _ rfl))).trans ((dk_bind (dk_u2 (h 1 _ rfl) (h 2 _ rfl))).trans rfl))
theorem dk_180 {code : ByteArray} {pc : Nat} (a b : UInt8) (h : DkAt code pc [180, a, b]) : decode code pc = .ok (.getfield (a.toNat * 256 + b.toNat), 3) := dk_of ((dk_bind (dk_u1 (h 0 _ rfl))).trans ((dk_bind (dk_u2 (h 1 _ rfl) (h 2 _ rfl))).trans rfl))
theorem dk_181 {code : ByteArray} {pc : Nat} (a b : UInt8) (h : DkAt code pc [181, a, b]) : decode code pc = .ok (.putfield (a.toNat * 256 + b.toNat), 3) := dk_of ((dk_bind (dk_u1 (h 0 _ rfl))).trans ((dk_bind (dk_u2 (h 1 _ rfl) (h 2 _ rfl))).trans rfl))
theorem dk_182 {code : ByteArray} {pc : Nat} (a b : UInt8) (h : DkAt code pc [182, a, b]) : decode code pc = .ok (.invokevirtual (a.toNat * 256 + b.toNat), 3) := dk_of ((dk_bind (dk_u1 (h 0 _ rfl))).trans ((dk_bind (dk_u2 (h 1 _ rfl) (h 2 _ rfl))).trans rfl))
theorem dk_183 {code : ByteArray} {pc : Nat} (a b : UInt8) (h : DkAt code pc [183, a, b]) : decode code pc = .ok (.invokespecial (a.toNat * 256 + b.toNat), 3) := dk_of ((dk_bind (dk_u1 (h 0 _ rfl))).trans ((dk_bind (dk_u2 (h 1 _ rfl) (h 2 _ rfl))).trans rfl))
theorem dk_184 {code : ByteArray} {pc : Nat} (a b : UInt8) (h : DkAt code pc [184, a, b]) : decode code pc = .ok (.invokestatic (a.toNat * 256 + b.toNat), 3) := dk_of ((dk_bind (dk_u1 (h 0 _ rfl))).trans ((dk_bind (dk_u2 (h 1 _ rfl) (h 2 _ rfl))).trans rfl))
theorem dk_187 {code : ByteArray} {pc : Nat} (a b : UInt8) (h : DkAt code pc [187, a, b]) : decode code pc = .ok (.new (a.toNat * 256 + b.toNat), 3) := dk_of ((dk_bind (dk_u1 (h 0 _ rfl))).trans ((dk_bind (dk_u2 (h 1 _ rfl) (h 2 _ rfl))).trans rfl))
theorem dk_188_4 {code : ByteArray} {pc : Nat} (h : DkAt code pc [188, 4]) : decode code pc = .ok (.newarray .boolean, 2) := dk_of ((dk_bind (dk_u1 (h 0 _ rfl))).trans ((dk_bind (dk_u1 (h 1 _ rfl))).trans rfl))
theorem dk_188_10 {code : ByteArray} {pc : Nat} (h : DkAt code pc [188, 10]) : decode code pc = .ok (.newarray .int, 2) := dk_of ((dk_bind (dk_u1 (h 0 _ rfl))).trans ((dk_bind (dk_u1 (h 1 _ rfl))).trans rfl))
theorem dk_189 {code : ByteArray} {pc : Nat} (a b : UInt8) (h : DkAt code pc [189, a, b]) : decode code pc = .ok (.anewarray (a.toNat * 256 + b.toNat), 3) := dk_of ((dk_bind (dk_u1 (h 0 _ rfl))).trans ((dk_bind (dk_u2 (h 1 _ rfl) (h 2 _ rfl))).trans rfl))
theorem dk_190 {code : ByteArray} {pc : Nat} (h : DkAt code pc [190]) : decode code pc = .ok (.arraylength, 1) := dk_of ((dk_bind (dk_u1 (h 0 _ rfl))).trans rfl)
theorem dk_191 {code : ByteArray} {pc : Nat} (h : DkAt code pc [191]) : decode code pc = .ok (.athrow, 1) := dk_of ((dk_bind (dk_u1 (h 0 _ rfl))).trans rfl)
theorem dk_192 {code : ByteArray} {pc : Nat} (a b : UInt8) (h : DkAt code pc [192, a, b]) : decode code pc = .ok (.checkcast (a.toNat * 256 + b.toNat), 3) := dk_of ((dk_bind (dk_u1 (h 0 _ rfl))).trans ((dk_bind (dk_u2 (h 1 _ rfl) (h 2 _ rfl))).trans rfl))
theorem dk_199 {code : ByteArray} {pc : Nat} (a b : UInt8) (h : DkAt code pc [199, a, b]) : decode code pc = .ok (.ifnonnull (Reader.signed 16 (a.toNat * 256 + b.toNat)), 3) := dk_of ((dk_bind (dk_u1 (h 0 _ rfl))).trans ((dk_bind (dk_map (dk_u2 (h 1 _ rfl) (h 2 _ rfl)))).trans rfl))
end
section
/-! java/lang/Object -/
set_option maxRecDepth 100000
def RJ9 : String := "java/lang/Object"
abbrev cJ9_init : ByteArray := object_method_1_code
def yJ9_init : MethodName := ⟨RJ9, "<init>", "()V"⟩
theorem dJ9_init_0 : decode cJ9_init 0 = .ok (.return_, 1) := by decide +kernel
theorem q24 : (Jvm.Cond.instanceMethod ({ cls := "java/lang/Object", name := "<init>", desc := "()V" } : Jvm.MethodName)) ∈ lw_all := lw_g (lw_at lw_m1 22 rfl) rfl
theorem q25 : (Jvm.Cond.code ({ cls := "java/lang/Object", name := "<init>", desc := "()V" } : Jvm.MethodName) object_method_1_code (1 : Nat) (Option.none : Option Jvm.ClassFile.FieldType)) ∈ lw_all := lw_g (lw_at lw_m1 23 rfl) rfl
/-! java/lang/Number -/
def RJ6 : String := "java/lang/Number"
abbrev cJ6_init : ByteArray := prog_16_method_1_code
def yJ6_init : MethodName := ⟨RJ6, "<init>", "()V"⟩
theorem dJ6_init_0 : decode cJ6_init 0 = .ok (.aload_n 0, 1) := by decide +kernel
theorem dJ6_init_1 : decode cJ6_init 1 = .ok (.invokespecial 1, 3) := by decide +kernel
theorem dJ6_init_4 : decode cJ6_init 4 = .ok (.return_, 1) := by decide +kernel
theorem q13 : (Jvm.Cond.initialized "java/lang/Number") ∈ lw_all := lw_g (lw_at lw_m1 11 rfl) rfl
theorem q200 : (Jvm.Cond.instanceMethod ({ cls := "java/lang/Number", name := "<init>", desc := "()V" } : Jvm.MethodName)) ∈ lw_all := lw_g (lw_at lw_m1 198 rfl) rfl
theorem q201 : (Jvm.Cond.code ({ cls := "java/lang/Number", name := "<init>", desc := "()V" } : Jvm.MethodName) prog_16_method_1_code (1 : Nat) (Option.none : Option Jvm.ClassFile.FieldType)) ∈ lw_all := lw_g (lw_at lw_m1 199 rfl) rfl
theorem q202 : (Jvm.Cond.methodLink "java/lang/Number" (1 : Nat) ({ cls := "java/lang/Object", name := "<init>", desc := "()V" } : Jvm.MethodName)) ∈ lw_all := lw_g (lw_at lw_m1 200 rfl) rfl
/-! java/lang/Integer -/
def RJ7 : String := "java/lang/Integer"
def TJ7 : u_T := fun k => match k with
  | _ => ("java/lang/Integer", "value", "I", true)
def tyJ7 : Nat → FieldType := fun k => match k with
  | _ => .int
abbrev wsJ70 : List Cond := u_ws RJ7 TJ7 1
theorem nmJ7 : ∀ a, a < 1 → ∀ b, b < 1 → a ≠ b → (TJ7 a).2.1 ≠ (TJ7 b).2.1 := by decide +kernel
theorem tyJ7_ok : ∀ k, k < 1 → parseFieldDescriptor (TJ7 k).2.2.1 = some (tyJ7 k) := by decide +kernel
abbrev cJ7_valueOf : ByteArray := prog_12_method_22_code
def yJ7_valueOf : MethodName := ⟨RJ7, "valueOf", "(I)Ljava/lang/Integer;"⟩
def dkwJ7_valueOf_1 : List UInt8 := [187, 0, 1, 89, 26, 183, 0, 199, 176]
abbrev dktJ7_valueOf_1 : List UInt8 := dkwJ7_valueOf_1 ++ []
def dkwJ7_valueOf_0 : List UInt8 := [26, 16, 128, 161, 0, 20, 26, 178, 0, 191, 163, 0, 13, 178, 0, 195, 26, 17, 0, 128, 96, 50, 176]
abbrev dktJ7_valueOf_0 : List UInt8 := dkwJ7_valueOf_0 ++ dktJ7_valueOf_1
theorem dksJ7_valueOf_0 : cJ7_valueOf.data.toList.drop 0 = dktJ7_valueOf_0 := by decide +kernel
theorem dksJ7_valueOf_1 : cJ7_valueOf.data.toList.drop 23 = dktJ7_valueOf_1 := dk_seg dksJ7_valueOf_0 23 rfl rfl
theorem dJ7_valueOf_0 : decode cJ7_valueOf 0 = .ok (.iload_n 0, 1) := dk_26 (dk_at dksJ7_valueOf_0 0 rfl rfl)
theorem dJ7_valueOf_1 : decode cJ7_valueOf 1 = .ok (.bipush (-128), 2) := dk_16 128 (dk_at dksJ7_valueOf_0 1 rfl rfl)
theorem dJ7_valueOf_3 : decode cJ7_valueOf 3 = .ok (.if_icmp .lt 20, 3) := dk_161 0 20 (dk_at dksJ7_valueOf_0 3 rfl rfl)
theorem dJ7_valueOf_6 : decode cJ7_valueOf 6 = .ok (.iload_n 0, 1) := dk_26 (dk_at dksJ7_valueOf_0 6 rfl rfl)
theorem dJ7_valueOf_7 : decode cJ7_valueOf 7 = .ok (.getstatic 191, 3) := dk_178 0 191 (dk_at dksJ7_valueOf_0 7 rfl rfl)
theorem dJ7_valueOf_10 : decode cJ7_valueOf 10 = .ok (.if_icmp .gt 13, 3) := dk_163 0 13 (dk_at dksJ7_valueOf_0 10 rfl rfl)
theorem dJ7_valueOf_13 : decode cJ7_valueOf 13 = .ok (.getstatic 195, 3) := dk_178 0 195 (dk_at dksJ7_valueOf_0 13 rfl rfl)
theorem dJ7_valueOf_16 : decode cJ7_valueOf 16 = .ok (.iload_n 0, 1) := dk_26 (dk_at dksJ7_valueOf_0 16 rfl rfl)
theorem dJ7_valueOf_17 : decode cJ7_valueOf 17 = .ok (.sipush 128, 3) := dk_17 0 128 (dk_at dksJ7_valueOf_0 17 rfl rfl)
theorem dJ7_valueOf_20 : decode cJ7_valueOf 20 = .ok (.iadd, 1) := dk_96 (dk_at dksJ7_valueOf_0 20 rfl rfl)
theorem dJ7_valueOf_21 : decode cJ7_valueOf 21 = .ok (.aaload, 1) := dk_50 (dk_at dksJ7_valueOf_0 21 rfl rfl)
theorem dJ7_valueOf_22 : decode cJ7_valueOf 22 = .ok (.areturn, 1) := dk_176 (dk_at dksJ7_valueOf_0 22 rfl rfl)
theorem dJ7_valueOf_23 : decode cJ7_valueOf 23 = .ok (.new 1, 3) := dk_187 0 1 (dk_at dksJ7_valueOf_1 0 rfl rfl)
theorem dJ7_valueOf_26 : decode cJ7_valueOf 26 = .ok (.dup, 1) := dk_89 (dk_at dksJ7_valueOf_1 3 rfl rfl)
theorem dJ7_valueOf_27 : decode cJ7_valueOf 27 = .ok (.iload_n 0, 1) := dk_26 (dk_at dksJ7_valueOf_1 4 rfl rfl)
theorem dJ7_valueOf_28 : decode cJ7_valueOf 28 = .ok (.invokespecial 199, 3) := dk_183 0 199 (dk_at dksJ7_valueOf_1 5 rfl rfl)
theorem dJ7_valueOf_31 : decode cJ7_valueOf 31 = .ok (.areturn, 1) := dk_176 (dk_at dksJ7_valueOf_1 8 rfl rfl)
abbrev cJ7_init : ByteArray := prog_12_method_23_code
def yJ7_init : MethodName := ⟨RJ7, "<init>", "(I)V"⟩
def dkwJ7_init_0 : List UInt8 := [42, 183, 0, 202, 42, 27, 181, 0, 205, 177]
abbrev dktJ7_init_0 : List UInt8 := dkwJ7_init_0 ++ []
theorem dksJ7_init_0 : cJ7_init.data.toList.drop 0 = dktJ7_init_0 := by decide +kernel
theorem dJ7_init_0 : decode cJ7_init 0 = .ok (.aload_n 0, 1) := dk_42 (dk_at dksJ7_init_0 0 rfl rfl)
theorem dJ7_init_1 : decode cJ7_init 1 = .ok (.invokespecial 202, 3) := dk_183 0 202 (dk_at dksJ7_init_0 1 rfl rfl)
theorem dJ7_init_4 : decode cJ7_init 4 = .ok (.aload_n 0, 1) := dk_42 (dk_at dksJ7_init_0 4 rfl rfl)
theorem dJ7_init_5 : decode cJ7_init 5 = .ok (.iload_n 1, 1) := dk_27 (dk_at dksJ7_init_0 5 rfl rfl)
theorem dJ7_init_6 : decode cJ7_init 6 = .ok (.putfield 205, 3) := dk_181 0 205 (dk_at dksJ7_init_0 6 rfl rfl)
theorem dJ7_init_9 : decode cJ7_init 9 = .ok (.return_, 1) := dk_177 (dk_at dksJ7_init_0 9 rfl rfl)
abbrev cJ7_intValue : ByteArray := prog_12_method_27_code
def yJ7_intValue : MethodName := ⟨RJ7, "intValue", "()I"⟩
theorem dJ7_intValue_0 : decode cJ7_intValue 0 = .ok (.aload_n 0, 1) := by decide +kernel
theorem dJ7_intValue_1 : decode cJ7_intValue 1 = .ok (.getfield 205, 3) := by decide +kernel
theorem dJ7_intValue_4 : decode cJ7_intValue 4 = .ok (.ireturn, 1) := by decide +kernel
theorem q14 : (Jvm.Cond.initialized "java/lang/Integer") ∈ lw_all := lw_g (lw_at lw_m1 12 rfl) rfl
theorem q188 : (Jvm.Cond.static ({ cls := "java/lang/Integer", name := "valueOf", desc := "(I)Ljava/lang/Integer;" } : Jvm.MethodName)) ∈ lw_all := lw_g (lw_at lw_m1 186 rfl) rfl
theorem q189 : (Jvm.Cond.code ({ cls := "java/lang/Integer", name := "valueOf", desc := "(I)Ljava/lang/Integer;" } : Jvm.MethodName) prog_12_method_22_code (1 : Nat) (Option.some (Jvm.ClassFile.FieldType.object "java/lang/Integer"))) ∈ lw_all := lw_g (lw_at lw_m1 187 rfl) rfl
theorem q190 : (Jvm.Cond.fieldLink "java/lang/Integer" (191 : Nat) "java/lang/Integer$IntegerCache" "high" "I") ∈ lw_all := lw_g (lw_at lw_m1 188 rfl) rfl
theorem q192 : (Jvm.Cond.fieldLink "java/lang/Integer" (195 : Nat) "java/lang/Integer$IntegerCache" "cache" "[Ljava/lang/Integer;") ∈ lw_all := lw_g (lw_at lw_m1 190 rfl) rfl
theorem q194 : (Jvm.Cond.classLink "java/lang/Integer" (1 : Nat) "java/lang/Integer") ∈ lw_all := lw_g (lw_at lw_m1 192 rfl) rfl
theorem q195 : (Jvm.Cond.instantiable "java/lang/Integer" (1 : Nat)) ∈ lw_all := lw_g (lw_at lw_m1 193 rfl) rfl
theorem q196 : (Jvm.Cond.methodLink "java/lang/Integer" (199 : Nat) ({ cls := "java/lang/Integer", name := "<init>", desc := "(I)V" } : Jvm.MethodName)) ∈ lw_all := lw_g (lw_at lw_m1 194 rfl) rfl
theorem q197 : (Jvm.Cond.instanceMethod ({ cls := "java/lang/Integer", name := "<init>", desc := "(I)V" } : Jvm.MethodName)) ∈ lw_all := lw_g (lw_at lw_m1 195 rfl) rfl
theorem q198 : (Jvm.Cond.code ({ cls := "java/lang/Integer", name := "<init>", desc := "(I)V" } : Jvm.MethodName) prog_12_method_23_code (2 : Nat) (Option.none : Option Jvm.ClassFile.FieldType)) ∈ lw_all := lw_g (lw_at lw_m1 196 rfl) rfl
theorem q199 : (Jvm.Cond.methodLink "java/lang/Integer" (202 : Nat) ({ cls := "java/lang/Number", name := "<init>", desc := "()V" } : Jvm.MethodName)) ∈ lw_all := lw_g (lw_at lw_m1 197 rfl) rfl
theorem q203 : (Jvm.Cond.fieldLink "java/lang/Integer" (205 : Nat) "java/lang/Integer" "value" "I") ∈ lw_all := lw_g (lw_at lw_m1 201 rfl) rfl
theorem q204 : (Jvm.Cond.laysFinal "java/lang/Integer" "java/lang/Integer" "value" "I") ∈ lw_all := lw_g (lw_at lw_m1 202 rfl) rfl
theorem q205 : (Jvm.Cond.soleField "java/lang/Integer" "value") ∈ lw_all := lw_g (lw_at lw_m1 203 rfl) rfl
theorem q206 : (Jvm.Cond.superclass "java/lang/Integer" "java/lang/Number") ∈ lw_all := lw_g (lw_at lw_m1 204 rfl) rfl
theorem q257 : (Jvm.Cond.instanceMethod ({ cls := "java/lang/Integer", name := "intValue", desc := "()I" } : Jvm.MethodName)) ∈ lw_all := lw_g (lw_at lw_m2 15 rfl) rfl
theorem q258 : (Jvm.Cond.selects "java/lang/Integer" ({ cls := "java/lang/Integer", name := "intValue", desc := "()I" } : Jvm.MethodName) ({ cls := "java/lang/Integer", name := "intValue", desc := "()I" } : Jvm.MethodName)) ∈ lw_all := lw_g (lw_at lw_m2 16 rfl) rfl
theorem q259 : (Jvm.Cond.code ({ cls := "java/lang/Integer", name := "intValue", desc := "()I" } : Jvm.MethodName) prog_12_method_27_code (1 : Nat) (Option.some Jvm.ClassFile.FieldType.int)) ∈ lw_all := lw_g (lw_at lw_m2 17 rfl) rfl
theorem q411 : (Jvm.Cond.castable "java/lang/Integer" "java/lang/Comparable") ∈ lw_tbl := lw_at lw_m2 169 rfl
theorem q418 : (Jvm.Cond.castable "java/lang/Integer" "java/lang/Object") ∈ lw_tbl := lw_at lw_m2 176 rfl
theorem in_J7 : ∀ w ∈ wsJ70, w ∈ lw_all := lw_in wsJ70 [204] (by decide +kernel) (by decide +kernel)
/-! java/lang/Math -/
def RJ4 : String := "java/lang/Math"
abbrev cJ4_max : ByteArray := prog_14_method_65_code
def yJ4_max : MethodName := ⟨RJ4, "max", "(II)I"⟩
def dkwJ4_max_0 : List UInt8 := [26, 27, 161, 0, 7, 26, 167, 0, 4, 27, 172]
abbrev dktJ4_max_0 : List UInt8 := dkwJ4_max_0 ++ []
theorem dksJ4_max_0 : cJ4_max.data.toList.drop 0 = dktJ4_max_0 := by decide +kernel
theorem dJ4_max_0 : decode cJ4_max 0 = .ok (.iload_n 0, 1) := dk_26 (dk_at dksJ4_max_0 0 rfl rfl)
theorem dJ4_max_1 : decode cJ4_max 1 = .ok (.iload_n 1, 1) := dk_27 (dk_at dksJ4_max_0 1 rfl rfl)
theorem dJ4_max_2 : decode cJ4_max 2 = .ok (.if_icmp .lt 7, 3) := dk_161 0 7 (dk_at dksJ4_max_0 2 rfl rfl)
theorem dJ4_max_5 : decode cJ4_max 5 = .ok (.iload_n 0, 1) := dk_26 (dk_at dksJ4_max_0 5 rfl rfl)
theorem dJ4_max_6 : decode cJ4_max 6 = .ok (.goto 4, 3) := dk_167 0 4 (dk_at dksJ4_max_0 6 rfl rfl)
theorem dJ4_max_9 : decode cJ4_max 9 = .ok (.iload_n 1, 1) := dk_27 (dk_at dksJ4_max_0 9 rfl rfl)
theorem dJ4_max_10 : decode cJ4_max 10 = .ok (.ireturn, 1) := dk_172 (dk_at dksJ4_max_0 10 rfl rfl)
theorem q11 : (Jvm.Cond.initialized "java/lang/Math") ∈ lw_all := lw_g (lw_at lw_m1 9 rfl) rfl
theorem q134 : (Jvm.Cond.static ({ cls := "java/lang/Math", name := "max", desc := "(II)I" } : Jvm.MethodName)) ∈ lw_all := lw_g (lw_at lw_m1 132 rfl) rfl
theorem q135 : (Jvm.Cond.code ({ cls := "java/lang/Math", name := "max", desc := "(II)I" } : Jvm.MethodName) prog_14_method_65_code (2 : Nat) (Option.some Jvm.ClassFile.FieldType.int)) ∈ lw_all := lw_g (lw_at lw_m1 133 rfl) rfl
theorem q423 : (Jvm.Cond.castable "[B" "java/lang/Object") ∈ lw_tbl := lw_at lw_m2 181 rfl
theorem q427 : (Jvm.Cond.castable "[I" "java/lang/Object") ∈ lw_tbl := lw_at lw_m2 185 rfl
theorem q422 : (Jvm.Cond.castable "[LBinaryArrayHeap;" "java/lang/Object") ∈ lw_tbl := lw_at lw_m2 180 rfl
theorem q425 : (Jvm.Cond.castable "[Ljava/lang/Integer;" "java/lang/Object") ∈ lw_tbl := lw_at lw_m2 183 rfl
theorem q424 : (Jvm.Cond.castable "[Ljava/lang/Object;" "java/lang/Object") ∈ lw_tbl := lw_at lw_m2 182 rfl
theorem q426 : (Jvm.Cond.castable "[Z" "java/lang/Object") ∈ lw_tbl := lw_at lw_m2 184 rfl
theorem q15 : (Jvm.Cond.initialized "java/lang/Integer$IntegerCache") ∈ lw_all := lw_g (lw_at lw_m1 13 rfl) rfl
theorem q191 : (Jvm.Cond.laysStatic "java/lang/Integer$IntegerCache" "high" "I") ∈ lw_tbl := lw_at lw_m1 189 rfl
theorem q193 : (Jvm.Cond.laysStatic "java/lang/Integer$IntegerCache" "cache" "[Ljava/lang/Integer;") ∈ lw_tbl := lw_at lw_m1 191 rfl
theorem q412 : (Jvm.Cond.castable "java/lang/String" "java/lang/Comparable") ∈ lw_tbl := lw_at lw_m2 170 rfl
theorem q421 : (Jvm.Cond.castable "java/lang/String" "java/lang/Object") ∈ lw_tbl := lw_at lw_m2 179 rfl
theorem q17 : (Jvm.Cond.initialized "java/lang/System") ∈ lw_all := lw_g (lw_at lw_m1 15 rfl) rfl
theorem q243 : (Jvm.Cond.static ({ cls := "java/lang/System", name := "arraycopy", desc := "(Ljava/lang/Object;ILjava/lang/Object;II)V" } : Jvm.MethodName)) ∈ lw_all := lw_g (lw_at lw_m2 1 rfl) rfl
theorem q244 : (Jvm.Cond.native ({ cls := "java/lang/System", name := "arraycopy", desc := "(Ljava/lang/Object;ILjava/lang/Object;II)V" } : Jvm.MethodName)) ∈ lw_all := lw_g (lw_at lw_m2 2 rfl) rfl
theorem q268 : (Jvm.Cond.interfaceMethod "java/util/Comparator" "java/util/Comparator" "compare" "(Ljava/lang/Object;Ljava/lang/Object;)I") ∈ lw_tbl := lw_at lw_m2 26 rfl
theorem q269 : (Jvm.Cond.declares ({ cls := "java/util/Comparator", name := "compare", desc := "(Ljava/lang/Object;Ljava/lang/Object;)I" } : Jvm.MethodName)) ∈ lw_tbl := lw_at lw_m2 27 rfl
theorem q30 : (Jvm.Cond.arrayOver (Jvm.ClassFile.FieldType.object "BinaryArrayHeap")) ∈ lw_tbl := lw_at lw_m1 28 rfl
theorem q130 : (Jvm.Cond.arrayClass Jvm.ClassFile.FieldType.byte) ∈ lw_all := lw_g (lw_at lw_m1 128 rfl) rfl
theorem q143 : (Jvm.Cond.arrayOver (Jvm.ClassFile.FieldType.object "java/lang/Object")) ∈ lw_tbl := lw_at lw_m1 141 rfl
theorem q286 : (Jvm.Cond.arrayOver (Jvm.ClassFile.FieldType.object "java/lang/Integer")) ∈ lw_tbl := lw_at lw_m2 44 rfl
theorem q405 : (Jvm.Cond.arrayClass Jvm.ClassFile.FieldType.boolean) ∈ lw_all := lw_g (lw_at lw_m2 163 rfl) rfl
theorem q408 : (Jvm.Cond.arrayClass Jvm.ClassFile.FieldType.int) ∈ lw_all := lw_g (lw_at lw_m2 166 rfl) rfl
end
section
/-! BinaryArrayHeapDesk$Down -/
set_option maxRecDepth 100000
def RX5 : String := "BinaryArrayHeapDesk$Down"
abbrev cX5_compare : ByteArray := prog_5_method_5_code
def yX5_compare : MethodName := ⟨RX5, "compare", "(Ljava/lang/Object;Ljava/lang/Object;)I"⟩
def dkwX5_compare_0 : List UInt8 := [42, 43, 192, 0, 8, 44, 192, 0, 8, 182, 0, 15, 172]
abbrev dktX5_compare_0 : List UInt8 := dkwX5_compare_0 ++ []
theorem dksX5_compare_0 : cX5_compare.data.toList.drop 0 = dktX5_compare_0 := by decide +kernel
theorem dX5_compare_0 : decode cX5_compare 0 = .ok (.aload_n 0, 1) := dk_42 (dk_at dksX5_compare_0 0 rfl rfl)
theorem dX5_compare_1 : decode cX5_compare 1 = .ok (.aload_n 1, 1) := dk_43 (dk_at dksX5_compare_0 1 rfl rfl)
theorem dX5_compare_2 : decode cX5_compare 2 = .ok (.checkcast 8, 3) := dk_192 0 8 (dk_at dksX5_compare_0 2 rfl rfl)
theorem dX5_compare_5 : decode cX5_compare 5 = .ok (.aload_n 2, 1) := dk_44 (dk_at dksX5_compare_0 5 rfl rfl)
theorem dX5_compare_6 : decode cX5_compare 6 = .ok (.checkcast 8, 3) := dk_192 0 8 (dk_at dksX5_compare_0 6 rfl rfl)
theorem dX5_compare_9 : decode cX5_compare 9 = .ok (.invokevirtual 15, 3) := dk_182 0 15 (dk_at dksX5_compare_0 9 rfl rfl)
theorem dX5_compare_12 : decode cX5_compare 12 = .ok (.ireturn, 1) := dk_172 (dk_at dksX5_compare_0 12 rfl rfl)
abbrev cX5_compare_2 : ByteArray := prog_5_method_2_code
def yX5_compare_2 : MethodName := ⟨RX5, "compare", "(Ljava/lang/Integer;Ljava/lang/Integer;)I"⟩
def dkwX5_compare_2_1 : List UInt8 := [164, 0, 7, 2, 167, 0, 4, 3, 172]
abbrev dktX5_compare_2_1 : List UInt8 := dkwX5_compare_2_1 ++ []
def dkwX5_compare_2_0 : List UInt8 := [43, 182, 0, 7, 62, 44, 182, 0, 7, 54, 4, 29, 21, 4, 162, 0, 7, 4, 167, 0, 14, 29, 21, 4]
abbrev dktX5_compare_2_0 : List UInt8 := dkwX5_compare_2_0 ++ dktX5_compare_2_1
theorem dksX5_compare_2_0 : cX5_compare_2.data.toList.drop 0 = dktX5_compare_2_0 := by decide +kernel
theorem dksX5_compare_2_1 : cX5_compare_2.data.toList.drop 24 = dktX5_compare_2_1 := dk_seg dksX5_compare_2_0 24 rfl rfl
theorem dX5_compare_2_0 : decode cX5_compare_2 0 = .ok (.aload_n 1, 1) := dk_43 (dk_at dksX5_compare_2_0 0 rfl rfl)
theorem dX5_compare_2_1 : decode cX5_compare_2 1 = .ok (.invokevirtual 7, 3) := dk_182 0 7 (dk_at dksX5_compare_2_0 1 rfl rfl)
theorem dX5_compare_2_4 : decode cX5_compare_2 4 = .ok (.istore_n 3, 1) := dk_62 (dk_at dksX5_compare_2_0 4 rfl rfl)
theorem dX5_compare_2_5 : decode cX5_compare_2 5 = .ok (.aload_n 2, 1) := dk_44 (dk_at dksX5_compare_2_0 5 rfl rfl)
theorem dX5_compare_2_6 : decode cX5_compare_2 6 = .ok (.invokevirtual 7, 3) := dk_182 0 7 (dk_at dksX5_compare_2_0 6 rfl rfl)
theorem dX5_compare_2_9 : decode cX5_compare_2 9 = .ok (.istore 4, 2) := dk_54 4 (dk_at dksX5_compare_2_0 9 rfl rfl)
theorem dX5_compare_2_11 : decode cX5_compare_2 11 = .ok (.iload_n 3, 1) := dk_29 (dk_at dksX5_compare_2_0 11 rfl rfl)
theorem dX5_compare_2_12 : decode cX5_compare_2 12 = .ok (.iload 4, 2) := dk_21 4 (dk_at dksX5_compare_2_0 12 rfl rfl)
theorem dX5_compare_2_14 : decode cX5_compare_2 14 = .ok (.if_icmp .ge 7, 3) := dk_162 0 7 (dk_at dksX5_compare_2_0 14 rfl rfl)
theorem dX5_compare_2_17 : decode cX5_compare_2 17 = .ok (.iconst 1, 1) := dk_4 (dk_at dksX5_compare_2_0 17 rfl rfl)
theorem dX5_compare_2_18 : decode cX5_compare_2 18 = .ok (.goto 14, 3) := dk_167 0 14 (dk_at dksX5_compare_2_0 18 rfl rfl)
theorem dX5_compare_2_21 : decode cX5_compare_2 21 = .ok (.iload_n 3, 1) := dk_29 (dk_at dksX5_compare_2_0 21 rfl rfl)
theorem dX5_compare_2_22 : decode cX5_compare_2 22 = .ok (.iload 4, 2) := dk_21 4 (dk_at dksX5_compare_2_0 22 rfl rfl)
theorem dX5_compare_2_24 : decode cX5_compare_2 24 = .ok (.if_icmp .le 7, 3) := dk_164 0 7 (dk_at dksX5_compare_2_1 0 rfl rfl)
theorem dX5_compare_2_27 : decode cX5_compare_2 27 = .ok (.iconst (-1), 1) := dk_2 (dk_at dksX5_compare_2_1 3 rfl rfl)
theorem dX5_compare_2_28 : decode cX5_compare_2 28 = .ok (.goto 4, 3) := dk_167 0 4 (dk_at dksX5_compare_2_1 4 rfl rfl)
theorem dX5_compare_2_31 : decode cX5_compare_2 31 = .ok (.iconst 0, 1) := dk_3 (dk_at dksX5_compare_2_1 7 rfl rfl)
theorem dX5_compare_2_32 : decode cX5_compare_2 32 = .ok (.ireturn, 1) := dk_172 (dk_at dksX5_compare_2_1 8 rfl rfl)
theorem q270 : (Jvm.Cond.castable "BinaryArrayHeapDesk$Down" "java/util/Comparator") ∈ lw_tbl := lw_at lw_m2 28 rfl
theorem q271 : (Jvm.Cond.selects "BinaryArrayHeapDesk$Down" ({ cls := "java/util/Comparator", name := "compare", desc := "(Ljava/lang/Object;Ljava/lang/Object;)I" } : Jvm.MethodName) ({ cls := "BinaryArrayHeapDesk$Down", name := "compare", desc := "(Ljava/lang/Object;Ljava/lang/Object;)I" } : Jvm.MethodName)) ∈ lw_all := lw_g (lw_at lw_m2 29 rfl) rfl
theorem q272 : (Jvm.Cond.unhidden "BinaryArrayHeapDesk$Down" "compare" "(Ljava/lang/Object;Ljava/lang/Object;)I") ∈ lw_tbl := lw_at lw_m2 30 rfl
theorem q273 : (Jvm.Cond.instanceMethod ({ cls := "BinaryArrayHeapDesk$Down", name := "compare", desc := "(Ljava/lang/Object;Ljava/lang/Object;)I" } : Jvm.MethodName)) ∈ lw_all := lw_g (lw_at lw_m2 31 rfl) rfl
theorem q274 : (Jvm.Cond.publicMethod ({ cls := "BinaryArrayHeapDesk$Down", name := "compare", desc := "(Ljava/lang/Object;Ljava/lang/Object;)I" } : Jvm.MethodName)) ∈ lw_tbl := lw_at lw_m2 32 rfl
theorem q275 : (Jvm.Cond.code ({ cls := "BinaryArrayHeapDesk$Down", name := "compare", desc := "(Ljava/lang/Object;Ljava/lang/Object;)I" } : Jvm.MethodName) prog_5_method_5_code (3 : Nat) (Option.some Jvm.ClassFile.FieldType.int)) ∈ lw_all := lw_g (lw_at lw_m2 33 rfl) rfl
theorem q276 : (Jvm.Cond.classLink "BinaryArrayHeapDesk$Down" (8 : Nat) "java/lang/Integer") ∈ lw_all := lw_g (lw_at lw_m2 34 rfl) rfl
theorem q277 : (Jvm.Cond.methodLink "BinaryArrayHeapDesk$Down" (15 : Nat) ({ cls := "BinaryArrayHeapDesk$Down", name := "compare", desc := "(Ljava/lang/Integer;Ljava/lang/Integer;)I" } : Jvm.MethodName)) ∈ lw_all := lw_g (lw_at lw_m2 35 rfl) rfl
theorem q278 : (Jvm.Cond.instanceMethod ({ cls := "BinaryArrayHeapDesk$Down", name := "compare", desc := "(Ljava/lang/Integer;Ljava/lang/Integer;)I" } : Jvm.MethodName)) ∈ lw_all := lw_g (lw_at lw_m2 36 rfl) rfl
theorem q279 : (Jvm.Cond.selects "BinaryArrayHeapDesk$Down" ({ cls := "BinaryArrayHeapDesk$Down", name := "compare", desc := "(Ljava/lang/Integer;Ljava/lang/Integer;)I" } : Jvm.MethodName) ({ cls := "BinaryArrayHeapDesk$Down", name := "compare", desc := "(Ljava/lang/Integer;Ljava/lang/Integer;)I" } : Jvm.MethodName)) ∈ lw_all := lw_g (lw_at lw_m2 37 rfl) rfl
theorem q280 : (Jvm.Cond.code ({ cls := "BinaryArrayHeapDesk$Down", name := "compare", desc := "(Ljava/lang/Integer;Ljava/lang/Integer;)I" } : Jvm.MethodName) prog_5_method_2_code (5 : Nat) (Option.some Jvm.ClassFile.FieldType.int)) ∈ lw_all := lw_g (lw_at lw_m2 38 rfl) rfl
theorem q281 : (Jvm.Cond.methodLink "BinaryArrayHeapDesk$Down" (7 : Nat) ({ cls := "java/lang/Integer", name := "intValue", desc := "()I" } : Jvm.MethodName)) ∈ lw_all := lw_g (lw_at lw_m2 39 rfl) rfl
theorem q410 : (Jvm.Cond.initialized "BinaryArrayHeapDesk$Down") ∈ lw_all := lw_g (lw_at lw_m2 168 rfl) rfl
theorem q416 : (Jvm.Cond.castable "BinaryArrayHeapDesk$Down" "java/lang/Object") ∈ lw_tbl := lw_at lw_m2 174 rfl
/-! AbstractArrayWeakHeap -/
def RX2 : String := "AbstractArrayWeakHeap"
abbrev cX2_init : ByteArray := prog_2_method_1_code
def yX2_init : MethodName := ⟨RX2, "<init>", "(Ljava/util/Comparator;I)V"⟩
def dkwX2_init_1 : List UInt8 := [184, 0, 23, 181, 0, 29, 42, 42, 180, 0, 29, 182, 0, 32, 177]
abbrev dktX2_init_1 : List UInt8 := dkwX2_init_1 ++ []
def dkwX2_init_0 : List UInt8 := [42, 183, 0, 3, 42, 28, 182, 0, 9, 42, 3, 181, 0, 15, 42, 43, 181, 0, 19, 42, 28, 16, 16]
abbrev dktX2_init_0 : List UInt8 := dkwX2_init_0 ++ dktX2_init_1
theorem dksX2_init_0 : cX2_init.data.toList.drop 0 = dktX2_init_0 := by decide +kernel
theorem dksX2_init_1 : cX2_init.data.toList.drop 23 = dktX2_init_1 := dk_seg dksX2_init_0 23 rfl rfl
theorem dX2_init_0 : decode cX2_init 0 = .ok (.aload_n 0, 1) := dk_42 (dk_at dksX2_init_0 0 rfl rfl)
theorem dX2_init_1 : decode cX2_init 1 = .ok (.invokespecial 3, 3) := dk_183 0 3 (dk_at dksX2_init_0 1 rfl rfl)
theorem dX2_init_4 : decode cX2_init 4 = .ok (.aload_n 0, 1) := dk_42 (dk_at dksX2_init_0 4 rfl rfl)
theorem dX2_init_5 : decode cX2_init 5 = .ok (.iload_n 2, 1) := dk_28 (dk_at dksX2_init_0 5 rfl rfl)
theorem dX2_init_6 : decode cX2_init 6 = .ok (.invokevirtual 9, 3) := dk_182 0 9 (dk_at dksX2_init_0 6 rfl rfl)
theorem dX2_init_9 : decode cX2_init 9 = .ok (.aload_n 0, 1) := dk_42 (dk_at dksX2_init_0 9 rfl rfl)
theorem dX2_init_10 : decode cX2_init 10 = .ok (.iconst 0, 1) := dk_3 (dk_at dksX2_init_0 10 rfl rfl)
theorem dX2_init_11 : decode cX2_init 11 = .ok (.putfield 15, 3) := dk_181 0 15 (dk_at dksX2_init_0 11 rfl rfl)
theorem dX2_init_14 : decode cX2_init 14 = .ok (.aload_n 0, 1) := dk_42 (dk_at dksX2_init_0 14 rfl rfl)
theorem dX2_init_15 : decode cX2_init 15 = .ok (.aload_n 1, 1) := dk_43 (dk_at dksX2_init_0 15 rfl rfl)
theorem dX2_init_16 : decode cX2_init 16 = .ok (.putfield 19, 3) := dk_181 0 19 (dk_at dksX2_init_0 16 rfl rfl)
theorem dX2_init_19 : decode cX2_init 19 = .ok (.aload_n 0, 1) := dk_42 (dk_at dksX2_init_0 19 rfl rfl)
theorem dX2_init_20 : decode cX2_init 20 = .ok (.iload_n 2, 1) := dk_28 (dk_at dksX2_init_0 20 rfl rfl)
theorem dX2_init_21 : decode cX2_init 21 = .ok (.bipush 16, 2) := dk_16 16 (dk_at dksX2_init_0 21 rfl rfl)
theorem dX2_init_23 : decode cX2_init 23 = .ok (.invokestatic 23, 3) := dk_184 0 23 (dk_at dksX2_init_1 0 rfl rfl)
theorem dX2_init_26 : decode cX2_init 26 = .ok (.putfield 29, 3) := dk_181 0 29 (dk_at dksX2_init_1 3 rfl rfl)
theorem dX2_init_29 : decode cX2_init 29 = .ok (.aload_n 0, 1) := dk_42 (dk_at dksX2_init_1 6 rfl rfl)
theorem dX2_init_30 : decode cX2_init 30 = .ok (.aload_n 0, 1) := dk_42 (dk_at dksX2_init_1 7 rfl rfl)
theorem dX2_init_31 : decode cX2_init 31 = .ok (.getfield 29, 3) := dk_180 0 29 (dk_at dksX2_init_1 8 rfl rfl)
theorem dX2_init_34 : decode cX2_init 34 = .ok (.invokevirtual 32, 3) := dk_182 0 32 (dk_at dksX2_init_1 11 rfl rfl)
theorem dX2_init_37 : decode cX2_init 37 = .ok (.return_, 1) := dk_177 (dk_at dksX2_init_1 14 rfl rfl)
abbrev cX2_checkCapacity : ByteArray := prog_2_method_5_code
def yX2_checkCapacity : MethodName := ⟨RX2, "checkCapacity", "(I)V"⟩
def dkwX2_checkCapacity_1 : List UInt8 := [18, 43, 183, 0, 39, 191, 177]
abbrev dktX2_checkCapacity_1 : List UInt8 := dkwX2_checkCapacity_1 ++ []
def dkwX2_checkCapacity_0 : List UInt8 := [27, 156, 0, 13, 187, 0, 35, 89, 18, 37, 183, 0, 39, 191, 27, 18, 42, 164, 0, 13, 187, 0, 35, 89]
abbrev dktX2_checkCapacity_0 : List UInt8 := dkwX2_checkCapacity_0 ++ dktX2_checkCapacity_1
theorem dksX2_checkCapacity_0 : cX2_checkCapacity.data.toList.drop 0 = dktX2_checkCapacity_0 := by decide +kernel
theorem dksX2_checkCapacity_1 : cX2_checkCapacity.data.toList.drop 24 = dktX2_checkCapacity_1 := dk_seg dksX2_checkCapacity_0 24 rfl rfl
theorem dX2_checkCapacity_0 : decode cX2_checkCapacity 0 = .ok (.iload_n 1, 1) := dk_27 (dk_at dksX2_checkCapacity_0 0 rfl rfl)
theorem dX2_checkCapacity_1 : decode cX2_checkCapacity 1 = .ok (.ifCond .ge 13, 3) := dk_156 0 13 (dk_at dksX2_checkCapacity_0 1 rfl rfl)
theorem dX2_checkCapacity_4 : decode cX2_checkCapacity 4 = .ok (.new 35, 3) := dk_187 0 35 (dk_at dksX2_checkCapacity_0 4 rfl rfl)
theorem dX2_checkCapacity_7 : decode cX2_checkCapacity 7 = .ok (.dup, 1) := dk_89 (dk_at dksX2_checkCapacity_0 7 rfl rfl)
theorem dX2_checkCapacity_8 : decode cX2_checkCapacity 8 = .ok (.ldc 37, 2) := dk_18 37 (dk_at dksX2_checkCapacity_0 8 rfl rfl)
theorem dX2_checkCapacity_10 : decode cX2_checkCapacity 10 = .ok (.invokespecial 39, 3) := dk_183 0 39 (dk_at dksX2_checkCapacity_0 10 rfl rfl)
theorem dX2_checkCapacity_13 : decode cX2_checkCapacity 13 = .ok (.athrow, 1) := dk_191 (dk_at dksX2_checkCapacity_0 13 rfl rfl)
theorem dX2_checkCapacity_14 : decode cX2_checkCapacity 14 = .ok (.iload_n 1, 1) := dk_27 (dk_at dksX2_checkCapacity_0 14 rfl rfl)
theorem dX2_checkCapacity_15 : decode cX2_checkCapacity 15 = .ok (.ldc 42, 2) := dk_18 42 (dk_at dksX2_checkCapacity_0 15 rfl rfl)
theorem dX2_checkCapacity_17 : decode cX2_checkCapacity 17 = .ok (.if_icmp .le 13, 3) := dk_164 0 13 (dk_at dksX2_checkCapacity_0 17 rfl rfl)
theorem dX2_checkCapacity_20 : decode cX2_checkCapacity 20 = .ok (.new 35, 3) := dk_187 0 35 (dk_at dksX2_checkCapacity_0 20 rfl rfl)
theorem dX2_checkCapacity_23 : decode cX2_checkCapacity 23 = .ok (.dup, 1) := dk_89 (dk_at dksX2_checkCapacity_0 23 rfl rfl)
theorem dX2_checkCapacity_24 : decode cX2_checkCapacity 24 = .ok (.ldc 43, 2) := dk_18 43 (dk_at dksX2_checkCapacity_1 0 rfl rfl)
theorem dX2_checkCapacity_26 : decode cX2_checkCapacity 26 = .ok (.invokespecial 39, 3) := dk_183 0 39 (dk_at dksX2_checkCapacity_1 2 rfl rfl)
theorem dX2_checkCapacity_29 : decode cX2_checkCapacity 29 = .ok (.athrow, 1) := dk_191 (dk_at dksX2_checkCapacity_1 5 rfl rfl)
theorem dX2_checkCapacity_30 : decode cX2_checkCapacity 30 = .ok (.return_, 1) := dk_177 (dk_at dksX2_checkCapacity_1 6 rfl rfl)
abbrev cX2_isEmpty : ByteArray := prog_2_method_2_code
def yX2_isEmpty : MethodName := ⟨RX2, "isEmpty", "()Z"⟩
def dkwX2_isEmpty_0 : List UInt8 := [42, 180, 0, 15, 154, 0, 7, 4, 167, 0, 4, 3, 172]
abbrev dktX2_isEmpty_0 : List UInt8 := dkwX2_isEmpty_0 ++ []
theorem dksX2_isEmpty_0 : cX2_isEmpty.data.toList.drop 0 = dktX2_isEmpty_0 := by decide +kernel
theorem dX2_isEmpty_0 : decode cX2_isEmpty 0 = .ok (.aload_n 0, 1) := dk_42 (dk_at dksX2_isEmpty_0 0 rfl rfl)
theorem dX2_isEmpty_1 : decode cX2_isEmpty 1 = .ok (.getfield 15, 3) := dk_180 0 15 (dk_at dksX2_isEmpty_0 1 rfl rfl)
theorem dX2_isEmpty_4 : decode cX2_isEmpty 4 = .ok (.ifCond .ne 7, 3) := dk_154 0 7 (dk_at dksX2_isEmpty_0 4 rfl rfl)
theorem dX2_isEmpty_7 : decode cX2_isEmpty 7 = .ok (.iconst 1, 1) := dk_4 (dk_at dksX2_isEmpty_0 7 rfl rfl)
theorem dX2_isEmpty_8 : decode cX2_isEmpty 8 = .ok (.goto 4, 3) := dk_167 0 4 (dk_at dksX2_isEmpty_0 8 rfl rfl)
theorem dX2_isEmpty_11 : decode cX2_isEmpty 11 = .ok (.iconst 0, 1) := dk_3 (dk_at dksX2_isEmpty_0 11 rfl rfl)
theorem dX2_isEmpty_12 : decode cX2_isEmpty 12 = .ok (.ireturn, 1) := dk_172 (dk_at dksX2_isEmpty_0 12 rfl rfl)
abbrev cX2_size : ByteArray := prog_2_method_3_code
def yX2_size : MethodName := ⟨RX2, "size", "()J"⟩
def dkwX2_size_0 : List UInt8 := [42, 180, 0, 15, 133, 173]
abbrev dktX2_size_0 : List UInt8 := dkwX2_size_0 ++ []
theorem dksX2_size_0 : cX2_size.data.toList.drop 0 = dktX2_size_0 := by decide +kernel
theorem dX2_size_0 : decode cX2_size 0 = .ok (.aload_n 0, 1) := dk_42 (dk_at dksX2_size_0 0 rfl rfl)
theorem dX2_size_1 : decode cX2_size 1 = .ok (.getfield 15, 3) := dk_180 0 15 (dk_at dksX2_size_0 1 rfl rfl)
theorem dX2_size_4 : decode cX2_size 4 = .ok (.i2l, 1) := dk_133 (dk_at dksX2_size_0 4 rfl rfl)
theorem dX2_size_5 : decode cX2_size 5 = .ok (.lreturn, 1) := dk_173 (dk_at dksX2_size_0 5 rfl rfl)
abbrev cX2_clear : ByteArray := prog_2_method_4_code
def yX2_clear : MethodName := ⟨RX2, "clear", "()V"⟩
def dkwX2_clear_0 : List UInt8 := [42, 3, 181, 0, 15, 177]
abbrev dktX2_clear_0 : List UInt8 := dkwX2_clear_0 ++ []
theorem dksX2_clear_0 : cX2_clear.data.toList.drop 0 = dktX2_clear_0 := by decide +kernel
theorem dX2_clear_0 : decode cX2_clear 0 = .ok (.aload_n 0, 1) := dk_42 (dk_at dksX2_clear_0 0 rfl rfl)
theorem dX2_clear_1 : decode cX2_clear 1 = .ok (.iconst 0, 1) := dk_3 (dk_at dksX2_clear_0 1 rfl rfl)
theorem dX2_clear_2 : decode cX2_clear 2 = .ok (.putfield 15, 3) := dk_181 0 15 (dk_at dksX2_clear_0 2 rfl rfl)
theorem dX2_clear_5 : decode cX2_clear 5 = .ok (.return_, 1) := dk_177 (dk_at dksX2_clear_0 5 rfl rfl)
theorem q4 : (Jvm.Cond.initialized "AbstractArrayWeakHeap") ∈ lw_all := lw_g (lw_at lw_m1 2 rfl) rfl
theorem q42 : (Jvm.Cond.instanceMethod ({ cls := "AbstractArrayWeakHeap", name := "<init>", desc := "(Ljava/util/Comparator;I)V" } : Jvm.MethodName)) ∈ lw_all := lw_g (lw_at lw_m1 40 rfl) rfl
theorem q43 : (Jvm.Cond.code ({ cls := "AbstractArrayWeakHeap", name := "<init>", desc := "(Ljava/util/Comparator;I)V" } : Jvm.MethodName) prog_2_method_1_code (3 : Nat) (Option.none : Option Jvm.ClassFile.FieldType)) ∈ lw_all := lw_g (lw_at lw_m1 41 rfl) rfl
theorem q44 : (Jvm.Cond.methodLink "AbstractArrayWeakHeap" (3 : Nat) ({ cls := "java/lang/Object", name := "<init>", desc := "()V" } : Jvm.MethodName)) ∈ lw_all := lw_g (lw_at lw_m1 42 rfl) rfl
theorem q45 : (Jvm.Cond.methodLink "AbstractArrayWeakHeap" (9 : Nat) ({ cls := "AbstractArrayWeakHeap", name := "checkCapacity", desc := "(I)V" } : Jvm.MethodName)) ∈ lw_all := lw_g (lw_at lw_m1 43 rfl) rfl
theorem q46 : (Jvm.Cond.instanceMethod ({ cls := "AbstractArrayWeakHeap", name := "checkCapacity", desc := "(I)V" } : Jvm.MethodName)) ∈ lw_all := lw_g (lw_at lw_m1 44 rfl) rfl
theorem q47 : (Jvm.Cond.sameMethod "AbstractArrayWeakHeap" "AbstractArrayWeakHeap" "checkCapacity" "(I)V") ∈ lw_all := lw_g (lw_at lw_m1 45 rfl) rfl
theorem q49 : (Jvm.Cond.code ({ cls := "AbstractArrayWeakHeap", name := "checkCapacity", desc := "(I)V" } : Jvm.MethodName) prog_2_method_5_code (2 : Nat) (Option.none : Option Jvm.ClassFile.FieldType)) ∈ lw_all := lw_g (lw_at lw_m1 47 rfl) rfl
theorem q50 : (Jvm.Cond.classLink "AbstractArrayWeakHeap" (35 : Nat) "java/lang/IllegalArgumentException") ∈ lw_all := lw_g (lw_at lw_m1 48 rfl) rfl
theorem q104 : (Jvm.Cond.stringRef "AbstractArrayWeakHeap" (37 : Nat) "left out") ∈ lw_tbl := lw_at lw_m1 102 rfl
theorem q105 : (Jvm.Cond.methodLink "AbstractArrayWeakHeap" (39 : Nat) ({ cls := "java/lang/IllegalArgumentException", name := "<init>", desc := "(Ljava/lang/String;)V" } : Jvm.MethodName)) ∈ lw_all := lw_g (lw_at lw_m1 103 rfl) rfl
theorem q131 : (Jvm.Cond.constant "AbstractArrayWeakHeap" (42 : Nat) (2147483638 : Int32)) ∈ lw_all := lw_g (lw_at lw_m1 129 rfl) rfl
theorem q132 : (Jvm.Cond.stringRef "AbstractArrayWeakHeap" (43 : Nat) "Heap capacity too large") ∈ lw_tbl := lw_at lw_m1 130 rfl
theorem q133 : (Jvm.Cond.methodLink "AbstractArrayWeakHeap" (23 : Nat) ({ cls := "java/lang/Math", name := "max", desc := "(II)I" } : Jvm.MethodName)) ∈ lw_all := lw_g (lw_at lw_m1 131 rfl) rfl
theorem q136 : (Jvm.Cond.methodLink "AbstractArrayWeakHeap" (32 : Nat) ({ cls := "AbstractArrayWeakHeap", name := "initCapacity", desc := "(I)V" } : Jvm.MethodName)) ∈ lw_all := lw_g (lw_at lw_m1 134 rfl) rfl
theorem q137 : (Jvm.Cond.declares ({ cls := "AbstractArrayWeakHeap", name := "initCapacity", desc := "(I)V" } : Jvm.MethodName)) ∈ lw_tbl := lw_at lw_m1 135 rfl
theorem q138 : (Jvm.Cond.sameMethod "AbstractArrayWeakHeap" "AbstractArrayWeakHeap" "initCapacity" "(I)V") ∈ lw_all := lw_g (lw_at lw_m1 136 rfl) rfl
theorem q144 : (Jvm.Cond.fieldLink "AbstractArrayWeakHeap" (19 : Nat) "AbstractArrayWeakHeap" "comparator" "Ljava/util/Comparator;") ∈ lw_all := lw_g (lw_at lw_m1 142 rfl) rfl
theorem q153 : (Jvm.Cond.fieldLink "AbstractArrayWeakHeap" (15 : Nat) "AbstractArrayWeakHeap" "size" "I") ∈ lw_all := lw_g (lw_at lw_m1 151 rfl) rfl
theorem q158 : (Jvm.Cond.fieldLink "AbstractArrayWeakHeap" (29 : Nat) "AbstractArrayWeakHeap" "minCapacity" "I") ∈ lw_all := lw_g (lw_at lw_m1 156 rfl) rfl
theorem q162 : (Jvm.Cond.soleField "AbstractArrayWeakHeap" "comparator") ∈ lw_all := lw_g (lw_at lw_m1 160 rfl) rfl
theorem q164 : (Jvm.Cond.soleField "AbstractArrayWeakHeap" "array") ∈ lw_all := lw_g (lw_at lw_m1 162 rfl) rfl
theorem q166 : (Jvm.Cond.soleField "AbstractArrayWeakHeap" "size") ∈ lw_all := lw_g (lw_at lw_m1 164 rfl) rfl
theorem q168 : (Jvm.Cond.soleField "AbstractArrayWeakHeap" "minCapacity") ∈ lw_all := lw_g (lw_at lw_m1 166 rfl) rfl
theorem q233 : (Jvm.Cond.declares ({ cls := "AbstractArrayWeakHeap", name := "ensureCapacity", desc := "(I)V" } : Jvm.MethodName)) ∈ lw_tbl := lw_at lw_m1 231 rfl
theorem q239 : (Jvm.Cond.declares ({ cls := "AbstractArrayWeakHeap", name := "checkCapacity", desc := "(I)V" } : Jvm.MethodName)) ∈ lw_tbl := lw_at lw_m1 237 rfl
theorem q247 : (Jvm.Cond.declares ({ cls := "AbstractArrayWeakHeap", name := "fixup", desc := "(I)V" } : Jvm.MethodName)) ∈ lw_tbl := lw_at lw_m2 5 rfl
theorem q262 : (Jvm.Cond.declares ({ cls := "AbstractArrayWeakHeap", name := "fixupWithComparator", desc := "(I)V" } : Jvm.MethodName)) ∈ lw_tbl := lw_at lw_m2 20 rfl
theorem q319 : (Jvm.Cond.declares ({ cls := "AbstractArrayWeakHeap", name := "isEmpty", desc := "()Z" } : Jvm.MethodName)) ∈ lw_tbl := lw_at lw_m2 77 rfl
theorem q321 : (Jvm.Cond.instanceMethod ({ cls := "AbstractArrayWeakHeap", name := "isEmpty", desc := "()Z" } : Jvm.MethodName)) ∈ lw_all := lw_g (lw_at lw_m2 79 rfl) rfl
theorem q322 : (Jvm.Cond.code ({ cls := "AbstractArrayWeakHeap", name := "isEmpty", desc := "()Z" } : Jvm.MethodName) prog_2_method_2_code (1 : Nat) (Option.some Jvm.ClassFile.FieldType.boolean)) ∈ lw_all := lw_g (lw_at lw_m2 80 rfl) rfl
theorem q362 : (Jvm.Cond.declares ({ cls := "AbstractArrayWeakHeap", name := "fixdown", desc := "(I)V" } : Jvm.MethodName)) ∈ lw_tbl := lw_at lw_m2 120 rfl
theorem q366 : (Jvm.Cond.declares ({ cls := "AbstractArrayWeakHeap", name := "fixdownWithComparator", desc := "(I)V" } : Jvm.MethodName)) ∈ lw_tbl := lw_at lw_m2 124 rfl
theorem q374 : (Jvm.Cond.declares ({ cls := "AbstractArrayWeakHeap", name := "size", desc := "()J" } : Jvm.MethodName)) ∈ lw_tbl := lw_at lw_m2 132 rfl
theorem q376 : (Jvm.Cond.instanceMethod ({ cls := "AbstractArrayWeakHeap", name := "size", desc := "()J" } : Jvm.MethodName)) ∈ lw_all := lw_g (lw_at lw_m2 134 rfl) rfl
theorem q377 : (Jvm.Cond.code ({ cls := "AbstractArrayWeakHeap", name := "size", desc := "()J" } : Jvm.MethodName) prog_2_method_3_code (1 : Nat) (Option.some Jvm.ClassFile.FieldType.long)) ∈ lw_all := lw_g (lw_at lw_m2 135 rfl) rfl
theorem q388 : (Jvm.Cond.declares ({ cls := "AbstractArrayWeakHeap", name := "clear", desc := "()V" } : Jvm.MethodName)) ∈ lw_tbl := lw_at lw_m2 146 rfl
theorem q390 : (Jvm.Cond.instanceMethod ({ cls := "AbstractArrayWeakHeap", name := "clear", desc := "()V" } : Jvm.MethodName)) ∈ lw_all := lw_g (lw_at lw_m2 148 rfl) rfl
theorem q391 : (Jvm.Cond.code ({ cls := "AbstractArrayWeakHeap", name := "clear", desc := "()V" } : Jvm.MethodName) prog_2_method_4_code (1 : Nat) (Option.none : Option Jvm.ClassFile.FieldType)) ∈ lw_all := lw_g (lw_at lw_m2 149 rfl) rfl
/-! AbstractArrayHeap -/
def RX3 : String := "AbstractArrayHeap"
abbrev cX3_init : ByteArray := prog_1_method_1_code
def yX3_init : MethodName := ⟨RX3, "<init>", "(Ljava/util/Comparator;I)V"⟩
def dkwX3_init_0 : List UInt8 := [42, 43, 28, 183, 0, 3, 177]
abbrev dktX3_init_0 : List UInt8 := dkwX3_init_0 ++ []
theorem dksX3_init_0 : cX3_init.data.toList.drop 0 = dktX3_init_0 := by decide +kernel
theorem dX3_init_0 : decode cX3_init 0 = .ok (.aload_n 0, 1) := dk_42 (dk_at dksX3_init_0 0 rfl rfl)
theorem dX3_init_1 : decode cX3_init 1 = .ok (.aload_n 1, 1) := dk_43 (dk_at dksX3_init_0 1 rfl rfl)
theorem dX3_init_2 : decode cX3_init 2 = .ok (.iload_n 2, 1) := dk_28 (dk_at dksX3_init_0 2 rfl rfl)
theorem dX3_init_3 : decode cX3_init 3 = .ok (.invokespecial 3, 3) := dk_183 0 3 (dk_at dksX3_init_0 3 rfl rfl)
theorem dX3_init_6 : decode cX3_init 6 = .ok (.return_, 1) := dk_177 (dk_at dksX3_init_0 6 rfl rfl)
abbrev cX3_initCapacity : ByteArray := prog_1_method_2_code
def yX3_initCapacity : MethodName := ⟨RX3, "initCapacity", "(I)V"⟩
def dkwX3_initCapacity_0 : List UInt8 := [42, 27, 4, 96, 189, 0, 9, 181, 0, 11, 177]
abbrev dktX3_initCapacity_0 : List UInt8 := dkwX3_initCapacity_0 ++ []
theorem dksX3_initCapacity_0 : cX3_initCapacity.data.toList.drop 0 = dktX3_initCapacity_0 := by decide +kernel
theorem dX3_initCapacity_0 : decode cX3_initCapacity 0 = .ok (.aload_n 0, 1) := dk_42 (dk_at dksX3_initCapacity_0 0 rfl rfl)
theorem dX3_initCapacity_1 : decode cX3_initCapacity 1 = .ok (.iload_n 1, 1) := dk_27 (dk_at dksX3_initCapacity_0 1 rfl rfl)
theorem dX3_initCapacity_2 : decode cX3_initCapacity 2 = .ok (.iconst 1, 1) := dk_4 (dk_at dksX3_initCapacity_0 2 rfl rfl)
theorem dX3_initCapacity_3 : decode cX3_initCapacity 3 = .ok (.iadd, 1) := dk_96 (dk_at dksX3_initCapacity_0 3 rfl rfl)
theorem dX3_initCapacity_4 : decode cX3_initCapacity 4 = .ok (.anewarray 9, 3) := dk_189 0 9 (dk_at dksX3_initCapacity_0 4 rfl rfl)
theorem dX3_initCapacity_7 : decode cX3_initCapacity 7 = .ok (.putfield 11, 3) := dk_181 0 11 (dk_at dksX3_initCapacity_0 7 rfl rfl)
theorem dX3_initCapacity_10 : decode cX3_initCapacity 10 = .ok (.return_, 1) := dk_177 (dk_at dksX3_initCapacity_0 10 rfl rfl)
abbrev cX3_insert : ByteArray := prog_1_method_4_code
def yX3_insert : MethodName := ⟨RX3, "insert", "(Ljava/lang/Object;)V"⟩
def dkwX3_insert_4 : List UInt8 := [42, 180, 0, 17, 182, 0, 44, 177]
abbrev dktX3_insert_4 : List UInt8 := dkwX3_insert_4 ++ []
def dkwX3_insert_3 : List UInt8 := [181, 0, 17, 43, 83, 42, 180, 0, 37, 199, 0, 14, 42, 42, 180, 0, 17, 182, 0, 41, 167, 0, 11, 42]
abbrev dktX3_insert_3 : List UInt8 := dkwX3_insert_3 ++ dktX3_insert_4
def dkwX3_insert_2 : List UInt8 := [180, 0, 11, 190, 4, 100, 104, 182, 0, 33, 42, 180, 0, 11, 42, 89, 180, 0, 17, 4, 96, 90]
abbrev dktX3_insert_2 : List UInt8 := dkwX3_insert_2 ++ dktX3_insert_3
def dkwX3_insert_1 : List UInt8 := [100, 160, 0, 33, 42, 180, 0, 11, 190, 4, 160, 0, 11, 42, 4, 182, 0, 33, 167, 0, 16, 42, 5, 42]
abbrev dktX3_insert_1 : List UInt8 := dkwX3_insert_1 ++ dktX3_insert_2
def dkwX3_insert_0 : List UInt8 := [43, 199, 0, 13, 187, 0, 26, 89, 18, 28, 183, 0, 30, 191, 42, 180, 0, 17, 42, 180, 0, 11, 190, 4]
abbrev dktX3_insert_0 : List UInt8 := dkwX3_insert_0 ++ dktX3_insert_1
theorem dksX3_insert_0 : cX3_insert.data.toList.drop 0 = dktX3_insert_0 := by decide +kernel
theorem dksX3_insert_1 : cX3_insert.data.toList.drop 24 = dktX3_insert_1 := dk_seg dksX3_insert_0 24 rfl rfl
theorem dksX3_insert_2 : cX3_insert.data.toList.drop 48 = dktX3_insert_2 := dk_seg dksX3_insert_1 24 rfl rfl
theorem dksX3_insert_3 : cX3_insert.data.toList.drop 70 = dktX3_insert_3 := dk_seg dksX3_insert_2 22 rfl rfl
theorem dksX3_insert_4 : cX3_insert.data.toList.drop 94 = dktX3_insert_4 := dk_seg dksX3_insert_3 24 rfl rfl
theorem dX3_insert_0 : decode cX3_insert 0 = .ok (.aload_n 1, 1) := dk_43 (dk_at dksX3_insert_0 0 rfl rfl)
theorem dX3_insert_1 : decode cX3_insert 1 = .ok (.ifnonnull 13, 3) := dk_199 0 13 (dk_at dksX3_insert_0 1 rfl rfl)
theorem dX3_insert_4 : decode cX3_insert 4 = .ok (.new 26, 3) := dk_187 0 26 (dk_at dksX3_insert_0 4 rfl rfl)
theorem dX3_insert_7 : decode cX3_insert 7 = .ok (.dup, 1) := dk_89 (dk_at dksX3_insert_0 7 rfl rfl)
theorem dX3_insert_8 : decode cX3_insert 8 = .ok (.ldc 28, 2) := dk_18 28 (dk_at dksX3_insert_0 8 rfl rfl)
theorem dX3_insert_10 : decode cX3_insert 10 = .ok (.invokespecial 30, 3) := dk_183 0 30 (dk_at dksX3_insert_0 10 rfl rfl)
theorem dX3_insert_13 : decode cX3_insert 13 = .ok (.athrow, 1) := dk_191 (dk_at dksX3_insert_0 13 rfl rfl)
theorem dX3_insert_14 : decode cX3_insert 14 = .ok (.aload_n 0, 1) := dk_42 (dk_at dksX3_insert_0 14 rfl rfl)
theorem dX3_insert_15 : decode cX3_insert 15 = .ok (.getfield 17, 3) := dk_180 0 17 (dk_at dksX3_insert_0 15 rfl rfl)
theorem dX3_insert_18 : decode cX3_insert 18 = .ok (.aload_n 0, 1) := dk_42 (dk_at dksX3_insert_0 18 rfl rfl)
theorem dX3_insert_19 : decode cX3_insert 19 = .ok (.getfield 11, 3) := dk_180 0 11 (dk_at dksX3_insert_0 19 rfl rfl)
theorem dX3_insert_22 : decode cX3_insert 22 = .ok (.arraylength, 1) := dk_190 (dk_at dksX3_insert_0 22 rfl rfl)
theorem dX3_insert_23 : decode cX3_insert 23 = .ok (.iconst 1, 1) := dk_4 (dk_at dksX3_insert_0 23 rfl rfl)
theorem dX3_insert_24 : decode cX3_insert 24 = .ok (.isub, 1) := dk_100 (dk_at dksX3_insert_1 0 rfl rfl)
theorem dX3_insert_25 : decode cX3_insert 25 = .ok (.if_icmp .ne 33, 3) := dk_160 0 33 (dk_at dksX3_insert_1 1 rfl rfl)
theorem dX3_insert_28 : decode cX3_insert 28 = .ok (.aload_n 0, 1) := dk_42 (dk_at dksX3_insert_1 4 rfl rfl)
theorem dX3_insert_29 : decode cX3_insert 29 = .ok (.getfield 11, 3) := dk_180 0 11 (dk_at dksX3_insert_1 5 rfl rfl)
theorem dX3_insert_32 : decode cX3_insert 32 = .ok (.arraylength, 1) := dk_190 (dk_at dksX3_insert_1 8 rfl rfl)
theorem dX3_insert_33 : decode cX3_insert 33 = .ok (.iconst 1, 1) := dk_4 (dk_at dksX3_insert_1 9 rfl rfl)
theorem dX3_insert_34 : decode cX3_insert 34 = .ok (.if_icmp .ne 11, 3) := dk_160 0 11 (dk_at dksX3_insert_1 10 rfl rfl)
theorem dX3_insert_37 : decode cX3_insert 37 = .ok (.aload_n 0, 1) := dk_42 (dk_at dksX3_insert_1 13 rfl rfl)
theorem dX3_insert_38 : decode cX3_insert 38 = .ok (.iconst 1, 1) := dk_4 (dk_at dksX3_insert_1 14 rfl rfl)
theorem dX3_insert_39 : decode cX3_insert 39 = .ok (.invokevirtual 33, 3) := dk_182 0 33 (dk_at dksX3_insert_1 15 rfl rfl)
theorem dX3_insert_42 : decode cX3_insert 42 = .ok (.goto 16, 3) := dk_167 0 16 (dk_at dksX3_insert_1 18 rfl rfl)
theorem dX3_insert_45 : decode cX3_insert 45 = .ok (.aload_n 0, 1) := dk_42 (dk_at dksX3_insert_1 21 rfl rfl)
theorem dX3_insert_46 : decode cX3_insert 46 = .ok (.iconst 2, 1) := dk_5 (dk_at dksX3_insert_1 22 rfl rfl)
theorem dX3_insert_47 : decode cX3_insert 47 = .ok (.aload_n 0, 1) := dk_42 (dk_at dksX3_insert_1 23 rfl rfl)
theorem dX3_insert_48 : decode cX3_insert 48 = .ok (.getfield 11, 3) := dk_180 0 11 (dk_at dksX3_insert_2 0 rfl rfl)
theorem dX3_insert_51 : decode cX3_insert 51 = .ok (.arraylength, 1) := dk_190 (dk_at dksX3_insert_2 3 rfl rfl)
theorem dX3_insert_52 : decode cX3_insert 52 = .ok (.iconst 1, 1) := dk_4 (dk_at dksX3_insert_2 4 rfl rfl)
theorem dX3_insert_53 : decode cX3_insert 53 = .ok (.isub, 1) := dk_100 (dk_at dksX3_insert_2 5 rfl rfl)
theorem dX3_insert_54 : decode cX3_insert 54 = .ok (.imul, 1) := dk_104 (dk_at dksX3_insert_2 6 rfl rfl)
theorem dX3_insert_55 : decode cX3_insert 55 = .ok (.invokevirtual 33, 3) := dk_182 0 33 (dk_at dksX3_insert_2 7 rfl rfl)
theorem dX3_insert_58 : decode cX3_insert 58 = .ok (.aload_n 0, 1) := dk_42 (dk_at dksX3_insert_2 10 rfl rfl)
theorem dX3_insert_59 : decode cX3_insert 59 = .ok (.getfield 11, 3) := dk_180 0 11 (dk_at dksX3_insert_2 11 rfl rfl)
theorem dX3_insert_62 : decode cX3_insert 62 = .ok (.aload_n 0, 1) := dk_42 (dk_at dksX3_insert_2 14 rfl rfl)
theorem dX3_insert_63 : decode cX3_insert 63 = .ok (.dup, 1) := dk_89 (dk_at dksX3_insert_2 15 rfl rfl)
theorem dX3_insert_64 : decode cX3_insert 64 = .ok (.getfield 17, 3) := dk_180 0 17 (dk_at dksX3_insert_2 16 rfl rfl)
theorem dX3_insert_67 : decode cX3_insert 67 = .ok (.iconst 1, 1) := dk_4 (dk_at dksX3_insert_2 19 rfl rfl)
theorem dX3_insert_68 : decode cX3_insert 68 = .ok (.iadd, 1) := dk_96 (dk_at dksX3_insert_2 20 rfl rfl)
theorem dX3_insert_69 : decode cX3_insert 69 = .ok (.dup_x1, 1) := dk_90 (dk_at dksX3_insert_2 21 rfl rfl)
theorem dX3_insert_70 : decode cX3_insert 70 = .ok (.putfield 17, 3) := dk_181 0 17 (dk_at dksX3_insert_3 0 rfl rfl)
theorem dX3_insert_73 : decode cX3_insert 73 = .ok (.aload_n 1, 1) := dk_43 (dk_at dksX3_insert_3 3 rfl rfl)
theorem dX3_insert_74 : decode cX3_insert 74 = .ok (.aastore, 1) := dk_83 (dk_at dksX3_insert_3 4 rfl rfl)
theorem dX3_insert_75 : decode cX3_insert 75 = .ok (.aload_n 0, 1) := dk_42 (dk_at dksX3_insert_3 5 rfl rfl)
theorem dX3_insert_76 : decode cX3_insert 76 = .ok (.getfield 37, 3) := dk_180 0 37 (dk_at dksX3_insert_3 6 rfl rfl)
theorem dX3_insert_79 : decode cX3_insert 79 = .ok (.ifnonnull 14, 3) := dk_199 0 14 (dk_at dksX3_insert_3 9 rfl rfl)
theorem dX3_insert_82 : decode cX3_insert 82 = .ok (.aload_n 0, 1) := dk_42 (dk_at dksX3_insert_3 12 rfl rfl)
theorem dX3_insert_83 : decode cX3_insert 83 = .ok (.aload_n 0, 1) := dk_42 (dk_at dksX3_insert_3 13 rfl rfl)
theorem dX3_insert_84 : decode cX3_insert 84 = .ok (.getfield 17, 3) := dk_180 0 17 (dk_at dksX3_insert_3 14 rfl rfl)
theorem dX3_insert_87 : decode cX3_insert 87 = .ok (.invokevirtual 41, 3) := dk_182 0 41 (dk_at dksX3_insert_3 17 rfl rfl)
theorem dX3_insert_90 : decode cX3_insert 90 = .ok (.goto 11, 3) := dk_167 0 11 (dk_at dksX3_insert_3 20 rfl rfl)
theorem dX3_insert_93 : decode cX3_insert 93 = .ok (.aload_n 0, 1) := dk_42 (dk_at dksX3_insert_3 23 rfl rfl)
theorem dX3_insert_94 : decode cX3_insert 94 = .ok (.aload_n 0, 1) := dk_42 (dk_at dksX3_insert_4 0 rfl rfl)
theorem dX3_insert_95 : decode cX3_insert 95 = .ok (.getfield 17, 3) := dk_180 0 17 (dk_at dksX3_insert_4 1 rfl rfl)
theorem dX3_insert_98 : decode cX3_insert 98 = .ok (.invokevirtual 44, 3) := dk_182 0 44 (dk_at dksX3_insert_4 4 rfl rfl)
theorem dX3_insert_101 : decode cX3_insert 101 = .ok (.return_, 1) := dk_177 (dk_at dksX3_insert_4 7 rfl rfl)
abbrev cX3_findMin : ByteArray := prog_1_method_3_code
def yX3_findMin : MethodName := ⟨RX3, "findMin", "()Ljava/lang/Object;"⟩
def dkwX3_findMin_0 : List UInt8 := [42, 180, 0, 17, 154, 0, 11, 187, 0, 21, 89, 183, 0, 23, 191, 42, 180, 0, 11, 4, 50, 176]
abbrev dktX3_findMin_0 : List UInt8 := dkwX3_findMin_0 ++ []
theorem dksX3_findMin_0 : cX3_findMin.data.toList.drop 0 = dktX3_findMin_0 := by decide +kernel
theorem dX3_findMin_0 : decode cX3_findMin 0 = .ok (.aload_n 0, 1) := dk_42 (dk_at dksX3_findMin_0 0 rfl rfl)
theorem dX3_findMin_1 : decode cX3_findMin 1 = .ok (.getfield 17, 3) := dk_180 0 17 (dk_at dksX3_findMin_0 1 rfl rfl)
theorem dX3_findMin_4 : decode cX3_findMin 4 = .ok (.ifCond .ne 11, 3) := dk_154 0 11 (dk_at dksX3_findMin_0 4 rfl rfl)
theorem dX3_findMin_7 : decode cX3_findMin 7 = .ok (.new 21, 3) := dk_187 0 21 (dk_at dksX3_findMin_0 7 rfl rfl)
theorem dX3_findMin_10 : decode cX3_findMin 10 = .ok (.dup, 1) := dk_89 (dk_at dksX3_findMin_0 10 rfl rfl)
theorem dX3_findMin_11 : decode cX3_findMin 11 = .ok (.invokespecial 23, 3) := dk_183 0 23 (dk_at dksX3_findMin_0 11 rfl rfl)
theorem dX3_findMin_14 : decode cX3_findMin 14 = .ok (.athrow, 1) := dk_191 (dk_at dksX3_findMin_0 14 rfl rfl)
theorem dX3_findMin_15 : decode cX3_findMin 15 = .ok (.aload_n 0, 1) := dk_42 (dk_at dksX3_findMin_0 15 rfl rfl)
theorem dX3_findMin_16 : decode cX3_findMin 16 = .ok (.getfield 11, 3) := dk_180 0 11 (dk_at dksX3_findMin_0 16 rfl rfl)
theorem dX3_findMin_19 : decode cX3_findMin 19 = .ok (.iconst 1, 1) := dk_4 (dk_at dksX3_findMin_0 19 rfl rfl)
theorem dX3_findMin_20 : decode cX3_findMin 20 = .ok (.aaload, 1) := dk_50 (dk_at dksX3_findMin_0 20 rfl rfl)
theorem dX3_findMin_21 : decode cX3_findMin 21 = .ok (.areturn, 1) := dk_176 (dk_at dksX3_findMin_0 21 rfl rfl)
abbrev cX3_deleteMin : ByteArray := prog_1_method_5_code
def yX3_deleteMin : MethodName := ⟨RX3, "deleteMin", "()Ljava/lang/Object;"⟩
def dkwX3_deleteMin_5 : List UInt8 := [163, 0, 20, 7, 42, 180, 0, 17, 104, 28, 162, 0, 10, 42, 28, 5, 108, 182, 0, 33, 43, 176]
abbrev dktX3_deleteMin_5 : List UInt8 := dkwX3_deleteMin_5 ++ []
def dkwX3_deleteMin_4 : List UInt8 := [167, 0, 8, 42, 4, 182, 0, 50, 42, 180, 0, 11, 190, 4, 100, 61, 5, 42, 180, 0, 53, 104, 28]
abbrev dktX3_deleteMin_4 : List UInt8 := dkwX3_deleteMin_4 ++ dktX3_deleteMin_5
def dkwX3_deleteMin_3 : List UInt8 := [42, 89, 180, 0, 17, 4, 100, 181, 0, 17, 42, 180, 0, 37, 199, 0, 11, 42, 4, 182, 0, 47]
abbrev dktX3_deleteMin_3 : List UInt8 := dkwX3_deleteMin_3 ++ dktX3_deleteMin_4
def dkwX3_deleteMin_2 : List UInt8 := [180, 0, 11, 4, 42, 180, 0, 11, 42, 180, 0, 17, 50, 83, 42, 180, 0, 11, 42, 180, 0, 17, 1, 83]
abbrev dktX3_deleteMin_2 : List UInt8 := dkwX3_deleteMin_2 ++ dktX3_deleteMin_3
def dkwX3_deleteMin_1 : List UInt8 := [180, 0, 17, 4, 160, 0, 18, 42, 180, 0, 11, 4, 1, 83, 42, 3, 181, 0, 17, 167, 0, 58, 42]
abbrev dktX3_deleteMin_1 : List UInt8 := dkwX3_deleteMin_1 ++ dktX3_deleteMin_2
def dkwX3_deleteMin_0 : List UInt8 := [42, 180, 0, 17, 154, 0, 11, 187, 0, 21, 89, 183, 0, 23, 191, 42, 180, 0, 11, 4, 50, 76, 42]
abbrev dktX3_deleteMin_0 : List UInt8 := dkwX3_deleteMin_0 ++ dktX3_deleteMin_1
theorem dksX3_deleteMin_0 : cX3_deleteMin.data.toList.drop 0 = dktX3_deleteMin_0 := by decide +kernel
theorem dksX3_deleteMin_1 : cX3_deleteMin.data.toList.drop 23 = dktX3_deleteMin_1 := dk_seg dksX3_deleteMin_0 23 rfl rfl
theorem dksX3_deleteMin_2 : cX3_deleteMin.data.toList.drop 46 = dktX3_deleteMin_2 := dk_seg dksX3_deleteMin_1 23 rfl rfl
theorem dksX3_deleteMin_3 : cX3_deleteMin.data.toList.drop 70 = dktX3_deleteMin_3 := dk_seg dksX3_deleteMin_2 24 rfl rfl
theorem dksX3_deleteMin_4 : cX3_deleteMin.data.toList.drop 92 = dktX3_deleteMin_4 := dk_seg dksX3_deleteMin_3 22 rfl rfl
theorem dksX3_deleteMin_5 : cX3_deleteMin.data.toList.drop 115 = dktX3_deleteMin_5 := dk_seg dksX3_deleteMin_4 23 rfl rfl
theorem dX3_deleteMin_0 : decode cX3_deleteMin 0 = .ok (.aload_n 0, 1) := dk_42 (dk_at dksX3_deleteMin_0 0 rfl rfl)
theorem dX3_deleteMin_1 : decode cX3_deleteMin 1 = .ok (.getfield 17, 3) := dk_180 0 17 (dk_at dksX3_deleteMin_0 1 rfl rfl)
theorem dX3_deleteMin_4 : decode cX3_deleteMin 4 = .ok (.ifCond .ne 11, 3) := dk_154 0 11 (dk_at dksX3_deleteMin_0 4 rfl rfl)
theorem dX3_deleteMin_7 : decode cX3_deleteMin 7 = .ok (.new 21, 3) := dk_187 0 21 (dk_at dksX3_deleteMin_0 7 rfl rfl)
theorem dX3_deleteMin_10 : decode cX3_deleteMin 10 = .ok (.dup, 1) := dk_89 (dk_at dksX3_deleteMin_0 10 rfl rfl)
theorem dX3_deleteMin_11 : decode cX3_deleteMin 11 = .ok (.invokespecial 23, 3) := dk_183 0 23 (dk_at dksX3_deleteMin_0 11 rfl rfl)
theorem dX3_deleteMin_14 : decode cX3_deleteMin 14 = .ok (.athrow, 1) := dk_191 (dk_at dksX3_deleteMin_0 14 rfl rfl)
theorem dX3_deleteMin_15 : decode cX3_deleteMin 15 = .ok (.aload_n 0, 1) := dk_42 (dk_at dksX3_deleteMin_0 15 rfl rfl)
theorem dX3_deleteMin_16 : decode cX3_deleteMin 16 = .ok (.getfield 11, 3) := dk_180 0 11 (dk_at dksX3_deleteMin_0 16 rfl rfl)
theorem dX3_deleteMin_19 : decode cX3_deleteMin 19 = .ok (.iconst 1, 1) := dk_4 (dk_at dksX3_deleteMin_0 19 rfl rfl)
theorem dX3_deleteMin_20 : decode cX3_deleteMin 20 = .ok (.aaload, 1) := dk_50 (dk_at dksX3_deleteMin_0 20 rfl rfl)
theorem dX3_deleteMin_21 : decode cX3_deleteMin 21 = .ok (.astore_n 1, 1) := dk_76 (dk_at dksX3_deleteMin_0 21 rfl rfl)
theorem dX3_deleteMin_22 : decode cX3_deleteMin 22 = .ok (.aload_n 0, 1) := dk_42 (dk_at dksX3_deleteMin_0 22 rfl rfl)
theorem dX3_deleteMin_23 : decode cX3_deleteMin 23 = .ok (.getfield 17, 3) := dk_180 0 17 (dk_at dksX3_deleteMin_1 0 rfl rfl)
theorem dX3_deleteMin_26 : decode cX3_deleteMin 26 = .ok (.iconst 1, 1) := dk_4 (dk_at dksX3_deleteMin_1 3 rfl rfl)
theorem dX3_deleteMin_27 : decode cX3_deleteMin 27 = .ok (.if_icmp .ne 18, 3) := dk_160 0 18 (dk_at dksX3_deleteMin_1 4 rfl rfl)
theorem dX3_deleteMin_30 : decode cX3_deleteMin 30 = .ok (.aload_n 0, 1) := dk_42 (dk_at dksX3_deleteMin_1 7 rfl rfl)
theorem dX3_deleteMin_31 : decode cX3_deleteMin 31 = .ok (.getfield 11, 3) := dk_180 0 11 (dk_at dksX3_deleteMin_1 8 rfl rfl)
theorem dX3_deleteMin_34 : decode cX3_deleteMin 34 = .ok (.iconst 1, 1) := dk_4 (dk_at dksX3_deleteMin_1 11 rfl rfl)
theorem dX3_deleteMin_35 : decode cX3_deleteMin 35 = .ok (.aconst_null, 1) := dk_1 (dk_at dksX3_deleteMin_1 12 rfl rfl)
theorem dX3_deleteMin_36 : decode cX3_deleteMin 36 = .ok (.aastore, 1) := dk_83 (dk_at dksX3_deleteMin_1 13 rfl rfl)
theorem dX3_deleteMin_37 : decode cX3_deleteMin 37 = .ok (.aload_n 0, 1) := dk_42 (dk_at dksX3_deleteMin_1 14 rfl rfl)
theorem dX3_deleteMin_38 : decode cX3_deleteMin 38 = .ok (.iconst 0, 1) := dk_3 (dk_at dksX3_deleteMin_1 15 rfl rfl)
theorem dX3_deleteMin_39 : decode cX3_deleteMin 39 = .ok (.putfield 17, 3) := dk_181 0 17 (dk_at dksX3_deleteMin_1 16 rfl rfl)
theorem dX3_deleteMin_42 : decode cX3_deleteMin 42 = .ok (.goto 58, 3) := dk_167 0 58 (dk_at dksX3_deleteMin_1 19 rfl rfl)
theorem dX3_deleteMin_45 : decode cX3_deleteMin 45 = .ok (.aload_n 0, 1) := dk_42 (dk_at dksX3_deleteMin_1 22 rfl rfl)
theorem dX3_deleteMin_46 : decode cX3_deleteMin 46 = .ok (.getfield 11, 3) := dk_180 0 11 (dk_at dksX3_deleteMin_2 0 rfl rfl)
theorem dX3_deleteMin_49 : decode cX3_deleteMin 49 = .ok (.iconst 1, 1) := dk_4 (dk_at dksX3_deleteMin_2 3 rfl rfl)
theorem dX3_deleteMin_50 : decode cX3_deleteMin 50 = .ok (.aload_n 0, 1) := dk_42 (dk_at dksX3_deleteMin_2 4 rfl rfl)
theorem dX3_deleteMin_51 : decode cX3_deleteMin 51 = .ok (.getfield 11, 3) := dk_180 0 11 (dk_at dksX3_deleteMin_2 5 rfl rfl)
theorem dX3_deleteMin_54 : decode cX3_deleteMin 54 = .ok (.aload_n 0, 1) := dk_42 (dk_at dksX3_deleteMin_2 8 rfl rfl)
theorem dX3_deleteMin_55 : decode cX3_deleteMin 55 = .ok (.getfield 17, 3) := dk_180 0 17 (dk_at dksX3_deleteMin_2 9 rfl rfl)
theorem dX3_deleteMin_58 : decode cX3_deleteMin 58 = .ok (.aaload, 1) := dk_50 (dk_at dksX3_deleteMin_2 12 rfl rfl)
theorem dX3_deleteMin_59 : decode cX3_deleteMin 59 = .ok (.aastore, 1) := dk_83 (dk_at dksX3_deleteMin_2 13 rfl rfl)
theorem dX3_deleteMin_60 : decode cX3_deleteMin 60 = .ok (.aload_n 0, 1) := dk_42 (dk_at dksX3_deleteMin_2 14 rfl rfl)
theorem dX3_deleteMin_61 : decode cX3_deleteMin 61 = .ok (.getfield 11, 3) := dk_180 0 11 (dk_at dksX3_deleteMin_2 15 rfl rfl)
theorem dX3_deleteMin_64 : decode cX3_deleteMin 64 = .ok (.aload_n 0, 1) := dk_42 (dk_at dksX3_deleteMin_2 18 rfl rfl)
theorem dX3_deleteMin_65 : decode cX3_deleteMin 65 = .ok (.getfield 17, 3) := dk_180 0 17 (dk_at dksX3_deleteMin_2 19 rfl rfl)
theorem dX3_deleteMin_68 : decode cX3_deleteMin 68 = .ok (.aconst_null, 1) := dk_1 (dk_at dksX3_deleteMin_2 22 rfl rfl)
theorem dX3_deleteMin_69 : decode cX3_deleteMin 69 = .ok (.aastore, 1) := dk_83 (dk_at dksX3_deleteMin_2 23 rfl rfl)
theorem dX3_deleteMin_70 : decode cX3_deleteMin 70 = .ok (.aload_n 0, 1) := dk_42 (dk_at dksX3_deleteMin_3 0 rfl rfl)
theorem dX3_deleteMin_71 : decode cX3_deleteMin 71 = .ok (.dup, 1) := dk_89 (dk_at dksX3_deleteMin_3 1 rfl rfl)
theorem dX3_deleteMin_72 : decode cX3_deleteMin 72 = .ok (.getfield 17, 3) := dk_180 0 17 (dk_at dksX3_deleteMin_3 2 rfl rfl)
theorem dX3_deleteMin_75 : decode cX3_deleteMin 75 = .ok (.iconst 1, 1) := dk_4 (dk_at dksX3_deleteMin_3 5 rfl rfl)
theorem dX3_deleteMin_76 : decode cX3_deleteMin 76 = .ok (.isub, 1) := dk_100 (dk_at dksX3_deleteMin_3 6 rfl rfl)
theorem dX3_deleteMin_77 : decode cX3_deleteMin 77 = .ok (.putfield 17, 3) := dk_181 0 17 (dk_at dksX3_deleteMin_3 7 rfl rfl)
theorem dX3_deleteMin_80 : decode cX3_deleteMin 80 = .ok (.aload_n 0, 1) := dk_42 (dk_at dksX3_deleteMin_3 10 rfl rfl)
theorem dX3_deleteMin_81 : decode cX3_deleteMin 81 = .ok (.getfield 37, 3) := dk_180 0 37 (dk_at dksX3_deleteMin_3 11 rfl rfl)
theorem dX3_deleteMin_84 : decode cX3_deleteMin 84 = .ok (.ifnonnull 11, 3) := dk_199 0 11 (dk_at dksX3_deleteMin_3 14 rfl rfl)
theorem dX3_deleteMin_87 : decode cX3_deleteMin 87 = .ok (.aload_n 0, 1) := dk_42 (dk_at dksX3_deleteMin_3 17 rfl rfl)
theorem dX3_deleteMin_88 : decode cX3_deleteMin 88 = .ok (.iconst 1, 1) := dk_4 (dk_at dksX3_deleteMin_3 18 rfl rfl)
theorem dX3_deleteMin_89 : decode cX3_deleteMin 89 = .ok (.invokevirtual 47, 3) := dk_182 0 47 (dk_at dksX3_deleteMin_3 19 rfl rfl)
theorem dX3_deleteMin_92 : decode cX3_deleteMin 92 = .ok (.goto 8, 3) := dk_167 0 8 (dk_at dksX3_deleteMin_4 0 rfl rfl)
theorem dX3_deleteMin_95 : decode cX3_deleteMin 95 = .ok (.aload_n 0, 1) := dk_42 (dk_at dksX3_deleteMin_4 3 rfl rfl)
theorem dX3_deleteMin_96 : decode cX3_deleteMin 96 = .ok (.iconst 1, 1) := dk_4 (dk_at dksX3_deleteMin_4 4 rfl rfl)
theorem dX3_deleteMin_97 : decode cX3_deleteMin 97 = .ok (.invokevirtual 50, 3) := dk_182 0 50 (dk_at dksX3_deleteMin_4 5 rfl rfl)
theorem dX3_deleteMin_100 : decode cX3_deleteMin 100 = .ok (.aload_n 0, 1) := dk_42 (dk_at dksX3_deleteMin_4 8 rfl rfl)
theorem dX3_deleteMin_101 : decode cX3_deleteMin 101 = .ok (.getfield 11, 3) := dk_180 0 11 (dk_at dksX3_deleteMin_4 9 rfl rfl)
theorem dX3_deleteMin_104 : decode cX3_deleteMin 104 = .ok (.arraylength, 1) := dk_190 (dk_at dksX3_deleteMin_4 12 rfl rfl)
theorem dX3_deleteMin_105 : decode cX3_deleteMin 105 = .ok (.iconst 1, 1) := dk_4 (dk_at dksX3_deleteMin_4 13 rfl rfl)
theorem dX3_deleteMin_106 : decode cX3_deleteMin 106 = .ok (.isub, 1) := dk_100 (dk_at dksX3_deleteMin_4 14 rfl rfl)
theorem dX3_deleteMin_107 : decode cX3_deleteMin 107 = .ok (.istore_n 2, 1) := dk_61 (dk_at dksX3_deleteMin_4 15 rfl rfl)
theorem dX3_deleteMin_108 : decode cX3_deleteMin 108 = .ok (.iconst 2, 1) := dk_5 (dk_at dksX3_deleteMin_4 16 rfl rfl)
theorem dX3_deleteMin_109 : decode cX3_deleteMin 109 = .ok (.aload_n 0, 1) := dk_42 (dk_at dksX3_deleteMin_4 17 rfl rfl)
theorem dX3_deleteMin_110 : decode cX3_deleteMin 110 = .ok (.getfield 53, 3) := dk_180 0 53 (dk_at dksX3_deleteMin_4 18 rfl rfl)
theorem dX3_deleteMin_113 : decode cX3_deleteMin 113 = .ok (.imul, 1) := dk_104 (dk_at dksX3_deleteMin_4 21 rfl rfl)
theorem dX3_deleteMin_114 : decode cX3_deleteMin 114 = .ok (.iload_n 2, 1) := dk_28 (dk_at dksX3_deleteMin_4 22 rfl rfl)
theorem dX3_deleteMin_115 : decode cX3_deleteMin 115 = .ok (.if_icmp .gt 20, 3) := dk_163 0 20 (dk_at dksX3_deleteMin_5 0 rfl rfl)
theorem dX3_deleteMin_118 : decode cX3_deleteMin 118 = .ok (.iconst 4, 1) := dk_7 (dk_at dksX3_deleteMin_5 3 rfl rfl)
theorem dX3_deleteMin_119 : decode cX3_deleteMin 119 = .ok (.aload_n 0, 1) := dk_42 (dk_at dksX3_deleteMin_5 4 rfl rfl)
theorem dX3_deleteMin_120 : decode cX3_deleteMin 120 = .ok (.getfield 17, 3) := dk_180 0 17 (dk_at dksX3_deleteMin_5 5 rfl rfl)
theorem dX3_deleteMin_123 : decode cX3_deleteMin 123 = .ok (.imul, 1) := dk_104 (dk_at dksX3_deleteMin_5 8 rfl rfl)
theorem dX3_deleteMin_124 : decode cX3_deleteMin 124 = .ok (.iload_n 2, 1) := dk_28 (dk_at dksX3_deleteMin_5 9 rfl rfl)
theorem dX3_deleteMin_125 : decode cX3_deleteMin 125 = .ok (.if_icmp .ge 10, 3) := dk_162 0 10 (dk_at dksX3_deleteMin_5 10 rfl rfl)
theorem dX3_deleteMin_128 : decode cX3_deleteMin 128 = .ok (.aload_n 0, 1) := dk_42 (dk_at dksX3_deleteMin_5 13 rfl rfl)
theorem dX3_deleteMin_129 : decode cX3_deleteMin 129 = .ok (.iload_n 2, 1) := dk_28 (dk_at dksX3_deleteMin_5 14 rfl rfl)
theorem dX3_deleteMin_130 : decode cX3_deleteMin 130 = .ok (.iconst 2, 1) := dk_5 (dk_at dksX3_deleteMin_5 15 rfl rfl)
theorem dX3_deleteMin_131 : decode cX3_deleteMin 131 = .ok (.idiv, 1) := dk_108 (dk_at dksX3_deleteMin_5 16 rfl rfl)
theorem dX3_deleteMin_132 : decode cX3_deleteMin 132 = .ok (.invokevirtual 33, 3) := dk_182 0 33 (dk_at dksX3_deleteMin_5 17 rfl rfl)
theorem dX3_deleteMin_135 : decode cX3_deleteMin 135 = .ok (.aload_n 1, 1) := dk_43 (dk_at dksX3_deleteMin_5 20 rfl rfl)
theorem dX3_deleteMin_136 : decode cX3_deleteMin 136 = .ok (.areturn, 1) := dk_176 (dk_at dksX3_deleteMin_5 21 rfl rfl)
theorem q5 : (Jvm.Cond.initialized "AbstractArrayHeap") ∈ lw_all := lw_g (lw_at lw_m1 3 rfl) rfl
theorem q39 : (Jvm.Cond.instanceMethod ({ cls := "AbstractArrayHeap", name := "<init>", desc := "(Ljava/util/Comparator;I)V" } : Jvm.MethodName)) ∈ lw_all := lw_g (lw_at lw_m1 37 rfl) rfl
theorem q40 : (Jvm.Cond.code ({ cls := "AbstractArrayHeap", name := "<init>", desc := "(Ljava/util/Comparator;I)V" } : Jvm.MethodName) prog_1_method_1_code (3 : Nat) (Option.none : Option Jvm.ClassFile.FieldType)) ∈ lw_all := lw_g (lw_at lw_m1 38 rfl) rfl
theorem q41 : (Jvm.Cond.methodLink "AbstractArrayHeap" (3 : Nat) ({ cls := "AbstractArrayWeakHeap", name := "<init>", desc := "(Ljava/util/Comparator;I)V" } : Jvm.MethodName)) ∈ lw_all := lw_g (lw_at lw_m1 39 rfl) rfl
theorem q140 : (Jvm.Cond.instanceMethod ({ cls := "AbstractArrayHeap", name := "initCapacity", desc := "(I)V" } : Jvm.MethodName)) ∈ lw_all := lw_g (lw_at lw_m1 138 rfl) rfl
theorem q141 : (Jvm.Cond.code ({ cls := "AbstractArrayHeap", name := "initCapacity", desc := "(I)V" } : Jvm.MethodName) prog_1_method_2_code (2 : Nat) (Option.none : Option Jvm.ClassFile.FieldType)) ∈ lw_all := lw_g (lw_at lw_m1 139 rfl) rfl
theorem q142 : (Jvm.Cond.classLink "AbstractArrayHeap" (9 : Nat) "java/lang/Object") ∈ lw_all := lw_g (lw_at lw_m1 140 rfl) rfl
theorem q145 : (Jvm.Cond.fieldLink "AbstractArrayHeap" (37 : Nat) "AbstractArrayHeap" "comparator" "Ljava/util/Comparator;") ∈ lw_all := lw_g (lw_at lw_m1 143 rfl) rfl
theorem q146 : (Jvm.Cond.sameField "AbstractArrayHeap" "AbstractArrayWeakHeap" "comparator" "Ljava/util/Comparator;") ∈ lw_all := lw_g (lw_at lw_m1 144 rfl) rfl
theorem q149 : (Jvm.Cond.fieldLink "AbstractArrayHeap" (11 : Nat) "AbstractArrayHeap" "array" "[Ljava/lang/Object;") ∈ lw_all := lw_g (lw_at lw_m1 147 rfl) rfl
theorem q150 : (Jvm.Cond.sameField "AbstractArrayHeap" "AbstractArrayWeakHeap" "array" "[Ljava/lang/Object;") ∈ lw_all := lw_g (lw_at lw_m1 148 rfl) rfl
theorem q154 : (Jvm.Cond.fieldLink "AbstractArrayHeap" (17 : Nat) "AbstractArrayHeap" "size" "I") ∈ lw_all := lw_g (lw_at lw_m1 152 rfl) rfl
theorem q155 : (Jvm.Cond.sameField "AbstractArrayHeap" "AbstractArrayWeakHeap" "size" "I") ∈ lw_all := lw_g (lw_at lw_m1 153 rfl) rfl
theorem q159 : (Jvm.Cond.fieldLink "AbstractArrayHeap" (53 : Nat) "AbstractArrayHeap" "minCapacity" "I") ∈ lw_all := lw_g (lw_at lw_m1 157 rfl) rfl
theorem q160 : (Jvm.Cond.sameField "AbstractArrayHeap" "AbstractArrayWeakHeap" "minCapacity" "I") ∈ lw_all := lw_g (lw_at lw_m1 158 rfl) rfl
theorem q209 : (Jvm.Cond.declares ({ cls := "AbstractArrayHeap", name := "insert", desc := "(Ljava/lang/Object;)V" } : Jvm.MethodName)) ∈ lw_tbl := lw_at lw_m1 207 rfl
theorem q211 : (Jvm.Cond.instanceMethod ({ cls := "AbstractArrayHeap", name := "insert", desc := "(Ljava/lang/Object;)V" } : Jvm.MethodName)) ∈ lw_all := lw_g (lw_at lw_m1 209 rfl) rfl
theorem q212 : (Jvm.Cond.code ({ cls := "AbstractArrayHeap", name := "insert", desc := "(Ljava/lang/Object;)V" } : Jvm.MethodName) prog_1_method_4_code (2 : Nat) (Option.none : Option Jvm.ClassFile.FieldType)) ∈ lw_all := lw_g (lw_at lw_m1 210 rfl) rfl
theorem q213 : (Jvm.Cond.classLink "AbstractArrayHeap" (26 : Nat) "java/lang/NullPointerException") ∈ lw_all := lw_g (lw_at lw_m1 211 rfl) rfl
theorem q214 : (Jvm.Cond.stringRef "AbstractArrayHeap" (28 : Nat) "Null keys not permitted") ∈ lw_tbl := lw_at lw_m1 212 rfl
theorem q215 : (Jvm.Cond.methodLink "AbstractArrayHeap" (30 : Nat) ({ cls := "java/lang/NullPointerException", name := "<init>", desc := "(Ljava/lang/String;)V" } : Jvm.MethodName)) ∈ lw_all := lw_g (lw_at lw_m1 213 rfl) rfl
theorem q231 : (Jvm.Cond.methodLink "AbstractArrayHeap" (33 : Nat) ({ cls := "AbstractArrayHeap", name := "ensureCapacity", desc := "(I)V" } : Jvm.MethodName)) ∈ lw_all := lw_g (lw_at lw_m1 229 rfl) rfl
theorem q232 : (Jvm.Cond.sameMethod "AbstractArrayHeap" "AbstractArrayWeakHeap" "ensureCapacity" "(I)V") ∈ lw_all := lw_g (lw_at lw_m1 230 rfl) rfl
theorem q245 : (Jvm.Cond.methodLink "AbstractArrayHeap" (41 : Nat) ({ cls := "AbstractArrayHeap", name := "fixup", desc := "(I)V" } : Jvm.MethodName)) ∈ lw_all := lw_g (lw_at lw_m2 3 rfl) rfl
theorem q246 : (Jvm.Cond.sameMethod "AbstractArrayHeap" "AbstractArrayWeakHeap" "fixup" "(I)V") ∈ lw_all := lw_g (lw_at lw_m2 4 rfl) rfl
theorem q260 : (Jvm.Cond.methodLink "AbstractArrayHeap" (44 : Nat) ({ cls := "AbstractArrayHeap", name := "fixupWithComparator", desc := "(I)V" } : Jvm.MethodName)) ∈ lw_all := lw_g (lw_at lw_m2 18 rfl) rfl
theorem q261 : (Jvm.Cond.sameMethod "AbstractArrayHeap" "AbstractArrayWeakHeap" "fixupWithComparator" "(I)V") ∈ lw_all := lw_g (lw_at lw_m2 19 rfl) rfl
theorem q325 : (Jvm.Cond.declares ({ cls := "AbstractArrayHeap", name := "findMin", desc := "()Ljava/lang/Object;" } : Jvm.MethodName)) ∈ lw_tbl := lw_at lw_m2 83 rfl
theorem q327 : (Jvm.Cond.instanceMethod ({ cls := "AbstractArrayHeap", name := "findMin", desc := "()Ljava/lang/Object;" } : Jvm.MethodName)) ∈ lw_all := lw_g (lw_at lw_m2 85 rfl) rfl
theorem q328 : (Jvm.Cond.code ({ cls := "AbstractArrayHeap", name := "findMin", desc := "()Ljava/lang/Object;" } : Jvm.MethodName) prog_1_method_3_code (1 : Nat) (Option.some (Jvm.ClassFile.FieldType.object "java/lang/Object"))) ∈ lw_all := lw_g (lw_at lw_m2 86 rfl) rfl
theorem q329 : (Jvm.Cond.classLink "AbstractArrayHeap" (21 : Nat) "java/util/NoSuchElementException") ∈ lw_all := lw_g (lw_at lw_m2 87 rfl) rfl
theorem q338 : (Jvm.Cond.methodLink "AbstractArrayHeap" (23 : Nat) ({ cls := "java/util/NoSuchElementException", name := "<init>", desc := "()V" } : Jvm.MethodName)) ∈ lw_all := lw_g (lw_at lw_m2 96 rfl) rfl
theorem q356 : (Jvm.Cond.declares ({ cls := "AbstractArrayHeap", name := "deleteMin", desc := "()Ljava/lang/Object;" } : Jvm.MethodName)) ∈ lw_tbl := lw_at lw_m2 114 rfl
theorem q358 : (Jvm.Cond.instanceMethod ({ cls := "AbstractArrayHeap", name := "deleteMin", desc := "()Ljava/lang/Object;" } : Jvm.MethodName)) ∈ lw_all := lw_g (lw_at lw_m2 116 rfl) rfl
theorem q359 : (Jvm.Cond.code ({ cls := "AbstractArrayHeap", name := "deleteMin", desc := "()Ljava/lang/Object;" } : Jvm.MethodName) prog_1_method_5_code (3 : Nat) (Option.some (Jvm.ClassFile.FieldType.object "java/lang/Object"))) ∈ lw_all := lw_g (lw_at lw_m2 117 rfl) rfl
theorem q360 : (Jvm.Cond.methodLink "AbstractArrayHeap" (47 : Nat) ({ cls := "AbstractArrayHeap", name := "fixdown", desc := "(I)V" } : Jvm.MethodName)) ∈ lw_all := lw_g (lw_at lw_m2 118 rfl) rfl
theorem q361 : (Jvm.Cond.sameMethod "AbstractArrayHeap" "AbstractArrayWeakHeap" "fixdown" "(I)V") ∈ lw_all := lw_g (lw_at lw_m2 119 rfl) rfl
theorem q364 : (Jvm.Cond.methodLink "AbstractArrayHeap" (50 : Nat) ({ cls := "AbstractArrayHeap", name := "fixdownWithComparator", desc := "(I)V" } : Jvm.MethodName)) ∈ lw_all := lw_g (lw_at lw_m2 122 rfl) rfl
theorem q365 : (Jvm.Cond.sameMethod "AbstractArrayHeap" "AbstractArrayWeakHeap" "fixdownWithComparator" "(I)V") ∈ lw_all := lw_g (lw_at lw_m2 123 rfl) rfl
/-! BinaryArrayHeap -/
def RX4 : String := "BinaryArrayHeap"
def TX4 : u_T := fun k => match k with
  | 0 => ("AbstractArrayWeakHeap", "comparator", "Ljava/util/Comparator;", true)
  | 1 => ("AbstractArrayWeakHeap", "array", "[Ljava/lang/Object;", false)
  | 2 => ("AbstractArrayWeakHeap", "size", "I", false)
  | _ => ("AbstractArrayWeakHeap", "minCapacity", "I", true)
def tyX4 : Nat → FieldType := fun k => match k with
  | 0 => .object "java/util/Comparator"
  | 1 => .array (.object "java/lang/Object")
  | 2 => .int
  | _ => .int
abbrev wsX40 : List Cond := u_ws RX4 TX4 4
theorem nmX4 : ∀ a, a < 4 → ∀ b, b < 4 → a ≠ b → (TX4 a).2.1 ≠ (TX4 b).2.1 := by decide +kernel
theorem tyX4_ok : ∀ k, k < 4 → parseFieldDescriptor (TX4 k).2.2.1 = some (tyX4 k) := by decide +kernel
abbrev cX4_init : ByteArray := prog_3_method_1_code
def yX4_init : MethodName := ⟨RX4, "<init>", "()V"⟩
def dkwX4_init_0 : List UInt8 := [42, 1, 16, 16, 183, 0, 3, 177]
abbrev dktX4_init_0 : List UInt8 := dkwX4_init_0 ++ []
theorem dksX4_init_0 : cX4_init.data.toList.drop 0 = dktX4_init_0 := by decide +kernel
theorem dX4_init_0 : decode cX4_init 0 = .ok (.aload_n 0, 1) := dk_42 (dk_at dksX4_init_0 0 rfl rfl)
theorem dX4_init_1 : decode cX4_init 1 = .ok (.aconst_null, 1) := dk_1 (dk_at dksX4_init_0 1 rfl rfl)
theorem dX4_init_2 : decode cX4_init 2 = .ok (.bipush 16, 2) := dk_16 16 (dk_at dksX4_init_0 2 rfl rfl)
theorem dX4_init_4 : decode cX4_init 4 = .ok (.invokespecial 3, 3) := dk_183 0 3 (dk_at dksX4_init_0 4 rfl rfl)
theorem dX4_init_7 : decode cX4_init 7 = .ok (.return_, 1) := dk_177 (dk_at dksX4_init_0 7 rfl rfl)
abbrev cX4_init_2 : ByteArray := prog_3_method_3_code
def yX4_init_2 : MethodName := ⟨RX4, "<init>", "(Ljava/util/Comparator;)V"⟩
def dkwX4_init_2_0 : List UInt8 := [42, 43, 16, 16, 183, 0, 3, 177]
abbrev dktX4_init_2_0 : List UInt8 := dkwX4_init_2_0 ++ []
theorem dksX4_init_2_0 : cX4_init_2.data.toList.drop 0 = dktX4_init_2_0 := by decide +kernel
theorem dX4_init_2_0 : decode cX4_init_2 0 = .ok (.aload_n 0, 1) := dk_42 (dk_at dksX4_init_2_0 0 rfl rfl)
theorem dX4_init_2_1 : decode cX4_init_2 1 = .ok (.aload_n 1, 1) := dk_43 (dk_at dksX4_init_2_0 1 rfl rfl)
theorem dX4_init_2_2 : decode cX4_init_2 2 = .ok (.bipush 16, 2) := dk_16 16 (dk_at dksX4_init_2_0 2 rfl rfl)
theorem dX4_init_2_4 : decode cX4_init_2 4 = .ok (.invokespecial 3, 3) := dk_183 0 3 (dk_at dksX4_init_2_0 4 rfl rfl)
theorem dX4_init_2_7 : decode cX4_init_2 7 = .ok (.return_, 1) := dk_177 (dk_at dksX4_init_2_0 7 rfl rfl)
abbrev cX4_ensureCapacity : ByteArray := prog_3_method_7_code
def yX4_ensureCapacity : MethodName := ⟨RX4, "ensureCapacity", "(I)V"⟩
def dkwX4_ensureCapacity_1 : List UInt8 := [184, 0, 26, 42, 44, 181, 0, 22, 177]
abbrev dktX4_ensureCapacity_1 : List UInt8 := dkwX4_ensureCapacity_1 ++ []
def dkwX4_ensureCapacity_0 : List UInt8 := [42, 27, 182, 0, 46, 27, 4, 96, 189, 0, 49, 77, 42, 180, 0, 22, 4, 44, 4, 42, 180, 0, 32]
abbrev dktX4_ensureCapacity_0 : List UInt8 := dkwX4_ensureCapacity_0 ++ dktX4_ensureCapacity_1
theorem dksX4_ensureCapacity_0 : cX4_ensureCapacity.data.toList.drop 0 = dktX4_ensureCapacity_0 := by decide +kernel
theorem dksX4_ensureCapacity_1 : cX4_ensureCapacity.data.toList.drop 23 = dktX4_ensureCapacity_1 := dk_seg dksX4_ensureCapacity_0 23 rfl rfl
theorem dX4_ensureCapacity_0 : decode cX4_ensureCapacity 0 = .ok (.aload_n 0, 1) := dk_42 (dk_at dksX4_ensureCapacity_0 0 rfl rfl)
theorem dX4_ensureCapacity_1 : decode cX4_ensureCapacity 1 = .ok (.iload_n 1, 1) := dk_27 (dk_at dksX4_ensureCapacity_0 1 rfl rfl)
theorem dX4_ensureCapacity_2 : decode cX4_ensureCapacity 2 = .ok (.invokevirtual 46, 3) := dk_182 0 46 (dk_at dksX4_ensureCapacity_0 2 rfl rfl)
theorem dX4_ensureCapacity_5 : decode cX4_ensureCapacity 5 = .ok (.iload_n 1, 1) := dk_27 (dk_at dksX4_ensureCapacity_0 5 rfl rfl)
theorem dX4_ensureCapacity_6 : decode cX4_ensureCapacity 6 = .ok (.iconst 1, 1) := dk_4 (dk_at dksX4_ensureCapacity_0 6 rfl rfl)
theorem dX4_ensureCapacity_7 : decode cX4_ensureCapacity 7 = .ok (.iadd, 1) := dk_96 (dk_at dksX4_ensureCapacity_0 7 rfl rfl)
theorem dX4_ensureCapacity_8 : decode cX4_ensureCapacity 8 = .ok (.anewarray 49, 3) := dk_189 0 49 (dk_at dksX4_ensureCapacity_0 8 rfl rfl)
theorem dX4_ensureCapacity_11 : decode cX4_ensureCapacity 11 = .ok (.astore_n 2, 1) := dk_77 (dk_at dksX4_ensureCapacity_0 11 rfl rfl)
theorem dX4_ensureCapacity_12 : decode cX4_ensureCapacity 12 = .ok (.aload_n 0, 1) := dk_42 (dk_at dksX4_ensureCapacity_0 12 rfl rfl)
theorem dX4_ensureCapacity_13 : decode cX4_ensureCapacity 13 = .ok (.getfield 22, 3) := dk_180 0 22 (dk_at dksX4_ensureCapacity_0 13 rfl rfl)
theorem dX4_ensureCapacity_16 : decode cX4_ensureCapacity 16 = .ok (.iconst 1, 1) := dk_4 (dk_at dksX4_ensureCapacity_0 16 rfl rfl)
theorem dX4_ensureCapacity_17 : decode cX4_ensureCapacity 17 = .ok (.aload_n 2, 1) := dk_44 (dk_at dksX4_ensureCapacity_0 17 rfl rfl)
theorem dX4_ensureCapacity_18 : decode cX4_ensureCapacity 18 = .ok (.iconst 1, 1) := dk_4 (dk_at dksX4_ensureCapacity_0 18 rfl rfl)
theorem dX4_ensureCapacity_19 : decode cX4_ensureCapacity 19 = .ok (.aload_n 0, 1) := dk_42 (dk_at dksX4_ensureCapacity_0 19 rfl rfl)
theorem dX4_ensureCapacity_20 : decode cX4_ensureCapacity 20 = .ok (.getfield 32, 3) := dk_180 0 32 (dk_at dksX4_ensureCapacity_0 20 rfl rfl)
theorem dX4_ensureCapacity_23 : decode cX4_ensureCapacity 23 = .ok (.invokestatic 26, 3) := dk_184 0 26 (dk_at dksX4_ensureCapacity_1 0 rfl rfl)
theorem dX4_ensureCapacity_26 : decode cX4_ensureCapacity 26 = .ok (.aload_n 0, 1) := dk_42 (dk_at dksX4_ensureCapacity_1 3 rfl rfl)
theorem dX4_ensureCapacity_27 : decode cX4_ensureCapacity 27 = .ok (.aload_n 2, 1) := dk_44 (dk_at dksX4_ensureCapacity_1 4 rfl rfl)
theorem dX4_ensureCapacity_28 : decode cX4_ensureCapacity 28 = .ok (.putfield 22, 3) := dk_181 0 22 (dk_at dksX4_ensureCapacity_1 5 rfl rfl)
theorem dX4_ensureCapacity_31 : decode cX4_ensureCapacity 31 = .ok (.return_, 1) := dk_177 (dk_at dksX4_ensureCapacity_1 8 rfl rfl)
abbrev cX4_fixup : ByteArray := prog_3_method_8_code
def yX4_fixup : MethodName := ⟨RX4, "fixup", "(I)V"⟩
def dkwX4_fixup_2 : List UInt8 := [167, 255, 215, 42, 180, 0, 22, 27, 44, 83, 177]
abbrev dktX4_fixup_2 : List UInt8 := dkwX4_fixup_2 ++ []
def dkwX4_fixup_1 : List UInt8 := [184, 0, 53, 158, 0, 24, 42, 180, 0, 22, 27, 42, 180, 0, 22, 27, 4, 122, 50, 83, 27, 4, 122, 60]
abbrev dktX4_fixup_1 : List UInt8 := dkwX4_fixup_1 ++ dktX4_fixup_2
def dkwX4_fixup_0 : List UInt8 := [42, 180, 0, 22, 27, 50, 77, 27, 4, 164, 0, 42, 42, 180, 0, 22, 27, 4, 122, 50, 192, 0, 51, 44]
abbrev dktX4_fixup_0 : List UInt8 := dkwX4_fixup_0 ++ dktX4_fixup_1
theorem dksX4_fixup_0 : cX4_fixup.data.toList.drop 0 = dktX4_fixup_0 := by decide +kernel
theorem dksX4_fixup_1 : cX4_fixup.data.toList.drop 24 = dktX4_fixup_1 := dk_seg dksX4_fixup_0 24 rfl rfl
theorem dksX4_fixup_2 : cX4_fixup.data.toList.drop 48 = dktX4_fixup_2 := dk_seg dksX4_fixup_1 24 rfl rfl
theorem dX4_fixup_0 : decode cX4_fixup 0 = .ok (.aload_n 0, 1) := dk_42 (dk_at dksX4_fixup_0 0 rfl rfl)
theorem dX4_fixup_1 : decode cX4_fixup 1 = .ok (.getfield 22, 3) := dk_180 0 22 (dk_at dksX4_fixup_0 1 rfl rfl)
theorem dX4_fixup_4 : decode cX4_fixup 4 = .ok (.iload_n 1, 1) := dk_27 (dk_at dksX4_fixup_0 4 rfl rfl)
theorem dX4_fixup_5 : decode cX4_fixup 5 = .ok (.aaload, 1) := dk_50 (dk_at dksX4_fixup_0 5 rfl rfl)
theorem dX4_fixup_6 : decode cX4_fixup 6 = .ok (.astore_n 2, 1) := dk_77 (dk_at dksX4_fixup_0 6 rfl rfl)
theorem dX4_fixup_7 : decode cX4_fixup 7 = .ok (.iload_n 1, 1) := dk_27 (dk_at dksX4_fixup_0 7 rfl rfl)
theorem dX4_fixup_8 : decode cX4_fixup 8 = .ok (.iconst 1, 1) := dk_4 (dk_at dksX4_fixup_0 8 rfl rfl)
theorem dX4_fixup_9 : decode cX4_fixup 9 = .ok (.if_icmp .le 42, 3) := dk_164 0 42 (dk_at dksX4_fixup_0 9 rfl rfl)
theorem dX4_fixup_12 : decode cX4_fixup 12 = .ok (.aload_n 0, 1) := dk_42 (dk_at dksX4_fixup_0 12 rfl rfl)
theorem dX4_fixup_13 : decode cX4_fixup 13 = .ok (.getfield 22, 3) := dk_180 0 22 (dk_at dksX4_fixup_0 13 rfl rfl)
theorem dX4_fixup_16 : decode cX4_fixup 16 = .ok (.iload_n 1, 1) := dk_27 (dk_at dksX4_fixup_0 16 rfl rfl)
theorem dX4_fixup_17 : decode cX4_fixup 17 = .ok (.iconst 1, 1) := dk_4 (dk_at dksX4_fixup_0 17 rfl rfl)
theorem dX4_fixup_18 : decode cX4_fixup 18 = .ok (.ishr, 1) := dk_122 (dk_at dksX4_fixup_0 18 rfl rfl)
theorem dX4_fixup_19 : decode cX4_fixup 19 = .ok (.aaload, 1) := dk_50 (dk_at dksX4_fixup_0 19 rfl rfl)
theorem dX4_fixup_20 : decode cX4_fixup 20 = .ok (.checkcast 51, 3) := dk_192 0 51 (dk_at dksX4_fixup_0 20 rfl rfl)
theorem dX4_fixup_23 : decode cX4_fixup 23 = .ok (.aload_n 2, 1) := dk_44 (dk_at dksX4_fixup_0 23 rfl rfl)
theorem dX4_fixup_24 : decode cX4_fixup 24 = .ok (.invokestatic 53, 3) := dk_184 0 53 (dk_at dksX4_fixup_1 0 rfl rfl)
theorem dX4_fixup_27 : decode cX4_fixup 27 = .ok (.ifCond .le 24, 3) := dk_158 0 24 (dk_at dksX4_fixup_1 3 rfl rfl)
theorem dX4_fixup_30 : decode cX4_fixup 30 = .ok (.aload_n 0, 1) := dk_42 (dk_at dksX4_fixup_1 6 rfl rfl)
theorem dX4_fixup_31 : decode cX4_fixup 31 = .ok (.getfield 22, 3) := dk_180 0 22 (dk_at dksX4_fixup_1 7 rfl rfl)
theorem dX4_fixup_34 : decode cX4_fixup 34 = .ok (.iload_n 1, 1) := dk_27 (dk_at dksX4_fixup_1 10 rfl rfl)
theorem dX4_fixup_35 : decode cX4_fixup 35 = .ok (.aload_n 0, 1) := dk_42 (dk_at dksX4_fixup_1 11 rfl rfl)
theorem dX4_fixup_36 : decode cX4_fixup 36 = .ok (.getfield 22, 3) := dk_180 0 22 (dk_at dksX4_fixup_1 12 rfl rfl)
theorem dX4_fixup_39 : decode cX4_fixup 39 = .ok (.iload_n 1, 1) := dk_27 (dk_at dksX4_fixup_1 15 rfl rfl)
theorem dX4_fixup_40 : decode cX4_fixup 40 = .ok (.iconst 1, 1) := dk_4 (dk_at dksX4_fixup_1 16 rfl rfl)
theorem dX4_fixup_41 : decode cX4_fixup 41 = .ok (.ishr, 1) := dk_122 (dk_at dksX4_fixup_1 17 rfl rfl)
theorem dX4_fixup_42 : decode cX4_fixup 42 = .ok (.aaload, 1) := dk_50 (dk_at dksX4_fixup_1 18 rfl rfl)
theorem dX4_fixup_43 : decode cX4_fixup 43 = .ok (.aastore, 1) := dk_83 (dk_at dksX4_fixup_1 19 rfl rfl)
theorem dX4_fixup_44 : decode cX4_fixup 44 = .ok (.iload_n 1, 1) := dk_27 (dk_at dksX4_fixup_1 20 rfl rfl)
theorem dX4_fixup_45 : decode cX4_fixup 45 = .ok (.iconst 1, 1) := dk_4 (dk_at dksX4_fixup_1 21 rfl rfl)
theorem dX4_fixup_46 : decode cX4_fixup 46 = .ok (.ishr, 1) := dk_122 (dk_at dksX4_fixup_1 22 rfl rfl)
theorem dX4_fixup_47 : decode cX4_fixup 47 = .ok (.istore_n 1, 1) := dk_60 (dk_at dksX4_fixup_1 23 rfl rfl)
theorem dX4_fixup_48 : decode cX4_fixup 48 = .ok (.goto (-41), 3) := dk_167 255 215 (dk_at dksX4_fixup_2 0 rfl rfl)
theorem dX4_fixup_51 : decode cX4_fixup 51 = .ok (.aload_n 0, 1) := dk_42 (dk_at dksX4_fixup_2 3 rfl rfl)
theorem dX4_fixup_52 : decode cX4_fixup 52 = .ok (.getfield 22, 3) := dk_180 0 22 (dk_at dksX4_fixup_2 4 rfl rfl)
theorem dX4_fixup_55 : decode cX4_fixup 55 = .ok (.iload_n 1, 1) := dk_27 (dk_at dksX4_fixup_2 7 rfl rfl)
theorem dX4_fixup_56 : decode cX4_fixup 56 = .ok (.aload_n 2, 1) := dk_44 (dk_at dksX4_fixup_2 8 rfl rfl)
theorem dX4_fixup_57 : decode cX4_fixup 57 = .ok (.aastore, 1) := dk_83 (dk_at dksX4_fixup_2 9 rfl rfl)
theorem dX4_fixup_58 : decode cX4_fixup 58 = .ok (.return_, 1) := dk_177 (dk_at dksX4_fixup_2 10 rfl rfl)
abbrev cX4_fixupWithComparator : ByteArray := prog_3_method_9_code
def yX4_fixupWithComparator : MethodName := ⟨RX4, "fixupWithComparator", "(I)V"⟩
def dkwX4_fixupWithComparator_2 : List UInt8 := [4, 122, 60, 167, 255, 212, 42, 180, 0, 22, 27, 44, 83, 177]
abbrev dktX4_fixupWithComparator_2 : List UInt8 := dkwX4_fixupWithComparator_2 ++ []
def dkwX4_fixupWithComparator_1 : List UInt8 := [44, 185, 0, 63, 3, 0, 158, 0, 24, 42, 180, 0, 22, 27, 42, 180, 0, 22, 27, 4, 122, 50, 83, 27]
abbrev dktX4_fixupWithComparator_1 : List UInt8 := dkwX4_fixupWithComparator_1 ++ dktX4_fixupWithComparator_2
def dkwX4_fixupWithComparator_0 : List UInt8 := [42, 180, 0, 22, 27, 50, 77, 27, 4, 164, 0, 45, 42, 180, 0, 59, 42, 180, 0, 22, 27, 4, 122, 50]
abbrev dktX4_fixupWithComparator_0 : List UInt8 := dkwX4_fixupWithComparator_0 ++ dktX4_fixupWithComparator_1
theorem dksX4_fixupWithComparator_0 : cX4_fixupWithComparator.data.toList.drop 0 = dktX4_fixupWithComparator_0 := by decide +kernel
theorem dksX4_fixupWithComparator_1 : cX4_fixupWithComparator.data.toList.drop 24 = dktX4_fixupWithComparator_1 := dk_seg dksX4_fixupWithComparator_0 24 rfl rfl
theorem dksX4_fixupWithComparator_2 : cX4_fixupWithComparator.data.toList.drop 48 = dktX4_fixupWithComparator_2 := dk_seg dksX4_fixupWithComparator_1 24 rfl rfl
theorem dX4_fixupWithComparator_0 : decode cX4_fixupWithComparator 0 = .ok (.aload_n 0, 1) := dk_42 (dk_at dksX4_fixupWithComparator_0 0 rfl rfl)
theorem dX4_fixupWithComparator_1 : decode cX4_fixupWithComparator 1 = .ok (.getfield 22, 3) := dk_180 0 22 (dk_at dksX4_fixupWithComparator_0 1 rfl rfl)
theorem dX4_fixupWithComparator_4 : decode cX4_fixupWithComparator 4 = .ok (.iload_n 1, 1) := dk_27 (dk_at dksX4_fixupWithComparator_0 4 rfl rfl)
theorem dX4_fixupWithComparator_5 : decode cX4_fixupWithComparator 5 = .ok (.aaload, 1) := dk_50 (dk_at dksX4_fixupWithComparator_0 5 rfl rfl)
theorem dX4_fixupWithComparator_6 : decode cX4_fixupWithComparator 6 = .ok (.astore_n 2, 1) := dk_77 (dk_at dksX4_fixupWithComparator_0 6 rfl rfl)
theorem dX4_fixupWithComparator_7 : decode cX4_fixupWithComparator 7 = .ok (.iload_n 1, 1) := dk_27 (dk_at dksX4_fixupWithComparator_0 7 rfl rfl)
theorem dX4_fixupWithComparator_8 : decode cX4_fixupWithComparator 8 = .ok (.iconst 1, 1) := dk_4 (dk_at dksX4_fixupWithComparator_0 8 rfl rfl)
theorem dX4_fixupWithComparator_9 : decode cX4_fixupWithComparator 9 = .ok (.if_icmp .le 45, 3) := dk_164 0 45 (dk_at dksX4_fixupWithComparator_0 9 rfl rfl)
theorem dX4_fixupWithComparator_12 : decode cX4_fixupWithComparator 12 = .ok (.aload_n 0, 1) := dk_42 (dk_at dksX4_fixupWithComparator_0 12 rfl rfl)
theorem dX4_fixupWithComparator_13 : decode cX4_fixupWithComparator 13 = .ok (.getfield 59, 3) := dk_180 0 59 (dk_at dksX4_fixupWithComparator_0 13 rfl rfl)
theorem dX4_fixupWithComparator_16 : decode cX4_fixupWithComparator 16 = .ok (.aload_n 0, 1) := dk_42 (dk_at dksX4_fixupWithComparator_0 16 rfl rfl)
theorem dX4_fixupWithComparator_17 : decode cX4_fixupWithComparator 17 = .ok (.getfield 22, 3) := dk_180 0 22 (dk_at dksX4_fixupWithComparator_0 17 rfl rfl)
theorem dX4_fixupWithComparator_20 : decode cX4_fixupWithComparator 20 = .ok (.iload_n 1, 1) := dk_27 (dk_at dksX4_fixupWithComparator_0 20 rfl rfl)
theorem dX4_fixupWithComparator_21 : decode cX4_fixupWithComparator 21 = .ok (.iconst 1, 1) := dk_4 (dk_at dksX4_fixupWithComparator_0 21 rfl rfl)
theorem dX4_fixupWithComparator_22 : decode cX4_fixupWithComparator 22 = .ok (.ishr, 1) := dk_122 (dk_at dksX4_fixupWithComparator_0 22 rfl rfl)
theorem dX4_fixupWithComparator_23 : decode cX4_fixupWithComparator 23 = .ok (.aaload, 1) := dk_50 (dk_at dksX4_fixupWithComparator_0 23 rfl rfl)
theorem dX4_fixupWithComparator_24 : decode cX4_fixupWithComparator 24 = .ok (.aload_n 2, 1) := dk_44 (dk_at dksX4_fixupWithComparator_1 0 rfl rfl)
theorem dX4_fixupWithComparator_25 : decode cX4_fixupWithComparator 25 = .ok (.invokeinterface 63 3, 5) := by decide +kernel
theorem dX4_fixupWithComparator_30 : decode cX4_fixupWithComparator 30 = .ok (.ifCond .le 24, 3) := dk_158 0 24 (dk_at dksX4_fixupWithComparator_1 6 rfl rfl)
theorem dX4_fixupWithComparator_33 : decode cX4_fixupWithComparator 33 = .ok (.aload_n 0, 1) := dk_42 (dk_at dksX4_fixupWithComparator_1 9 rfl rfl)
theorem dX4_fixupWithComparator_34 : decode cX4_fixupWithComparator 34 = .ok (.getfield 22, 3) := dk_180 0 22 (dk_at dksX4_fixupWithComparator_1 10 rfl rfl)
theorem dX4_fixupWithComparator_37 : decode cX4_fixupWithComparator 37 = .ok (.iload_n 1, 1) := dk_27 (dk_at dksX4_fixupWithComparator_1 13 rfl rfl)
theorem dX4_fixupWithComparator_38 : decode cX4_fixupWithComparator 38 = .ok (.aload_n 0, 1) := dk_42 (dk_at dksX4_fixupWithComparator_1 14 rfl rfl)
theorem dX4_fixupWithComparator_39 : decode cX4_fixupWithComparator 39 = .ok (.getfield 22, 3) := dk_180 0 22 (dk_at dksX4_fixupWithComparator_1 15 rfl rfl)
theorem dX4_fixupWithComparator_42 : decode cX4_fixupWithComparator 42 = .ok (.iload_n 1, 1) := dk_27 (dk_at dksX4_fixupWithComparator_1 18 rfl rfl)
theorem dX4_fixupWithComparator_43 : decode cX4_fixupWithComparator 43 = .ok (.iconst 1, 1) := dk_4 (dk_at dksX4_fixupWithComparator_1 19 rfl rfl)
theorem dX4_fixupWithComparator_44 : decode cX4_fixupWithComparator 44 = .ok (.ishr, 1) := dk_122 (dk_at dksX4_fixupWithComparator_1 20 rfl rfl)
theorem dX4_fixupWithComparator_45 : decode cX4_fixupWithComparator 45 = .ok (.aaload, 1) := dk_50 (dk_at dksX4_fixupWithComparator_1 21 rfl rfl)
theorem dX4_fixupWithComparator_46 : decode cX4_fixupWithComparator 46 = .ok (.aastore, 1) := dk_83 (dk_at dksX4_fixupWithComparator_1 22 rfl rfl)
theorem dX4_fixupWithComparator_47 : decode cX4_fixupWithComparator 47 = .ok (.iload_n 1, 1) := dk_27 (dk_at dksX4_fixupWithComparator_1 23 rfl rfl)
theorem dX4_fixupWithComparator_48 : decode cX4_fixupWithComparator 48 = .ok (.iconst 1, 1) := dk_4 (dk_at dksX4_fixupWithComparator_2 0 rfl rfl)
theorem dX4_fixupWithComparator_49 : decode cX4_fixupWithComparator 49 = .ok (.ishr, 1) := dk_122 (dk_at dksX4_fixupWithComparator_2 1 rfl rfl)
theorem dX4_fixupWithComparator_50 : decode cX4_fixupWithComparator 50 = .ok (.istore_n 1, 1) := dk_60 (dk_at dksX4_fixupWithComparator_2 2 rfl rfl)
theorem dX4_fixupWithComparator_51 : decode cX4_fixupWithComparator 51 = .ok (.goto (-44), 3) := dk_167 255 212 (dk_at dksX4_fixupWithComparator_2 3 rfl rfl)
theorem dX4_fixupWithComparator_54 : decode cX4_fixupWithComparator 54 = .ok (.aload_n 0, 1) := dk_42 (dk_at dksX4_fixupWithComparator_2 6 rfl rfl)
theorem dX4_fixupWithComparator_55 : decode cX4_fixupWithComparator 55 = .ok (.getfield 22, 3) := dk_180 0 22 (dk_at dksX4_fixupWithComparator_2 7 rfl rfl)
theorem dX4_fixupWithComparator_58 : decode cX4_fixupWithComparator 58 = .ok (.iload_n 1, 1) := dk_27 (dk_at dksX4_fixupWithComparator_2 10 rfl rfl)
theorem dX4_fixupWithComparator_59 : decode cX4_fixupWithComparator 59 = .ok (.aload_n 2, 1) := dk_44 (dk_at dksX4_fixupWithComparator_2 11 rfl rfl)
theorem dX4_fixupWithComparator_60 : decode cX4_fixupWithComparator 60 = .ok (.aastore, 1) := dk_83 (dk_at dksX4_fixupWithComparator_2 12 rfl rfl)
theorem dX4_fixupWithComparator_61 : decode cX4_fixupWithComparator 61 = .ok (.return_, 1) := dk_177 (dk_at dksX4_fixupWithComparator_2 13 rfl rfl)
abbrev cX4_heapify : ByteArray := prog_3_method_5_code
def yX4_heapify : MethodName := ⟨RX4, "heapify", "([Ljava/lang/Object;)LBinaryArrayHeap;"⟩
def dkwX4_heapify_3 : List UInt8 := [132, 2, 255, 167, 255, 244, 43, 176]
abbrev dktX4_heapify_3 : List UInt8 := dkwX4_heapify_3 ++ []
def dkwX4_heapify_2 : List UInt8 := [184, 0, 26, 43, 42, 190, 181, 0, 32, 42, 190, 5, 108, 61, 28, 158, 0, 14, 43, 28, 182, 0, 36]
abbrev dktX4_heapify_2 : List UInt8 := dkwX4_heapify_2 ++ dktX4_heapify_3
def dkwX4_heapify_1 : List UInt8 := [183, 0, 16, 176, 187, 0, 1, 89, 42, 190, 183, 0, 19, 76, 42, 3, 43, 180, 0, 22, 4, 42, 190]
abbrev dktX4_heapify_1 : List UInt8 := dkwX4_heapify_1 ++ dktX4_heapify_2
def dkwX4_heapify_0 : List UInt8 := [42, 199, 0, 13, 187, 0, 9, 89, 18, 11, 183, 0, 13, 191, 42, 190, 154, 0, 11, 187, 0, 1, 89]
abbrev dktX4_heapify_0 : List UInt8 := dkwX4_heapify_0 ++ dktX4_heapify_1
theorem dksX4_heapify_0 : cX4_heapify.data.toList.drop 0 = dktX4_heapify_0 := by decide +kernel
theorem dksX4_heapify_1 : cX4_heapify.data.toList.drop 23 = dktX4_heapify_1 := dk_seg dksX4_heapify_0 23 rfl rfl
theorem dksX4_heapify_2 : cX4_heapify.data.toList.drop 46 = dktX4_heapify_2 := dk_seg dksX4_heapify_1 23 rfl rfl
theorem dksX4_heapify_3 : cX4_heapify.data.toList.drop 69 = dktX4_heapify_3 := dk_seg dksX4_heapify_2 23 rfl rfl
theorem dX4_heapify_0 : decode cX4_heapify 0 = .ok (.aload_n 0, 1) := dk_42 (dk_at dksX4_heapify_0 0 rfl rfl)
theorem dX4_heapify_1 : decode cX4_heapify 1 = .ok (.ifnonnull 13, 3) := dk_199 0 13 (dk_at dksX4_heapify_0 1 rfl rfl)
theorem dX4_heapify_4 : decode cX4_heapify 4 = .ok (.new 9, 3) := dk_187 0 9 (dk_at dksX4_heapify_0 4 rfl rfl)
theorem dX4_heapify_7 : decode cX4_heapify 7 = .ok (.dup, 1) := dk_89 (dk_at dksX4_heapify_0 7 rfl rfl)
theorem dX4_heapify_8 : decode cX4_heapify 8 = .ok (.ldc 11, 2) := dk_18 11 (dk_at dksX4_heapify_0 8 rfl rfl)
theorem dX4_heapify_10 : decode cX4_heapify 10 = .ok (.invokespecial 13, 3) := dk_183 0 13 (dk_at dksX4_heapify_0 10 rfl rfl)
theorem dX4_heapify_13 : decode cX4_heapify 13 = .ok (.athrow, 1) := dk_191 (dk_at dksX4_heapify_0 13 rfl rfl)
theorem dX4_heapify_14 : decode cX4_heapify 14 = .ok (.aload_n 0, 1) := dk_42 (dk_at dksX4_heapify_0 14 rfl rfl)
theorem dX4_heapify_15 : decode cX4_heapify 15 = .ok (.arraylength, 1) := dk_190 (dk_at dksX4_heapify_0 15 rfl rfl)
theorem dX4_heapify_16 : decode cX4_heapify 16 = .ok (.ifCond .ne 11, 3) := dk_154 0 11 (dk_at dksX4_heapify_0 16 rfl rfl)
theorem dX4_heapify_19 : decode cX4_heapify 19 = .ok (.new 1, 3) := dk_187 0 1 (dk_at dksX4_heapify_0 19 rfl rfl)
theorem dX4_heapify_22 : decode cX4_heapify 22 = .ok (.dup, 1) := dk_89 (dk_at dksX4_heapify_0 22 rfl rfl)
theorem dX4_heapify_23 : decode cX4_heapify 23 = .ok (.invokespecial 16, 3) := dk_183 0 16 (dk_at dksX4_heapify_1 0 rfl rfl)
theorem dX4_heapify_26 : decode cX4_heapify 26 = .ok (.areturn, 1) := dk_176 (dk_at dksX4_heapify_1 3 rfl rfl)
theorem dX4_heapify_27 : decode cX4_heapify 27 = .ok (.new 1, 3) := dk_187 0 1 (dk_at dksX4_heapify_1 4 rfl rfl)
theorem dX4_heapify_30 : decode cX4_heapify 30 = .ok (.dup, 1) := dk_89 (dk_at dksX4_heapify_1 7 rfl rfl)
theorem dX4_heapify_31 : decode cX4_heapify 31 = .ok (.aload_n 0, 1) := dk_42 (dk_at dksX4_heapify_1 8 rfl rfl)
theorem dX4_heapify_32 : decode cX4_heapify 32 = .ok (.arraylength, 1) := dk_190 (dk_at dksX4_heapify_1 9 rfl rfl)
theorem dX4_heapify_33 : decode cX4_heapify 33 = .ok (.invokespecial 19, 3) := dk_183 0 19 (dk_at dksX4_heapify_1 10 rfl rfl)
theorem dX4_heapify_36 : decode cX4_heapify 36 = .ok (.astore_n 1, 1) := dk_76 (dk_at dksX4_heapify_1 13 rfl rfl)
theorem dX4_heapify_37 : decode cX4_heapify 37 = .ok (.aload_n 0, 1) := dk_42 (dk_at dksX4_heapify_1 14 rfl rfl)
theorem dX4_heapify_38 : decode cX4_heapify 38 = .ok (.iconst 0, 1) := dk_3 (dk_at dksX4_heapify_1 15 rfl rfl)
theorem dX4_heapify_39 : decode cX4_heapify 39 = .ok (.aload_n 1, 1) := dk_43 (dk_at dksX4_heapify_1 16 rfl rfl)
theorem dX4_heapify_40 : decode cX4_heapify 40 = .ok (.getfield 22, 3) := dk_180 0 22 (dk_at dksX4_heapify_1 17 rfl rfl)
theorem dX4_heapify_43 : decode cX4_heapify 43 = .ok (.iconst 1, 1) := dk_4 (dk_at dksX4_heapify_1 20 rfl rfl)
theorem dX4_heapify_44 : decode cX4_heapify 44 = .ok (.aload_n 0, 1) := dk_42 (dk_at dksX4_heapify_1 21 rfl rfl)
theorem dX4_heapify_45 : decode cX4_heapify 45 = .ok (.arraylength, 1) := dk_190 (dk_at dksX4_heapify_1 22 rfl rfl)
theorem dX4_heapify_46 : decode cX4_heapify 46 = .ok (.invokestatic 26, 3) := dk_184 0 26 (dk_at dksX4_heapify_2 0 rfl rfl)
theorem dX4_heapify_49 : decode cX4_heapify 49 = .ok (.aload_n 1, 1) := dk_43 (dk_at dksX4_heapify_2 3 rfl rfl)
theorem dX4_heapify_50 : decode cX4_heapify 50 = .ok (.aload_n 0, 1) := dk_42 (dk_at dksX4_heapify_2 4 rfl rfl)
theorem dX4_heapify_51 : decode cX4_heapify 51 = .ok (.arraylength, 1) := dk_190 (dk_at dksX4_heapify_2 5 rfl rfl)
theorem dX4_heapify_52 : decode cX4_heapify 52 = .ok (.putfield 32, 3) := dk_181 0 32 (dk_at dksX4_heapify_2 6 rfl rfl)
theorem dX4_heapify_55 : decode cX4_heapify 55 = .ok (.aload_n 0, 1) := dk_42 (dk_at dksX4_heapify_2 9 rfl rfl)
theorem dX4_heapify_56 : decode cX4_heapify 56 = .ok (.arraylength, 1) := dk_190 (dk_at dksX4_heapify_2 10 rfl rfl)
theorem dX4_heapify_57 : decode cX4_heapify 57 = .ok (.iconst 2, 1) := dk_5 (dk_at dksX4_heapify_2 11 rfl rfl)
theorem dX4_heapify_58 : decode cX4_heapify 58 = .ok (.idiv, 1) := dk_108 (dk_at dksX4_heapify_2 12 rfl rfl)
theorem dX4_heapify_59 : decode cX4_heapify 59 = .ok (.istore_n 2, 1) := dk_61 (dk_at dksX4_heapify_2 13 rfl rfl)
theorem dX4_heapify_60 : decode cX4_heapify 60 = .ok (.iload_n 2, 1) := dk_28 (dk_at dksX4_heapify_2 14 rfl rfl)
theorem dX4_heapify_61 : decode cX4_heapify 61 = .ok (.ifCond .le 14, 3) := dk_158 0 14 (dk_at dksX4_heapify_2 15 rfl rfl)
theorem dX4_heapify_64 : decode cX4_heapify 64 = .ok (.aload_n 1, 1) := dk_43 (dk_at dksX4_heapify_2 18 rfl rfl)
theorem dX4_heapify_65 : decode cX4_heapify 65 = .ok (.iload_n 2, 1) := dk_28 (dk_at dksX4_heapify_2 19 rfl rfl)
theorem dX4_heapify_66 : decode cX4_heapify 66 = .ok (.invokevirtual 36, 3) := dk_182 0 36 (dk_at dksX4_heapify_2 20 rfl rfl)
theorem dX4_heapify_69 : decode cX4_heapify 69 = .ok (.iinc 2 (-1), 3) := dk_132 2 255 (dk_at dksX4_heapify_3 0 rfl rfl)
theorem dX4_heapify_72 : decode cX4_heapify 72 = .ok (.goto (-12), 3) := dk_167 255 244 (dk_at dksX4_heapify_3 3 rfl rfl)
theorem dX4_heapify_75 : decode cX4_heapify 75 = .ok (.aload_n 1, 1) := dk_43 (dk_at dksX4_heapify_3 6 rfl rfl)
theorem dX4_heapify_76 : decode cX4_heapify 76 = .ok (.areturn, 1) := dk_176 (dk_at dksX4_heapify_3 7 rfl rfl)
abbrev cX4_init_3 : ByteArray := prog_3_method_2_code
def yX4_init_3 : MethodName := ⟨RX4, "<init>", "(I)V"⟩
def dkwX4_init_3_0 : List UInt8 := [42, 1, 27, 183, 0, 3, 177]
abbrev dktX4_init_3_0 : List UInt8 := dkwX4_init_3_0 ++ []
theorem dksX4_init_3_0 : cX4_init_3.data.toList.drop 0 = dktX4_init_3_0 := by decide +kernel
theorem dX4_init_3_0 : decode cX4_init_3 0 = .ok (.aload_n 0, 1) := dk_42 (dk_at dksX4_init_3_0 0 rfl rfl)
theorem dX4_init_3_1 : decode cX4_init_3 1 = .ok (.aconst_null, 1) := dk_1 (dk_at dksX4_init_3_0 1 rfl rfl)
theorem dX4_init_3_2 : decode cX4_init_3 2 = .ok (.iload_n 1, 1) := dk_27 (dk_at dksX4_init_3_0 2 rfl rfl)
theorem dX4_init_3_3 : decode cX4_init_3 3 = .ok (.invokespecial 3, 3) := dk_183 0 3 (dk_at dksX4_init_3_0 3 rfl rfl)
theorem dX4_init_3_6 : decode cX4_init_3 6 = .ok (.return_, 1) := dk_177 (dk_at dksX4_init_3_0 6 rfl rfl)
abbrev cX4_fixdown : ByteArray := prog_3_method_10_code
def yX4_fixdown : MethodName := ⟨RX4, "fixdown", "(I)V"⟩
def dkwX4_fixdown_4 : List UInt8 := [180, 0, 22, 27, 44, 83, 177]
abbrev dktX4_fixdown_4 : List UInt8 := dkwX4_fixdown_4 ++ []
def dkwX4_fixdown_3 : List UInt8 := [157, 0, 6, 167, 0, 20, 42, 180, 0, 22, 27, 42, 180, 0, 22, 29, 50, 83, 29, 60, 167, 255, 175, 42]
abbrev dktX4_fixdown_3 : List UInt8 := dkwX4_fixdown_3 ++ dktX4_fixdown_4
def dkwX4_fixdown_2 : List UInt8 := [184, 0, 53, 158, 0, 6, 132, 3, 1, 44, 192, 0, 51, 42, 180, 0, 22, 29, 50, 184, 0, 53]
abbrev dktX4_fixdown_2 : List UInt8 := dkwX4_fixdown_2 ++ dktX4_fixdown_3
def dkwX4_fixdown_1 : List UInt8 := [180, 0, 32, 162, 0, 29, 42, 180, 0, 22, 29, 50, 192, 0, 51, 42, 180, 0, 22, 29, 4, 96, 50]
abbrev dktX4_fixdown_1 : List UInt8 := dkwX4_fixdown_1 ++ dktX4_fixdown_2
def dkwX4_fixdown_0 : List UInt8 := [42, 180, 0, 22, 27, 50, 77, 5, 27, 104, 42, 180, 0, 32, 163, 0, 77, 5, 27, 104, 62, 29, 42]
abbrev dktX4_fixdown_0 : List UInt8 := dkwX4_fixdown_0 ++ dktX4_fixdown_1
theorem dksX4_fixdown_0 : cX4_fixdown.data.toList.drop 0 = dktX4_fixdown_0 := by decide +kernel
theorem dksX4_fixdown_1 : cX4_fixdown.data.toList.drop 23 = dktX4_fixdown_1 := dk_seg dksX4_fixdown_0 23 rfl rfl
theorem dksX4_fixdown_2 : cX4_fixdown.data.toList.drop 46 = dktX4_fixdown_2 := dk_seg dksX4_fixdown_1 23 rfl rfl
theorem dksX4_fixdown_3 : cX4_fixdown.data.toList.drop 68 = dktX4_fixdown_3 := dk_seg dksX4_fixdown_2 22 rfl rfl
theorem dksX4_fixdown_4 : cX4_fixdown.data.toList.drop 92 = dktX4_fixdown_4 := dk_seg dksX4_fixdown_3 24 rfl rfl
theorem dX4_fixdown_0 : decode cX4_fixdown 0 = .ok (.aload_n 0, 1) := dk_42 (dk_at dksX4_fixdown_0 0 rfl rfl)
theorem dX4_fixdown_1 : decode cX4_fixdown 1 = .ok (.getfield 22, 3) := dk_180 0 22 (dk_at dksX4_fixdown_0 1 rfl rfl)
theorem dX4_fixdown_4 : decode cX4_fixdown 4 = .ok (.iload_n 1, 1) := dk_27 (dk_at dksX4_fixdown_0 4 rfl rfl)
theorem dX4_fixdown_5 : decode cX4_fixdown 5 = .ok (.aaload, 1) := dk_50 (dk_at dksX4_fixdown_0 5 rfl rfl)
theorem dX4_fixdown_6 : decode cX4_fixdown 6 = .ok (.astore_n 2, 1) := dk_77 (dk_at dksX4_fixdown_0 6 rfl rfl)
theorem dX4_fixdown_7 : decode cX4_fixdown 7 = .ok (.iconst 2, 1) := dk_5 (dk_at dksX4_fixdown_0 7 rfl rfl)
theorem dX4_fixdown_8 : decode cX4_fixdown 8 = .ok (.iload_n 1, 1) := dk_27 (dk_at dksX4_fixdown_0 8 rfl rfl)
theorem dX4_fixdown_9 : decode cX4_fixdown 9 = .ok (.imul, 1) := dk_104 (dk_at dksX4_fixdown_0 9 rfl rfl)
theorem dX4_fixdown_10 : decode cX4_fixdown 10 = .ok (.aload_n 0, 1) := dk_42 (dk_at dksX4_fixdown_0 10 rfl rfl)
theorem dX4_fixdown_11 : decode cX4_fixdown 11 = .ok (.getfield 32, 3) := dk_180 0 32 (dk_at dksX4_fixdown_0 11 rfl rfl)
theorem dX4_fixdown_14 : decode cX4_fixdown 14 = .ok (.if_icmp .gt 77, 3) := dk_163 0 77 (dk_at dksX4_fixdown_0 14 rfl rfl)
theorem dX4_fixdown_17 : decode cX4_fixdown 17 = .ok (.iconst 2, 1) := dk_5 (dk_at dksX4_fixdown_0 17 rfl rfl)
theorem dX4_fixdown_18 : decode cX4_fixdown 18 = .ok (.iload_n 1, 1) := dk_27 (dk_at dksX4_fixdown_0 18 rfl rfl)
theorem dX4_fixdown_19 : decode cX4_fixdown 19 = .ok (.imul, 1) := dk_104 (dk_at dksX4_fixdown_0 19 rfl rfl)
theorem dX4_fixdown_20 : decode cX4_fixdown 20 = .ok (.istore_n 3, 1) := dk_62 (dk_at dksX4_fixdown_0 20 rfl rfl)
theorem dX4_fixdown_21 : decode cX4_fixdown 21 = .ok (.iload_n 3, 1) := dk_29 (dk_at dksX4_fixdown_0 21 rfl rfl)
theorem dX4_fixdown_22 : decode cX4_fixdown 22 = .ok (.aload_n 0, 1) := dk_42 (dk_at dksX4_fixdown_0 22 rfl rfl)
theorem dX4_fixdown_23 : decode cX4_fixdown 23 = .ok (.getfield 32, 3) := dk_180 0 32 (dk_at dksX4_fixdown_1 0 rfl rfl)
theorem dX4_fixdown_26 : decode cX4_fixdown 26 = .ok (.if_icmp .ge 29, 3) := dk_162 0 29 (dk_at dksX4_fixdown_1 3 rfl rfl)
theorem dX4_fixdown_29 : decode cX4_fixdown 29 = .ok (.aload_n 0, 1) := dk_42 (dk_at dksX4_fixdown_1 6 rfl rfl)
theorem dX4_fixdown_30 : decode cX4_fixdown 30 = .ok (.getfield 22, 3) := dk_180 0 22 (dk_at dksX4_fixdown_1 7 rfl rfl)
theorem dX4_fixdown_33 : decode cX4_fixdown 33 = .ok (.iload_n 3, 1) := dk_29 (dk_at dksX4_fixdown_1 10 rfl rfl)
theorem dX4_fixdown_34 : decode cX4_fixdown 34 = .ok (.aaload, 1) := dk_50 (dk_at dksX4_fixdown_1 11 rfl rfl)
theorem dX4_fixdown_35 : decode cX4_fixdown 35 = .ok (.checkcast 51, 3) := dk_192 0 51 (dk_at dksX4_fixdown_1 12 rfl rfl)
theorem dX4_fixdown_38 : decode cX4_fixdown 38 = .ok (.aload_n 0, 1) := dk_42 (dk_at dksX4_fixdown_1 15 rfl rfl)
theorem dX4_fixdown_39 : decode cX4_fixdown 39 = .ok (.getfield 22, 3) := dk_180 0 22 (dk_at dksX4_fixdown_1 16 rfl rfl)
theorem dX4_fixdown_42 : decode cX4_fixdown 42 = .ok (.iload_n 3, 1) := dk_29 (dk_at dksX4_fixdown_1 19 rfl rfl)
theorem dX4_fixdown_43 : decode cX4_fixdown 43 = .ok (.iconst 1, 1) := dk_4 (dk_at dksX4_fixdown_1 20 rfl rfl)
theorem dX4_fixdown_44 : decode cX4_fixdown 44 = .ok (.iadd, 1) := dk_96 (dk_at dksX4_fixdown_1 21 rfl rfl)
theorem dX4_fixdown_45 : decode cX4_fixdown 45 = .ok (.aaload, 1) := dk_50 (dk_at dksX4_fixdown_1 22 rfl rfl)
theorem dX4_fixdown_46 : decode cX4_fixdown 46 = .ok (.invokestatic 53, 3) := dk_184 0 53 (dk_at dksX4_fixdown_2 0 rfl rfl)
theorem dX4_fixdown_49 : decode cX4_fixdown 49 = .ok (.ifCond .le 6, 3) := dk_158 0 6 (dk_at dksX4_fixdown_2 3 rfl rfl)
theorem dX4_fixdown_52 : decode cX4_fixdown 52 = .ok (.iinc 3 1, 3) := dk_132 3 1 (dk_at dksX4_fixdown_2 6 rfl rfl)
theorem dX4_fixdown_55 : decode cX4_fixdown 55 = .ok (.aload_n 2, 1) := dk_44 (dk_at dksX4_fixdown_2 9 rfl rfl)
theorem dX4_fixdown_56 : decode cX4_fixdown 56 = .ok (.checkcast 51, 3) := dk_192 0 51 (dk_at dksX4_fixdown_2 10 rfl rfl)
theorem dX4_fixdown_59 : decode cX4_fixdown 59 = .ok (.aload_n 0, 1) := dk_42 (dk_at dksX4_fixdown_2 13 rfl rfl)
theorem dX4_fixdown_60 : decode cX4_fixdown 60 = .ok (.getfield 22, 3) := dk_180 0 22 (dk_at dksX4_fixdown_2 14 rfl rfl)
theorem dX4_fixdown_63 : decode cX4_fixdown 63 = .ok (.iload_n 3, 1) := dk_29 (dk_at dksX4_fixdown_2 17 rfl rfl)
theorem dX4_fixdown_64 : decode cX4_fixdown 64 = .ok (.aaload, 1) := dk_50 (dk_at dksX4_fixdown_2 18 rfl rfl)
theorem dX4_fixdown_65 : decode cX4_fixdown 65 = .ok (.invokestatic 53, 3) := dk_184 0 53 (dk_at dksX4_fixdown_2 19 rfl rfl)
theorem dX4_fixdown_68 : decode cX4_fixdown 68 = .ok (.ifCond .gt 6, 3) := dk_157 0 6 (dk_at dksX4_fixdown_3 0 rfl rfl)
theorem dX4_fixdown_71 : decode cX4_fixdown 71 = .ok (.goto 20, 3) := dk_167 0 20 (dk_at dksX4_fixdown_3 3 rfl rfl)
theorem dX4_fixdown_74 : decode cX4_fixdown 74 = .ok (.aload_n 0, 1) := dk_42 (dk_at dksX4_fixdown_3 6 rfl rfl)
theorem dX4_fixdown_75 : decode cX4_fixdown 75 = .ok (.getfield 22, 3) := dk_180 0 22 (dk_at dksX4_fixdown_3 7 rfl rfl)
theorem dX4_fixdown_78 : decode cX4_fixdown 78 = .ok (.iload_n 1, 1) := dk_27 (dk_at dksX4_fixdown_3 10 rfl rfl)
theorem dX4_fixdown_79 : decode cX4_fixdown 79 = .ok (.aload_n 0, 1) := dk_42 (dk_at dksX4_fixdown_3 11 rfl rfl)
theorem dX4_fixdown_80 : decode cX4_fixdown 80 = .ok (.getfield 22, 3) := dk_180 0 22 (dk_at dksX4_fixdown_3 12 rfl rfl)
theorem dX4_fixdown_83 : decode cX4_fixdown 83 = .ok (.iload_n 3, 1) := dk_29 (dk_at dksX4_fixdown_3 15 rfl rfl)
theorem dX4_fixdown_84 : decode cX4_fixdown 84 = .ok (.aaload, 1) := dk_50 (dk_at dksX4_fixdown_3 16 rfl rfl)
theorem dX4_fixdown_85 : decode cX4_fixdown 85 = .ok (.aastore, 1) := dk_83 (dk_at dksX4_fixdown_3 17 rfl rfl)
theorem dX4_fixdown_86 : decode cX4_fixdown 86 = .ok (.iload_n 3, 1) := dk_29 (dk_at dksX4_fixdown_3 18 rfl rfl)
theorem dX4_fixdown_87 : decode cX4_fixdown 87 = .ok (.istore_n 1, 1) := dk_60 (dk_at dksX4_fixdown_3 19 rfl rfl)
theorem dX4_fixdown_88 : decode cX4_fixdown 88 = .ok (.goto (-81), 3) := dk_167 255 175 (dk_at dksX4_fixdown_3 20 rfl rfl)
theorem dX4_fixdown_91 : decode cX4_fixdown 91 = .ok (.aload_n 0, 1) := dk_42 (dk_at dksX4_fixdown_3 23 rfl rfl)
theorem dX4_fixdown_92 : decode cX4_fixdown 92 = .ok (.getfield 22, 3) := dk_180 0 22 (dk_at dksX4_fixdown_4 0 rfl rfl)
theorem dX4_fixdown_95 : decode cX4_fixdown 95 = .ok (.iload_n 1, 1) := dk_27 (dk_at dksX4_fixdown_4 3 rfl rfl)
theorem dX4_fixdown_96 : decode cX4_fixdown 96 = .ok (.aload_n 2, 1) := dk_44 (dk_at dksX4_fixdown_4 4 rfl rfl)
theorem dX4_fixdown_97 : decode cX4_fixdown 97 = .ok (.aastore, 1) := dk_83 (dk_at dksX4_fixdown_4 5 rfl rfl)
theorem dX4_fixdown_98 : decode cX4_fixdown 98 = .ok (.return_, 1) := dk_177 (dk_at dksX4_fixdown_4 6 rfl rfl)
abbrev cX4_heapify_2 : ByteArray := prog_3_method_6_code
def yX4_heapify_2 : MethodName := ⟨RX4, "heapify", "([Ljava/lang/Object;Ljava/util/Comparator;)LBinaryArrayHeap;"⟩
def dkwX4_heapify_2_3 : List UInt8 := [132, 3, 255, 167, 255, 244, 44, 176]
abbrev dktX4_heapify_2_3 : List UInt8 := dkwX4_heapify_2_3 ++ []
def dkwX4_heapify_2_2 : List UInt8 := [184, 0, 26, 44, 42, 190, 181, 0, 32, 42, 190, 5, 108, 62, 29, 158, 0, 14, 44, 29, 182, 0, 43]
abbrev dktX4_heapify_2_2 : List UInt8 := dkwX4_heapify_2_2 ++ dktX4_heapify_2_3
def dkwX4_heapify_2_1 : List UInt8 := [183, 0, 39, 176, 187, 0, 1, 89, 43, 42, 190, 183, 0, 42, 77, 42, 3, 44, 180, 0, 22, 4, 42, 190]
abbrev dktX4_heapify_2_1 : List UInt8 := dkwX4_heapify_2_1 ++ dktX4_heapify_2_2
def dkwX4_heapify_2_0 : List UInt8 := [42, 199, 0, 13, 187, 0, 9, 89, 18, 11, 183, 0, 13, 191, 42, 190, 154, 0, 12, 187, 0, 1, 89, 43]
abbrev dktX4_heapify_2_0 : List UInt8 := dkwX4_heapify_2_0 ++ dktX4_heapify_2_1
theorem dksX4_heapify_2_0 : cX4_heapify_2.data.toList.drop 0 = dktX4_heapify_2_0 := by decide +kernel
theorem dksX4_heapify_2_1 : cX4_heapify_2.data.toList.drop 24 = dktX4_heapify_2_1 := dk_seg dksX4_heapify_2_0 24 rfl rfl
theorem dksX4_heapify_2_2 : cX4_heapify_2.data.toList.drop 48 = dktX4_heapify_2_2 := dk_seg dksX4_heapify_2_1 24 rfl rfl
theorem dksX4_heapify_2_3 : cX4_heapify_2.data.toList.drop 71 = dktX4_heapify_2_3 := dk_seg dksX4_heapify_2_2 23 rfl rfl
theorem dX4_heapify_2_0 : decode cX4_heapify_2 0 = .ok (.aload_n 0, 1) := dk_42 (dk_at dksX4_heapify_2_0 0 rfl rfl)
theorem dX4_heapify_2_1 : decode cX4_heapify_2 1 = .ok (.ifnonnull 13, 3) := dk_199 0 13 (dk_at dksX4_heapify_2_0 1 rfl rfl)
theorem dX4_heapify_2_4 : decode cX4_heapify_2 4 = .ok (.new 9, 3) := dk_187 0 9 (dk_at dksX4_heapify_2_0 4 rfl rfl)
theorem dX4_heapify_2_7 : decode cX4_heapify_2 7 = .ok (.dup, 1) := dk_89 (dk_at dksX4_heapify_2_0 7 rfl rfl)
theorem dX4_heapify_2_8 : decode cX4_heapify_2 8 = .ok (.ldc 11, 2) := dk_18 11 (dk_at dksX4_heapify_2_0 8 rfl rfl)
theorem dX4_heapify_2_10 : decode cX4_heapify_2 10 = .ok (.invokespecial 13, 3) := dk_183 0 13 (dk_at dksX4_heapify_2_0 10 rfl rfl)
theorem dX4_heapify_2_13 : decode cX4_heapify_2 13 = .ok (.athrow, 1) := dk_191 (dk_at dksX4_heapify_2_0 13 rfl rfl)
theorem dX4_heapify_2_14 : decode cX4_heapify_2 14 = .ok (.aload_n 0, 1) := dk_42 (dk_at dksX4_heapify_2_0 14 rfl rfl)
theorem dX4_heapify_2_15 : decode cX4_heapify_2 15 = .ok (.arraylength, 1) := dk_190 (dk_at dksX4_heapify_2_0 15 rfl rfl)
theorem dX4_heapify_2_16 : decode cX4_heapify_2 16 = .ok (.ifCond .ne 12, 3) := dk_154 0 12 (dk_at dksX4_heapify_2_0 16 rfl rfl)
theorem dX4_heapify_2_19 : decode cX4_heapify_2 19 = .ok (.new 1, 3) := dk_187 0 1 (dk_at dksX4_heapify_2_0 19 rfl rfl)
theorem dX4_heapify_2_22 : decode cX4_heapify_2 22 = .ok (.dup, 1) := dk_89 (dk_at dksX4_heapify_2_0 22 rfl rfl)
theorem dX4_heapify_2_23 : decode cX4_heapify_2 23 = .ok (.aload_n 1, 1) := dk_43 (dk_at dksX4_heapify_2_0 23 rfl rfl)
theorem dX4_heapify_2_24 : decode cX4_heapify_2 24 = .ok (.invokespecial 39, 3) := dk_183 0 39 (dk_at dksX4_heapify_2_1 0 rfl rfl)
theorem dX4_heapify_2_27 : decode cX4_heapify_2 27 = .ok (.areturn, 1) := dk_176 (dk_at dksX4_heapify_2_1 3 rfl rfl)
theorem dX4_heapify_2_28 : decode cX4_heapify_2 28 = .ok (.new 1, 3) := dk_187 0 1 (dk_at dksX4_heapify_2_1 4 rfl rfl)
theorem dX4_heapify_2_31 : decode cX4_heapify_2 31 = .ok (.dup, 1) := dk_89 (dk_at dksX4_heapify_2_1 7 rfl rfl)
theorem dX4_heapify_2_32 : decode cX4_heapify_2 32 = .ok (.aload_n 1, 1) := dk_43 (dk_at dksX4_heapify_2_1 8 rfl rfl)
theorem dX4_heapify_2_33 : decode cX4_heapify_2 33 = .ok (.aload_n 0, 1) := dk_42 (dk_at dksX4_heapify_2_1 9 rfl rfl)
theorem dX4_heapify_2_34 : decode cX4_heapify_2 34 = .ok (.arraylength, 1) := dk_190 (dk_at dksX4_heapify_2_1 10 rfl rfl)
theorem dX4_heapify_2_35 : decode cX4_heapify_2 35 = .ok (.invokespecial 42, 3) := dk_183 0 42 (dk_at dksX4_heapify_2_1 11 rfl rfl)
theorem dX4_heapify_2_38 : decode cX4_heapify_2 38 = .ok (.astore_n 2, 1) := dk_77 (dk_at dksX4_heapify_2_1 14 rfl rfl)
theorem dX4_heapify_2_39 : decode cX4_heapify_2 39 = .ok (.aload_n 0, 1) := dk_42 (dk_at dksX4_heapify_2_1 15 rfl rfl)
theorem dX4_heapify_2_40 : decode cX4_heapify_2 40 = .ok (.iconst 0, 1) := dk_3 (dk_at dksX4_heapify_2_1 16 rfl rfl)
theorem dX4_heapify_2_41 : decode cX4_heapify_2 41 = .ok (.aload_n 2, 1) := dk_44 (dk_at dksX4_heapify_2_1 17 rfl rfl)
theorem dX4_heapify_2_42 : decode cX4_heapify_2 42 = .ok (.getfield 22, 3) := dk_180 0 22 (dk_at dksX4_heapify_2_1 18 rfl rfl)
theorem dX4_heapify_2_45 : decode cX4_heapify_2 45 = .ok (.iconst 1, 1) := dk_4 (dk_at dksX4_heapify_2_1 21 rfl rfl)
theorem dX4_heapify_2_46 : decode cX4_heapify_2 46 = .ok (.aload_n 0, 1) := dk_42 (dk_at dksX4_heapify_2_1 22 rfl rfl)
theorem dX4_heapify_2_47 : decode cX4_heapify_2 47 = .ok (.arraylength, 1) := dk_190 (dk_at dksX4_heapify_2_1 23 rfl rfl)
theorem dX4_heapify_2_48 : decode cX4_heapify_2 48 = .ok (.invokestatic 26, 3) := dk_184 0 26 (dk_at dksX4_heapify_2_2 0 rfl rfl)
theorem dX4_heapify_2_51 : decode cX4_heapify_2 51 = .ok (.aload_n 2, 1) := dk_44 (dk_at dksX4_heapify_2_2 3 rfl rfl)
theorem dX4_heapify_2_52 : decode cX4_heapify_2 52 = .ok (.aload_n 0, 1) := dk_42 (dk_at dksX4_heapify_2_2 4 rfl rfl)
theorem dX4_heapify_2_53 : decode cX4_heapify_2 53 = .ok (.arraylength, 1) := dk_190 (dk_at dksX4_heapify_2_2 5 rfl rfl)
theorem dX4_heapify_2_54 : decode cX4_heapify_2 54 = .ok (.putfield 32, 3) := dk_181 0 32 (dk_at dksX4_heapify_2_2 6 rfl rfl)
theorem dX4_heapify_2_57 : decode cX4_heapify_2 57 = .ok (.aload_n 0, 1) := dk_42 (dk_at dksX4_heapify_2_2 9 rfl rfl)
theorem dX4_heapify_2_58 : decode cX4_heapify_2 58 = .ok (.arraylength, 1) := dk_190 (dk_at dksX4_heapify_2_2 10 rfl rfl)
theorem dX4_heapify_2_59 : decode cX4_heapify_2 59 = .ok (.iconst 2, 1) := dk_5 (dk_at dksX4_heapify_2_2 11 rfl rfl)
theorem dX4_heapify_2_60 : decode cX4_heapify_2 60 = .ok (.idiv, 1) := dk_108 (dk_at dksX4_heapify_2_2 12 rfl rfl)
theorem dX4_heapify_2_61 : decode cX4_heapify_2 61 = .ok (.istore_n 3, 1) := dk_62 (dk_at dksX4_heapify_2_2 13 rfl rfl)
theorem dX4_heapify_2_62 : decode cX4_heapify_2 62 = .ok (.iload_n 3, 1) := dk_29 (dk_at dksX4_heapify_2_2 14 rfl rfl)
theorem dX4_heapify_2_63 : decode cX4_heapify_2 63 = .ok (.ifCond .le 14, 3) := dk_158 0 14 (dk_at dksX4_heapify_2_2 15 rfl rfl)
theorem dX4_heapify_2_66 : decode cX4_heapify_2 66 = .ok (.aload_n 2, 1) := dk_44 (dk_at dksX4_heapify_2_2 18 rfl rfl)
theorem dX4_heapify_2_67 : decode cX4_heapify_2 67 = .ok (.iload_n 3, 1) := dk_29 (dk_at dksX4_heapify_2_2 19 rfl rfl)
theorem dX4_heapify_2_68 : decode cX4_heapify_2 68 = .ok (.invokevirtual 43, 3) := dk_182 0 43 (dk_at dksX4_heapify_2_2 20 rfl rfl)
theorem dX4_heapify_2_71 : decode cX4_heapify_2 71 = .ok (.iinc 3 (-1), 3) := dk_132 3 255 (dk_at dksX4_heapify_2_3 0 rfl rfl)
theorem dX4_heapify_2_74 : decode cX4_heapify_2 74 = .ok (.goto (-12), 3) := dk_167 255 244 (dk_at dksX4_heapify_2_3 3 rfl rfl)
theorem dX4_heapify_2_77 : decode cX4_heapify_2 77 = .ok (.aload_n 2, 1) := dk_44 (dk_at dksX4_heapify_2_3 6 rfl rfl)
theorem dX4_heapify_2_78 : decode cX4_heapify_2 78 = .ok (.areturn, 1) := dk_176 (dk_at dksX4_heapify_2_3 7 rfl rfl)
abbrev cX4_init_4 : ByteArray := prog_3_method_4_code
def yX4_init_4 : MethodName := ⟨RX4, "<init>", "(Ljava/util/Comparator;I)V"⟩
def dkwX4_init_4_0 : List UInt8 := [42, 43, 28, 183, 0, 3, 177]
abbrev dktX4_init_4_0 : List UInt8 := dkwX4_init_4_0 ++ []
theorem dksX4_init_4_0 : cX4_init_4.data.toList.drop 0 = dktX4_init_4_0 := by decide +kernel
theorem dX4_init_4_0 : decode cX4_init_4 0 = .ok (.aload_n 0, 1) := dk_42 (dk_at dksX4_init_4_0 0 rfl rfl)
theorem dX4_init_4_1 : decode cX4_init_4 1 = .ok (.aload_n 1, 1) := dk_43 (dk_at dksX4_init_4_0 1 rfl rfl)
theorem dX4_init_4_2 : decode cX4_init_4 2 = .ok (.iload_n 2, 1) := dk_28 (dk_at dksX4_init_4_0 2 rfl rfl)
theorem dX4_init_4_3 : decode cX4_init_4 3 = .ok (.invokespecial 3, 3) := dk_183 0 3 (dk_at dksX4_init_4_0 3 rfl rfl)
theorem dX4_init_4_6 : decode cX4_init_4 6 = .ok (.return_, 1) := dk_177 (dk_at dksX4_init_4_0 6 rfl rfl)
abbrev cX4_fixdownWithComparator : ByteArray := prog_3_method_11_code
def yX4_fixdownWithComparator : MethodName := ⟨RX4, "fixdownWithComparator", "(I)V"⟩
def dkwX4_fixdownWithComparator_4 : List UInt8 := [60, 167, 255, 169, 42, 180, 0, 22, 27, 44, 83, 177]
abbrev dktX4_fixdownWithComparator_4 : List UInt8 := dkwX4_fixdownWithComparator_4 ++ []
def dkwX4_fixdownWithComparator_3 : List UInt8 := [185, 0, 63, 3, 0, 157, 0, 6, 167, 0, 20, 42, 180, 0, 22, 27, 42, 180, 0, 22, 29, 50, 83, 29]
abbrev dktX4_fixdownWithComparator_3 : List UInt8 := dkwX4_fixdownWithComparator_3 ++ dktX4_fixdownWithComparator_4
def dkwX4_fixdownWithComparator_2 : List UInt8 := [185, 0, 63, 3, 0, 158, 0, 6, 132, 3, 1, 42, 180, 0, 59, 44, 42, 180, 0, 22, 29, 50]
abbrev dktX4_fixdownWithComparator_2 : List UInt8 := dkwX4_fixdownWithComparator_2 ++ dktX4_fixdownWithComparator_3
def dkwX4_fixdownWithComparator_1 : List UInt8 := [180, 0, 32, 162, 0, 32, 42, 180, 0, 59, 42, 180, 0, 22, 29, 50, 42, 180, 0, 22, 29, 4, 96, 50]
abbrev dktX4_fixdownWithComparator_1 : List UInt8 := dkwX4_fixdownWithComparator_1 ++ dktX4_fixdownWithComparator_2
def dkwX4_fixdownWithComparator_0 : List UInt8 := [42, 180, 0, 22, 27, 50, 77, 5, 27, 104, 42, 180, 0, 32, 163, 0, 83, 5, 27, 104, 62, 29, 42]
abbrev dktX4_fixdownWithComparator_0 : List UInt8 := dkwX4_fixdownWithComparator_0 ++ dktX4_fixdownWithComparator_1
theorem dksX4_fixdownWithComparator_0 : cX4_fixdownWithComparator.data.toList.drop 0 = dktX4_fixdownWithComparator_0 := by decide +kernel
theorem dksX4_fixdownWithComparator_1 : cX4_fixdownWithComparator.data.toList.drop 23 = dktX4_fixdownWithComparator_1 := dk_seg dksX4_fixdownWithComparator_0 23 rfl rfl
theorem dksX4_fixdownWithComparator_2 : cX4_fixdownWithComparator.data.toList.drop 47 = dktX4_fixdownWithComparator_2 := dk_seg dksX4_fixdownWithComparator_1 24 rfl rfl
theorem dksX4_fixdownWithComparator_3 : cX4_fixdownWithComparator.data.toList.drop 69 = dktX4_fixdownWithComparator_3 := dk_seg dksX4_fixdownWithComparator_2 22 rfl rfl
theorem dksX4_fixdownWithComparator_4 : cX4_fixdownWithComparator.data.toList.drop 93 = dktX4_fixdownWithComparator_4 := dk_seg dksX4_fixdownWithComparator_3 24 rfl rfl
theorem dX4_fixdownWithComparator_0 : decode cX4_fixdownWithComparator 0 = .ok (.aload_n 0, 1) := dk_42 (dk_at dksX4_fixdownWithComparator_0 0 rfl rfl)
theorem dX4_fixdownWithComparator_1 : decode cX4_fixdownWithComparator 1 = .ok (.getfield 22, 3) := dk_180 0 22 (dk_at dksX4_fixdownWithComparator_0 1 rfl rfl)
theorem dX4_fixdownWithComparator_4 : decode cX4_fixdownWithComparator 4 = .ok (.iload_n 1, 1) := dk_27 (dk_at dksX4_fixdownWithComparator_0 4 rfl rfl)
theorem dX4_fixdownWithComparator_5 : decode cX4_fixdownWithComparator 5 = .ok (.aaload, 1) := dk_50 (dk_at dksX4_fixdownWithComparator_0 5 rfl rfl)
theorem dX4_fixdownWithComparator_6 : decode cX4_fixdownWithComparator 6 = .ok (.astore_n 2, 1) := dk_77 (dk_at dksX4_fixdownWithComparator_0 6 rfl rfl)
theorem dX4_fixdownWithComparator_7 : decode cX4_fixdownWithComparator 7 = .ok (.iconst 2, 1) := dk_5 (dk_at dksX4_fixdownWithComparator_0 7 rfl rfl)
theorem dX4_fixdownWithComparator_8 : decode cX4_fixdownWithComparator 8 = .ok (.iload_n 1, 1) := dk_27 (dk_at dksX4_fixdownWithComparator_0 8 rfl rfl)
theorem dX4_fixdownWithComparator_9 : decode cX4_fixdownWithComparator 9 = .ok (.imul, 1) := dk_104 (dk_at dksX4_fixdownWithComparator_0 9 rfl rfl)
theorem dX4_fixdownWithComparator_10 : decode cX4_fixdownWithComparator 10 = .ok (.aload_n 0, 1) := dk_42 (dk_at dksX4_fixdownWithComparator_0 10 rfl rfl)
theorem dX4_fixdownWithComparator_11 : decode cX4_fixdownWithComparator 11 = .ok (.getfield 32, 3) := dk_180 0 32 (dk_at dksX4_fixdownWithComparator_0 11 rfl rfl)
theorem dX4_fixdownWithComparator_14 : decode cX4_fixdownWithComparator 14 = .ok (.if_icmp .gt 83, 3) := dk_163 0 83 (dk_at dksX4_fixdownWithComparator_0 14 rfl rfl)
theorem dX4_fixdownWithComparator_17 : decode cX4_fixdownWithComparator 17 = .ok (.iconst 2, 1) := dk_5 (dk_at dksX4_fixdownWithComparator_0 17 rfl rfl)
theorem dX4_fixdownWithComparator_18 : decode cX4_fixdownWithComparator 18 = .ok (.iload_n 1, 1) := dk_27 (dk_at dksX4_fixdownWithComparator_0 18 rfl rfl)
theorem dX4_fixdownWithComparator_19 : decode cX4_fixdownWithComparator 19 = .ok (.imul, 1) := dk_104 (dk_at dksX4_fixdownWithComparator_0 19 rfl rfl)
theorem dX4_fixdownWithComparator_20 : decode cX4_fixdownWithComparator 20 = .ok (.istore_n 3, 1) := dk_62 (dk_at dksX4_fixdownWithComparator_0 20 rfl rfl)
theorem dX4_fixdownWithComparator_21 : decode cX4_fixdownWithComparator 21 = .ok (.iload_n 3, 1) := dk_29 (dk_at dksX4_fixdownWithComparator_0 21 rfl rfl)
theorem dX4_fixdownWithComparator_22 : decode cX4_fixdownWithComparator 22 = .ok (.aload_n 0, 1) := dk_42 (dk_at dksX4_fixdownWithComparator_0 22 rfl rfl)
theorem dX4_fixdownWithComparator_23 : decode cX4_fixdownWithComparator 23 = .ok (.getfield 32, 3) := dk_180 0 32 (dk_at dksX4_fixdownWithComparator_1 0 rfl rfl)
theorem dX4_fixdownWithComparator_26 : decode cX4_fixdownWithComparator 26 = .ok (.if_icmp .ge 32, 3) := dk_162 0 32 (dk_at dksX4_fixdownWithComparator_1 3 rfl rfl)
theorem dX4_fixdownWithComparator_29 : decode cX4_fixdownWithComparator 29 = .ok (.aload_n 0, 1) := dk_42 (dk_at dksX4_fixdownWithComparator_1 6 rfl rfl)
theorem dX4_fixdownWithComparator_30 : decode cX4_fixdownWithComparator 30 = .ok (.getfield 59, 3) := dk_180 0 59 (dk_at dksX4_fixdownWithComparator_1 7 rfl rfl)
theorem dX4_fixdownWithComparator_33 : decode cX4_fixdownWithComparator 33 = .ok (.aload_n 0, 1) := dk_42 (dk_at dksX4_fixdownWithComparator_1 10 rfl rfl)
theorem dX4_fixdownWithComparator_34 : decode cX4_fixdownWithComparator 34 = .ok (.getfield 22, 3) := dk_180 0 22 (dk_at dksX4_fixdownWithComparator_1 11 rfl rfl)
theorem dX4_fixdownWithComparator_37 : decode cX4_fixdownWithComparator 37 = .ok (.iload_n 3, 1) := dk_29 (dk_at dksX4_fixdownWithComparator_1 14 rfl rfl)
theorem dX4_fixdownWithComparator_38 : decode cX4_fixdownWithComparator 38 = .ok (.aaload, 1) := dk_50 (dk_at dksX4_fixdownWithComparator_1 15 rfl rfl)
theorem dX4_fixdownWithComparator_39 : decode cX4_fixdownWithComparator 39 = .ok (.aload_n 0, 1) := dk_42 (dk_at dksX4_fixdownWithComparator_1 16 rfl rfl)
theorem dX4_fixdownWithComparator_40 : decode cX4_fixdownWithComparator 40 = .ok (.getfield 22, 3) := dk_180 0 22 (dk_at dksX4_fixdownWithComparator_1 17 rfl rfl)
theorem dX4_fixdownWithComparator_43 : decode cX4_fixdownWithComparator 43 = .ok (.iload_n 3, 1) := dk_29 (dk_at dksX4_fixdownWithComparator_1 20 rfl rfl)
theorem dX4_fixdownWithComparator_44 : decode cX4_fixdownWithComparator 44 = .ok (.iconst 1, 1) := dk_4 (dk_at dksX4_fixdownWithComparator_1 21 rfl rfl)
theorem dX4_fixdownWithComparator_45 : decode cX4_fixdownWithComparator 45 = .ok (.iadd, 1) := dk_96 (dk_at dksX4_fixdownWithComparator_1 22 rfl rfl)
theorem dX4_fixdownWithComparator_46 : decode cX4_fixdownWithComparator 46 = .ok (.aaload, 1) := dk_50 (dk_at dksX4_fixdownWithComparator_1 23 rfl rfl)
theorem dX4_fixdownWithComparator_47 : decode cX4_fixdownWithComparator 47 = .ok (.invokeinterface 63 3, 5) := by decide +kernel
theorem dX4_fixdownWithComparator_52 : decode cX4_fixdownWithComparator 52 = .ok (.ifCond .le 6, 3) := dk_158 0 6 (dk_at dksX4_fixdownWithComparator_2 5 rfl rfl)
theorem dX4_fixdownWithComparator_55 : decode cX4_fixdownWithComparator 55 = .ok (.iinc 3 1, 3) := dk_132 3 1 (dk_at dksX4_fixdownWithComparator_2 8 rfl rfl)
theorem dX4_fixdownWithComparator_58 : decode cX4_fixdownWithComparator 58 = .ok (.aload_n 0, 1) := dk_42 (dk_at dksX4_fixdownWithComparator_2 11 rfl rfl)
theorem dX4_fixdownWithComparator_59 : decode cX4_fixdownWithComparator 59 = .ok (.getfield 59, 3) := dk_180 0 59 (dk_at dksX4_fixdownWithComparator_2 12 rfl rfl)
theorem dX4_fixdownWithComparator_62 : decode cX4_fixdownWithComparator 62 = .ok (.aload_n 2, 1) := dk_44 (dk_at dksX4_fixdownWithComparator_2 15 rfl rfl)
theorem dX4_fixdownWithComparator_63 : decode cX4_fixdownWithComparator 63 = .ok (.aload_n 0, 1) := dk_42 (dk_at dksX4_fixdownWithComparator_2 16 rfl rfl)
theorem dX4_fixdownWithComparator_64 : decode cX4_fixdownWithComparator 64 = .ok (.getfield 22, 3) := dk_180 0 22 (dk_at dksX4_fixdownWithComparator_2 17 rfl rfl)
theorem dX4_fixdownWithComparator_67 : decode cX4_fixdownWithComparator 67 = .ok (.iload_n 3, 1) := dk_29 (dk_at dksX4_fixdownWithComparator_2 20 rfl rfl)
theorem dX4_fixdownWithComparator_68 : decode cX4_fixdownWithComparator 68 = .ok (.aaload, 1) := dk_50 (dk_at dksX4_fixdownWithComparator_2 21 rfl rfl)
theorem dX4_fixdownWithComparator_69 : decode cX4_fixdownWithComparator 69 = .ok (.invokeinterface 63 3, 5) := by decide +kernel
theorem dX4_fixdownWithComparator_74 : decode cX4_fixdownWithComparator 74 = .ok (.ifCond .gt 6, 3) := dk_157 0 6 (dk_at dksX4_fixdownWithComparator_3 5 rfl rfl)
theorem dX4_fixdownWithComparator_77 : decode cX4_fixdownWithComparator 77 = .ok (.goto 20, 3) := dk_167 0 20 (dk_at dksX4_fixdownWithComparator_3 8 rfl rfl)
theorem dX4_fixdownWithComparator_80 : decode cX4_fixdownWithComparator 80 = .ok (.aload_n 0, 1) := dk_42 (dk_at dksX4_fixdownWithComparator_3 11 rfl rfl)
theorem dX4_fixdownWithComparator_81 : decode cX4_fixdownWithComparator 81 = .ok (.getfield 22, 3) := dk_180 0 22 (dk_at dksX4_fixdownWithComparator_3 12 rfl rfl)
theorem dX4_fixdownWithComparator_84 : decode cX4_fixdownWithComparator 84 = .ok (.iload_n 1, 1) := dk_27 (dk_at dksX4_fixdownWithComparator_3 15 rfl rfl)
theorem dX4_fixdownWithComparator_85 : decode cX4_fixdownWithComparator 85 = .ok (.aload_n 0, 1) := dk_42 (dk_at dksX4_fixdownWithComparator_3 16 rfl rfl)
theorem dX4_fixdownWithComparator_86 : decode cX4_fixdownWithComparator 86 = .ok (.getfield 22, 3) := dk_180 0 22 (dk_at dksX4_fixdownWithComparator_3 17 rfl rfl)
theorem dX4_fixdownWithComparator_89 : decode cX4_fixdownWithComparator 89 = .ok (.iload_n 3, 1) := dk_29 (dk_at dksX4_fixdownWithComparator_3 20 rfl rfl)
theorem dX4_fixdownWithComparator_90 : decode cX4_fixdownWithComparator 90 = .ok (.aaload, 1) := dk_50 (dk_at dksX4_fixdownWithComparator_3 21 rfl rfl)
theorem dX4_fixdownWithComparator_91 : decode cX4_fixdownWithComparator 91 = .ok (.aastore, 1) := dk_83 (dk_at dksX4_fixdownWithComparator_3 22 rfl rfl)
theorem dX4_fixdownWithComparator_92 : decode cX4_fixdownWithComparator 92 = .ok (.iload_n 3, 1) := dk_29 (dk_at dksX4_fixdownWithComparator_3 23 rfl rfl)
theorem dX4_fixdownWithComparator_93 : decode cX4_fixdownWithComparator 93 = .ok (.istore_n 1, 1) := dk_60 (dk_at dksX4_fixdownWithComparator_4 0 rfl rfl)
theorem dX4_fixdownWithComparator_94 : decode cX4_fixdownWithComparator 94 = .ok (.goto (-87), 3) := dk_167 255 169 (dk_at dksX4_fixdownWithComparator_4 1 rfl rfl)
theorem dX4_fixdownWithComparator_97 : decode cX4_fixdownWithComparator 97 = .ok (.aload_n 0, 1) := dk_42 (dk_at dksX4_fixdownWithComparator_4 4 rfl rfl)
theorem dX4_fixdownWithComparator_98 : decode cX4_fixdownWithComparator 98 = .ok (.getfield 22, 3) := dk_180 0 22 (dk_at dksX4_fixdownWithComparator_4 5 rfl rfl)
theorem dX4_fixdownWithComparator_101 : decode cX4_fixdownWithComparator 101 = .ok (.iload_n 1, 1) := dk_27 (dk_at dksX4_fixdownWithComparator_4 8 rfl rfl)
theorem dX4_fixdownWithComparator_102 : decode cX4_fixdownWithComparator 102 = .ok (.aload_n 2, 1) := dk_44 (dk_at dksX4_fixdownWithComparator_4 9 rfl rfl)
theorem dX4_fixdownWithComparator_103 : decode cX4_fixdownWithComparator 103 = .ok (.aastore, 1) := dk_83 (dk_at dksX4_fixdownWithComparator_4 10 rfl rfl)
theorem dX4_fixdownWithComparator_104 : decode cX4_fixdownWithComparator 104 = .ok (.return_, 1) := dk_177 (dk_at dksX4_fixdownWithComparator_4 11 rfl rfl)
theorem q6 : (Jvm.Cond.initialized "BinaryArrayHeap") ∈ lw_all := lw_g (lw_at lw_m1 4 rfl) rfl
theorem q34 : (Jvm.Cond.instantiable "BinaryArrayHeap" (4 : Nat)) ∈ lw_all := lw_g (lw_at lw_m1 32 rfl) rfl
theorem q36 : (Jvm.Cond.instanceMethod ({ cls := "BinaryArrayHeap", name := "<init>", desc := "()V" } : Jvm.MethodName)) ∈ lw_all := lw_g (lw_at lw_m1 34 rfl) rfl
theorem q37 : (Jvm.Cond.code ({ cls := "BinaryArrayHeap", name := "<init>", desc := "()V" } : Jvm.MethodName) prog_3_method_1_code (1 : Nat) (Option.none : Option Jvm.ClassFile.FieldType)) ∈ lw_all := lw_g (lw_at lw_m1 35 rfl) rfl
theorem q38 : (Jvm.Cond.methodLink "BinaryArrayHeap" (3 : Nat) ({ cls := "AbstractArrayHeap", name := "<init>", desc := "(Ljava/util/Comparator;I)V" } : Jvm.MethodName)) ∈ lw_all := lw_g (lw_at lw_m1 36 rfl) rfl
theorem q48 : (Jvm.Cond.selects "BinaryArrayHeap" ({ cls := "AbstractArrayWeakHeap", name := "checkCapacity", desc := "(I)V" } : Jvm.MethodName) ({ cls := "AbstractArrayWeakHeap", name := "checkCapacity", desc := "(I)V" } : Jvm.MethodName)) ∈ lw_all := lw_g (lw_at lw_m1 46 rfl) rfl
theorem q139 : (Jvm.Cond.selects "BinaryArrayHeap" ({ cls := "AbstractArrayWeakHeap", name := "initCapacity", desc := "(I)V" } : Jvm.MethodName) ({ cls := "AbstractArrayHeap", name := "initCapacity", desc := "(I)V" } : Jvm.MethodName)) ∈ lw_all := lw_g (lw_at lw_m1 137 rfl) rfl
theorem q147 : (Jvm.Cond.fieldLink "BinaryArrayHeap" (59 : Nat) "BinaryArrayHeap" "comparator" "Ljava/util/Comparator;") ∈ lw_all := lw_g (lw_at lw_m1 145 rfl) rfl
theorem q148 : (Jvm.Cond.sameField "BinaryArrayHeap" "AbstractArrayWeakHeap" "comparator" "Ljava/util/Comparator;") ∈ lw_all := lw_g (lw_at lw_m1 146 rfl) rfl
theorem q151 : (Jvm.Cond.fieldLink "BinaryArrayHeap" (22 : Nat) "BinaryArrayHeap" "array" "[Ljava/lang/Object;") ∈ lw_all := lw_g (lw_at lw_m1 149 rfl) rfl
theorem q152 : (Jvm.Cond.sameField "BinaryArrayHeap" "AbstractArrayWeakHeap" "array" "[Ljava/lang/Object;") ∈ lw_all := lw_g (lw_at lw_m1 150 rfl) rfl
theorem q156 : (Jvm.Cond.fieldLink "BinaryArrayHeap" (32 : Nat) "BinaryArrayHeap" "size" "I") ∈ lw_all := lw_g (lw_at lw_m1 154 rfl) rfl
theorem q157 : (Jvm.Cond.sameField "BinaryArrayHeap" "AbstractArrayWeakHeap" "size" "I") ∈ lw_all := lw_g (lw_at lw_m1 155 rfl) rfl
theorem q161 : (Jvm.Cond.laysFinal "BinaryArrayHeap" "AbstractArrayWeakHeap" "comparator" "Ljava/util/Comparator;") ∈ lw_all := lw_g (lw_at lw_m1 159 rfl) rfl
theorem q163 : (Jvm.Cond.lays "BinaryArrayHeap" "AbstractArrayWeakHeap" "array" "[Ljava/lang/Object;") ∈ lw_all := lw_g (lw_at lw_m1 161 rfl) rfl
theorem q165 : (Jvm.Cond.lays "BinaryArrayHeap" "AbstractArrayWeakHeap" "size" "I") ∈ lw_all := lw_g (lw_at lw_m1 163 rfl) rfl
theorem q167 : (Jvm.Cond.laysFinal "BinaryArrayHeap" "AbstractArrayWeakHeap" "minCapacity" "I") ∈ lw_all := lw_g (lw_at lw_m1 165 rfl) rfl
theorem q169 : (Jvm.Cond.superclass "BinaryArrayHeap" "AbstractArrayHeap") ∈ lw_all := lw_g (lw_at lw_m1 167 rfl) rfl
theorem q173 : (Jvm.Cond.instanceMethod ({ cls := "BinaryArrayHeap", name := "<init>", desc := "(Ljava/util/Comparator;)V" } : Jvm.MethodName)) ∈ lw_all := lw_g (lw_at lw_m1 171 rfl) rfl
theorem q174 : (Jvm.Cond.code ({ cls := "BinaryArrayHeap", name := "<init>", desc := "(Ljava/util/Comparator;)V" } : Jvm.MethodName) prog_3_method_3_code (2 : Nat) (Option.none : Option Jvm.ClassFile.FieldType)) ∈ lw_all := lw_g (lw_at lw_m1 172 rfl) rfl
theorem q208 : (Jvm.Cond.sameMethod "BinaryArrayHeap" "AbstractArrayHeap" "insert" "(Ljava/lang/Object;)V") ∈ lw_all := lw_g (lw_at lw_m1 206 rfl) rfl
theorem q210 : (Jvm.Cond.selects "BinaryArrayHeap" ({ cls := "BinaryArrayHeap", name := "insert", desc := "(Ljava/lang/Object;)V" } : Jvm.MethodName) ({ cls := "AbstractArrayHeap", name := "insert", desc := "(Ljava/lang/Object;)V" } : Jvm.MethodName)) ∈ lw_all := lw_g (lw_at lw_m1 208 rfl) rfl
theorem q234 : (Jvm.Cond.selects "BinaryArrayHeap" ({ cls := "AbstractArrayHeap", name := "ensureCapacity", desc := "(I)V" } : Jvm.MethodName) ({ cls := "BinaryArrayHeap", name := "ensureCapacity", desc := "(I)V" } : Jvm.MethodName)) ∈ lw_all := lw_g (lw_at lw_m1 232 rfl) rfl
theorem q235 : (Jvm.Cond.instanceMethod ({ cls := "BinaryArrayHeap", name := "ensureCapacity", desc := "(I)V" } : Jvm.MethodName)) ∈ lw_all := lw_g (lw_at lw_m1 233 rfl) rfl
theorem q236 : (Jvm.Cond.code ({ cls := "BinaryArrayHeap", name := "ensureCapacity", desc := "(I)V" } : Jvm.MethodName) prog_3_method_7_code (3 : Nat) (Option.none : Option Jvm.ClassFile.FieldType)) ∈ lw_all := lw_g (lw_at lw_m1 234 rfl) rfl
theorem q237 : (Jvm.Cond.methodLink "BinaryArrayHeap" (46 : Nat) ({ cls := "BinaryArrayHeap", name := "checkCapacity", desc := "(I)V" } : Jvm.MethodName)) ∈ lw_all := lw_g (lw_at lw_m1 235 rfl) rfl
theorem q238 : (Jvm.Cond.sameMethod "BinaryArrayHeap" "AbstractArrayWeakHeap" "checkCapacity" "(I)V") ∈ lw_all := lw_g (lw_at lw_m1 236 rfl) rfl
theorem q240 : (Jvm.Cond.selects "BinaryArrayHeap" ({ cls := "BinaryArrayHeap", name := "checkCapacity", desc := "(I)V" } : Jvm.MethodName) ({ cls := "AbstractArrayWeakHeap", name := "checkCapacity", desc := "(I)V" } : Jvm.MethodName)) ∈ lw_all := lw_g (lw_at lw_m1 238 rfl) rfl
theorem q241 : (Jvm.Cond.classLink "BinaryArrayHeap" (49 : Nat) "java/lang/Object") ∈ lw_all := lw_g (lw_at lw_m1 239 rfl) rfl
theorem q242 : (Jvm.Cond.methodLink "BinaryArrayHeap" (26 : Nat) ({ cls := "java/lang/System", name := "arraycopy", desc := "(Ljava/lang/Object;ILjava/lang/Object;II)V" } : Jvm.MethodName)) ∈ lw_all := lw_g (lw_at lw_m2 0 rfl) rfl
theorem q248 : (Jvm.Cond.selects "BinaryArrayHeap" ({ cls := "AbstractArrayHeap", name := "fixup", desc := "(I)V" } : Jvm.MethodName) ({ cls := "BinaryArrayHeap", name := "fixup", desc := "(I)V" } : Jvm.MethodName)) ∈ lw_all := lw_g (lw_at lw_m2 6 rfl) rfl
theorem q249 : (Jvm.Cond.instanceMethod ({ cls := "BinaryArrayHeap", name := "fixup", desc := "(I)V" } : Jvm.MethodName)) ∈ lw_all := lw_g (lw_at lw_m2 7 rfl) rfl
theorem q250 : (Jvm.Cond.code ({ cls := "BinaryArrayHeap", name := "fixup", desc := "(I)V" } : Jvm.MethodName) prog_3_method_8_code (3 : Nat) (Option.none : Option Jvm.ClassFile.FieldType)) ∈ lw_all := lw_g (lw_at lw_m2 8 rfl) rfl
theorem q251 : (Jvm.Cond.classLink "BinaryArrayHeap" (51 : Nat) "java/lang/Comparable") ∈ lw_all := lw_g (lw_at lw_m2 9 rfl) rfl
theorem q252 : (Jvm.Cond.methodLink "BinaryArrayHeap" (53 : Nat) ({ cls := "BinaryArrayHeapDesk", name := "order", desc := "(Ljava/lang/Object;Ljava/lang/Object;)I" } : Jvm.MethodName)) ∈ lw_all := lw_g (lw_at lw_m2 10 rfl) rfl
theorem q263 : (Jvm.Cond.selects "BinaryArrayHeap" ({ cls := "AbstractArrayHeap", name := "fixupWithComparator", desc := "(I)V" } : Jvm.MethodName) ({ cls := "BinaryArrayHeap", name := "fixupWithComparator", desc := "(I)V" } : Jvm.MethodName)) ∈ lw_all := lw_g (lw_at lw_m2 21 rfl) rfl
theorem q264 : (Jvm.Cond.instanceMethod ({ cls := "BinaryArrayHeap", name := "fixupWithComparator", desc := "(I)V" } : Jvm.MethodName)) ∈ lw_all := lw_g (lw_at lw_m2 22 rfl) rfl
theorem q265 : (Jvm.Cond.code ({ cls := "BinaryArrayHeap", name := "fixupWithComparator", desc := "(I)V" } : Jvm.MethodName) prog_3_method_9_code (3 : Nat) (Option.none : Option Jvm.ClassFile.FieldType)) ∈ lw_all := lw_g (lw_at lw_m2 23 rfl) rfl
theorem q266 : (Jvm.Cond.interfaceEntry "BinaryArrayHeap" (63 : Nat)) ∈ lw_tbl := lw_at lw_m2 24 rfl
theorem q267 : (Jvm.Cond.methodLink "BinaryArrayHeap" (63 : Nat) ({ cls := "java/util/Comparator", name := "compare", desc := "(Ljava/lang/Object;Ljava/lang/Object;)I" } : Jvm.MethodName)) ∈ lw_all := lw_g (lw_at lw_m2 25 rfl) rfl
theorem q288 : (Jvm.Cond.static ({ cls := "BinaryArrayHeap", name := "heapify", desc := "([Ljava/lang/Object;)LBinaryArrayHeap;" } : Jvm.MethodName)) ∈ lw_all := lw_g (lw_at lw_m2 46 rfl) rfl
theorem q289 : (Jvm.Cond.code ({ cls := "BinaryArrayHeap", name := "heapify", desc := "([Ljava/lang/Object;)LBinaryArrayHeap;" } : Jvm.MethodName) prog_3_method_5_code (3 : Nat) (Option.some (Jvm.ClassFile.FieldType.object "BinaryArrayHeap"))) ∈ lw_all := lw_g (lw_at lw_m2 47 rfl) rfl
theorem q290 : (Jvm.Cond.classLink "BinaryArrayHeap" (9 : Nat) "java/lang/IllegalArgumentException") ∈ lw_all := lw_g (lw_at lw_m2 48 rfl) rfl
theorem q291 : (Jvm.Cond.stringRef "BinaryArrayHeap" (11 : Nat) "Array cannot be null") ∈ lw_tbl := lw_at lw_m2 49 rfl
theorem q292 : (Jvm.Cond.methodLink "BinaryArrayHeap" (13 : Nat) ({ cls := "java/lang/IllegalArgumentException", name := "<init>", desc := "(Ljava/lang/String;)V" } : Jvm.MethodName)) ∈ lw_all := lw_g (lw_at lw_m2 50 rfl) rfl
theorem q293 : (Jvm.Cond.classLink "BinaryArrayHeap" (1 : Nat) "BinaryArrayHeap") ∈ lw_all := lw_g (lw_at lw_m2 51 rfl) rfl
theorem q294 : (Jvm.Cond.methodLink "BinaryArrayHeap" (16 : Nat) ({ cls := "BinaryArrayHeap", name := "<init>", desc := "()V" } : Jvm.MethodName)) ∈ lw_all := lw_g (lw_at lw_m2 52 rfl) rfl
theorem q295 : (Jvm.Cond.methodLink "BinaryArrayHeap" (19 : Nat) ({ cls := "BinaryArrayHeap", name := "<init>", desc := "(I)V" } : Jvm.MethodName)) ∈ lw_all := lw_g (lw_at lw_m2 53 rfl) rfl
theorem q296 : (Jvm.Cond.instanceMethod ({ cls := "BinaryArrayHeap", name := "<init>", desc := "(I)V" } : Jvm.MethodName)) ∈ lw_all := lw_g (lw_at lw_m2 54 rfl) rfl
theorem q297 : (Jvm.Cond.code ({ cls := "BinaryArrayHeap", name := "<init>", desc := "(I)V" } : Jvm.MethodName) prog_3_method_2_code (2 : Nat) (Option.none : Option Jvm.ClassFile.FieldType)) ∈ lw_all := lw_g (lw_at lw_m2 55 rfl) rfl
theorem q298 : (Jvm.Cond.methodLink "BinaryArrayHeap" (36 : Nat) ({ cls := "BinaryArrayHeap", name := "fixdown", desc := "(I)V" } : Jvm.MethodName)) ∈ lw_all := lw_g (lw_at lw_m2 56 rfl) rfl
theorem q299 : (Jvm.Cond.instanceMethod ({ cls := "BinaryArrayHeap", name := "fixdown", desc := "(I)V" } : Jvm.MethodName)) ∈ lw_all := lw_g (lw_at lw_m2 57 rfl) rfl
theorem q300 : (Jvm.Cond.selects "BinaryArrayHeap" ({ cls := "BinaryArrayHeap", name := "fixdown", desc := "(I)V" } : Jvm.MethodName) ({ cls := "BinaryArrayHeap", name := "fixdown", desc := "(I)V" } : Jvm.MethodName)) ∈ lw_all := lw_g (lw_at lw_m2 58 rfl) rfl
theorem q301 : (Jvm.Cond.code ({ cls := "BinaryArrayHeap", name := "fixdown", desc := "(I)V" } : Jvm.MethodName) prog_3_method_10_code (4 : Nat) (Option.none : Option Jvm.ClassFile.FieldType)) ∈ lw_all := lw_g (lw_at lw_m2 59 rfl) rfl
theorem q303 : (Jvm.Cond.static ({ cls := "BinaryArrayHeap", name := "heapify", desc := "([Ljava/lang/Object;Ljava/util/Comparator;)LBinaryArrayHeap;" } : Jvm.MethodName)) ∈ lw_all := lw_g (lw_at lw_m2 61 rfl) rfl
theorem q304 : (Jvm.Cond.code ({ cls := "BinaryArrayHeap", name := "heapify", desc := "([Ljava/lang/Object;Ljava/util/Comparator;)LBinaryArrayHeap;" } : Jvm.MethodName) prog_3_method_6_code (4 : Nat) (Option.some (Jvm.ClassFile.FieldType.object "BinaryArrayHeap"))) ∈ lw_all := lw_g (lw_at lw_m2 62 rfl) rfl
theorem q305 : (Jvm.Cond.methodLink "BinaryArrayHeap" (39 : Nat) ({ cls := "BinaryArrayHeap", name := "<init>", desc := "(Ljava/util/Comparator;)V" } : Jvm.MethodName)) ∈ lw_all := lw_g (lw_at lw_m2 63 rfl) rfl
theorem q306 : (Jvm.Cond.methodLink "BinaryArrayHeap" (42 : Nat) ({ cls := "BinaryArrayHeap", name := "<init>", desc := "(Ljava/util/Comparator;I)V" } : Jvm.MethodName)) ∈ lw_all := lw_g (lw_at lw_m2 64 rfl) rfl
theorem q307 : (Jvm.Cond.instanceMethod ({ cls := "BinaryArrayHeap", name := "<init>", desc := "(Ljava/util/Comparator;I)V" } : Jvm.MethodName)) ∈ lw_all := lw_g (lw_at lw_m2 65 rfl) rfl
theorem q308 : (Jvm.Cond.code ({ cls := "BinaryArrayHeap", name := "<init>", desc := "(Ljava/util/Comparator;I)V" } : Jvm.MethodName) prog_3_method_4_code (3 : Nat) (Option.none : Option Jvm.ClassFile.FieldType)) ∈ lw_all := lw_g (lw_at lw_m2 66 rfl) rfl
theorem q309 : (Jvm.Cond.methodLink "BinaryArrayHeap" (43 : Nat) ({ cls := "BinaryArrayHeap", name := "fixdownWithComparator", desc := "(I)V" } : Jvm.MethodName)) ∈ lw_all := lw_g (lw_at lw_m2 67 rfl) rfl
theorem q310 : (Jvm.Cond.instanceMethod ({ cls := "BinaryArrayHeap", name := "fixdownWithComparator", desc := "(I)V" } : Jvm.MethodName)) ∈ lw_all := lw_g (lw_at lw_m2 68 rfl) rfl
theorem q311 : (Jvm.Cond.selects "BinaryArrayHeap" ({ cls := "BinaryArrayHeap", name := "fixdownWithComparator", desc := "(I)V" } : Jvm.MethodName) ({ cls := "BinaryArrayHeap", name := "fixdownWithComparator", desc := "(I)V" } : Jvm.MethodName)) ∈ lw_all := lw_g (lw_at lw_m2 69 rfl) rfl
theorem q312 : (Jvm.Cond.code ({ cls := "BinaryArrayHeap", name := "fixdownWithComparator", desc := "(I)V" } : Jvm.MethodName) prog_3_method_11_code (4 : Nat) (Option.none : Option Jvm.ClassFile.FieldType)) ∈ lw_all := lw_g (lw_at lw_m2 70 rfl) rfl
theorem q318 : (Jvm.Cond.sameMethod "BinaryArrayHeap" "AbstractArrayWeakHeap" "isEmpty" "()Z") ∈ lw_all := lw_g (lw_at lw_m2 76 rfl) rfl
theorem q320 : (Jvm.Cond.selects "BinaryArrayHeap" ({ cls := "BinaryArrayHeap", name := "isEmpty", desc := "()Z" } : Jvm.MethodName) ({ cls := "AbstractArrayWeakHeap", name := "isEmpty", desc := "()Z" } : Jvm.MethodName)) ∈ lw_all := lw_g (lw_at lw_m2 78 rfl) rfl
theorem q324 : (Jvm.Cond.sameMethod "BinaryArrayHeap" "AbstractArrayHeap" "findMin" "()Ljava/lang/Object;") ∈ lw_all := lw_g (lw_at lw_m2 82 rfl) rfl
theorem q326 : (Jvm.Cond.selects "BinaryArrayHeap" ({ cls := "BinaryArrayHeap", name := "findMin", desc := "()Ljava/lang/Object;" } : Jvm.MethodName) ({ cls := "AbstractArrayHeap", name := "findMin", desc := "()Ljava/lang/Object;" } : Jvm.MethodName)) ∈ lw_all := lw_g (lw_at lw_m2 84 rfl) rfl
theorem q355 : (Jvm.Cond.sameMethod "BinaryArrayHeap" "AbstractArrayHeap" "deleteMin" "()Ljava/lang/Object;") ∈ lw_all := lw_g (lw_at lw_m2 113 rfl) rfl
theorem q357 : (Jvm.Cond.selects "BinaryArrayHeap" ({ cls := "BinaryArrayHeap", name := "deleteMin", desc := "()Ljava/lang/Object;" } : Jvm.MethodName) ({ cls := "AbstractArrayHeap", name := "deleteMin", desc := "()Ljava/lang/Object;" } : Jvm.MethodName)) ∈ lw_all := lw_g (lw_at lw_m2 115 rfl) rfl
theorem q363 : (Jvm.Cond.selects "BinaryArrayHeap" ({ cls := "AbstractArrayHeap", name := "fixdown", desc := "(I)V" } : Jvm.MethodName) ({ cls := "BinaryArrayHeap", name := "fixdown", desc := "(I)V" } : Jvm.MethodName)) ∈ lw_all := lw_g (lw_at lw_m2 121 rfl) rfl
theorem q367 : (Jvm.Cond.selects "BinaryArrayHeap" ({ cls := "AbstractArrayHeap", name := "fixdownWithComparator", desc := "(I)V" } : Jvm.MethodName) ({ cls := "BinaryArrayHeap", name := "fixdownWithComparator", desc := "(I)V" } : Jvm.MethodName)) ∈ lw_all := lw_g (lw_at lw_m2 125 rfl) rfl
theorem q373 : (Jvm.Cond.sameMethod "BinaryArrayHeap" "AbstractArrayWeakHeap" "size" "()J") ∈ lw_all := lw_g (lw_at lw_m2 131 rfl) rfl
theorem q375 : (Jvm.Cond.selects "BinaryArrayHeap" ({ cls := "BinaryArrayHeap", name := "size", desc := "()J" } : Jvm.MethodName) ({ cls := "AbstractArrayWeakHeap", name := "size", desc := "()J" } : Jvm.MethodName)) ∈ lw_all := lw_g (lw_at lw_m2 133 rfl) rfl
theorem q387 : (Jvm.Cond.sameMethod "BinaryArrayHeap" "AbstractArrayWeakHeap" "clear" "()V") ∈ lw_all := lw_g (lw_at lw_m2 145 rfl) rfl
theorem q389 : (Jvm.Cond.selects "BinaryArrayHeap" ({ cls := "BinaryArrayHeap", name := "clear", desc := "()V" } : Jvm.MethodName) ({ cls := "AbstractArrayWeakHeap", name := "clear", desc := "()V" } : Jvm.MethodName)) ∈ lw_all := lw_g (lw_at lw_m2 147 rfl) rfl
theorem q414 : (Jvm.Cond.castable "BinaryArrayHeap" "java/lang/Object") ∈ lw_tbl := lw_at lw_m2 172 rfl
theorem in_X4 : ∀ w ∈ wsX40, w ∈ lw_all := lw_in wsX40 [161, 163, 165, 167] (by decide +kernel) (by decide +kernel)
end
section
/-! BinaryArrayHeapDesk -/
set_option maxRecDepth 100000
def RX1 : String := "BinaryArrayHeapDesk"
def TX1 : u_T := fun k => match k with
  | 0 => ("BinaryArrayHeapDesk", "file", "[LBinaryArrayHeap;", true)
  | _ => ("BinaryArrayHeapDesk", "puts", "I", false)
def tyX1 : Nat → FieldType := fun k => match k with
  | 0 => .array (.object "BinaryArrayHeap")
  | _ => .int
abbrev wsX10 : List Cond := u_ws RX1 TX1 2
theorem nmX1 : ∀ a, a < 2 → ∀ b, b < 2 → a ≠ b → (TX1 a).2.1 ≠ (TX1 b).2.1 := by decide +kernel
theorem tyX1_ok : ∀ k, k < 2 → parseFieldDescriptor (TX1 k).2.2.1 = some (tyX1 k) := by decide +kernel
abbrev cX1_init : ByteArray := prog_4_method_1_code
def yX1_init : MethodName := ⟨RX1, "<init>", "()V"⟩
def dkwX1_init_0 : List UInt8 := [42, 183, 0, 1, 42, 184, 0, 7, 181, 0, 13, 177]
abbrev dktX1_init_0 : List UInt8 := dkwX1_init_0 ++ []
theorem dksX1_init_0 : cX1_init.data.toList.drop 0 = dktX1_init_0 := by decide +kernel
theorem dX1_init_0 : decode cX1_init 0 = .ok (.aload_n 0, 1) := dk_42 (dk_at dksX1_init_0 0 rfl rfl)
theorem dX1_init_1 : decode cX1_init 1 = .ok (.invokespecial 1, 3) := dk_183 0 1 (dk_at dksX1_init_0 1 rfl rfl)
theorem dX1_init_4 : decode cX1_init 4 = .ok (.aload_n 0, 1) := dk_42 (dk_at dksX1_init_0 4 rfl rfl)
theorem dX1_init_5 : decode cX1_init 5 = .ok (.invokestatic 7, 3) := dk_184 0 7 (dk_at dksX1_init_0 5 rfl rfl)
theorem dX1_init_8 : decode cX1_init 8 = .ok (.putfield 13, 3) := dk_181 0 13 (dk_at dksX1_init_0 8 rfl rfl)
theorem dX1_init_11 : decode cX1_init 11 = .ok (.return_, 1) := dk_177 (dk_at dksX1_init_0 11 rfl rfl)
abbrev cX1_make : ByteArray := prog_4_method_3_code
def yX1_make : MethodName := ⟨RX1, "make", "()[LBinaryArrayHeap;"⟩
def dkwX1_make_1 : List UInt8 := [167, 255, 241, 42, 176]
abbrev dktX1_make_1 : List UInt8 := dkwX1_make_1 ++ []
def dkwX1_make_0 : List UInt8 := [7, 189, 0, 23, 75, 3, 60, 27, 7, 162, 0, 16, 42, 27, 27, 184, 0, 25, 83, 132, 1, 1]
abbrev dktX1_make_0 : List UInt8 := dkwX1_make_0 ++ dktX1_make_1
theorem dksX1_make_0 : cX1_make.data.toList.drop 0 = dktX1_make_0 := by decide +kernel
theorem dksX1_make_1 : cX1_make.data.toList.drop 22 = dktX1_make_1 := dk_seg dksX1_make_0 22 rfl rfl
theorem dX1_make_0 : decode cX1_make 0 = .ok (.iconst 4, 1) := dk_7 (dk_at dksX1_make_0 0 rfl rfl)
theorem dX1_make_1 : decode cX1_make 1 = .ok (.anewarray 23, 3) := dk_189 0 23 (dk_at dksX1_make_0 1 rfl rfl)
theorem dX1_make_4 : decode cX1_make 4 = .ok (.astore_n 0, 1) := dk_75 (dk_at dksX1_make_0 4 rfl rfl)
theorem dX1_make_5 : decode cX1_make 5 = .ok (.iconst 0, 1) := dk_3 (dk_at dksX1_make_0 5 rfl rfl)
theorem dX1_make_6 : decode cX1_make 6 = .ok (.istore_n 1, 1) := dk_60 (dk_at dksX1_make_0 6 rfl rfl)
theorem dX1_make_7 : decode cX1_make 7 = .ok (.iload_n 1, 1) := dk_27 (dk_at dksX1_make_0 7 rfl rfl)
theorem dX1_make_8 : decode cX1_make 8 = .ok (.iconst 4, 1) := dk_7 (dk_at dksX1_make_0 8 rfl rfl)
theorem dX1_make_9 : decode cX1_make 9 = .ok (.if_icmp .ge 16, 3) := dk_162 0 16 (dk_at dksX1_make_0 9 rfl rfl)
theorem dX1_make_12 : decode cX1_make 12 = .ok (.aload_n 0, 1) := dk_42 (dk_at dksX1_make_0 12 rfl rfl)
theorem dX1_make_13 : decode cX1_make 13 = .ok (.iload_n 1, 1) := dk_27 (dk_at dksX1_make_0 13 rfl rfl)
theorem dX1_make_14 : decode cX1_make 14 = .ok (.iload_n 1, 1) := dk_27 (dk_at dksX1_make_0 14 rfl rfl)
theorem dX1_make_15 : decode cX1_make 15 = .ok (.invokestatic 25, 3) := dk_184 0 25 (dk_at dksX1_make_0 15 rfl rfl)
theorem dX1_make_18 : decode cX1_make 18 = .ok (.aastore, 1) := dk_83 (dk_at dksX1_make_0 18 rfl rfl)
theorem dX1_make_19 : decode cX1_make 19 = .ok (.iinc 1 1, 3) := dk_132 1 1 (dk_at dksX1_make_0 19 rfl rfl)
theorem dX1_make_22 : decode cX1_make 22 = .ok (.goto (-15), 3) := dk_167 255 241 (dk_at dksX1_make_1 0 rfl rfl)
theorem dX1_make_25 : decode cX1_make 25 = .ok (.aload_n 0, 1) := dk_42 (dk_at dksX1_make_1 3 rfl rfl)
theorem dX1_make_26 : decode cX1_make 26 = .ok (.areturn, 1) := dk_176 (dk_at dksX1_make_1 4 rfl rfl)
abbrev cX1_fresh : ByteArray := prog_4_method_4_code
def yX1_fresh : MethodName := ⟨RX1, "fresh", "(I)LBinaryArrayHeap;"⟩
def dkwX1_fresh_1 : List UInt8 := [183, 0, 34, 176]
abbrev dktX1_fresh_1 : List UInt8 := dkwX1_fresh_1 ++ []
def dkwX1_fresh_0 : List UInt8 := [26, 5, 162, 0, 13, 187, 0, 23, 89, 183, 0, 29, 167, 0, 13, 187, 0, 23, 89, 178, 0, 30]
abbrev dktX1_fresh_0 : List UInt8 := dkwX1_fresh_0 ++ dktX1_fresh_1
theorem dksX1_fresh_0 : cX1_fresh.data.toList.drop 0 = dktX1_fresh_0 := by decide +kernel
theorem dksX1_fresh_1 : cX1_fresh.data.toList.drop 22 = dktX1_fresh_1 := dk_seg dksX1_fresh_0 22 rfl rfl
theorem dX1_fresh_0 : decode cX1_fresh 0 = .ok (.iload_n 0, 1) := dk_26 (dk_at dksX1_fresh_0 0 rfl rfl)
theorem dX1_fresh_1 : decode cX1_fresh 1 = .ok (.iconst 2, 1) := dk_5 (dk_at dksX1_fresh_0 1 rfl rfl)
theorem dX1_fresh_2 : decode cX1_fresh 2 = .ok (.if_icmp .ge 13, 3) := dk_162 0 13 (dk_at dksX1_fresh_0 2 rfl rfl)
theorem dX1_fresh_5 : decode cX1_fresh 5 = .ok (.new 23, 3) := dk_187 0 23 (dk_at dksX1_fresh_0 5 rfl rfl)
theorem dX1_fresh_8 : decode cX1_fresh 8 = .ok (.dup, 1) := dk_89 (dk_at dksX1_fresh_0 8 rfl rfl)
theorem dX1_fresh_9 : decode cX1_fresh 9 = .ok (.invokespecial 29, 3) := dk_183 0 29 (dk_at dksX1_fresh_0 9 rfl rfl)
theorem dX1_fresh_12 : decode cX1_fresh 12 = .ok (.goto 13, 3) := dk_167 0 13 (dk_at dksX1_fresh_0 12 rfl rfl)
theorem dX1_fresh_15 : decode cX1_fresh 15 = .ok (.new 23, 3) := dk_187 0 23 (dk_at dksX1_fresh_0 15 rfl rfl)
theorem dX1_fresh_18 : decode cX1_fresh 18 = .ok (.dup, 1) := dk_89 (dk_at dksX1_fresh_0 18 rfl rfl)
theorem dX1_fresh_19 : decode cX1_fresh 19 = .ok (.getstatic 30, 3) := dk_178 0 30 (dk_at dksX1_fresh_0 19 rfl rfl)
theorem dX1_fresh_22 : decode cX1_fresh 22 = .ok (.invokespecial 34, 3) := dk_183 0 34 (dk_at dksX1_fresh_1 0 rfl rfl)
theorem dX1_fresh_25 : decode cX1_fresh 25 = .ok (.areturn, 1) := dk_176 (dk_at dksX1_fresh_1 3 rfl rfl)
abbrev cX1_put : ByteArray := prog_4_method_5_code
def yX1_put : MethodName := ⟨RX1, "put", "(II)Z"⟩
def dkwX1_put_1 : List UInt8 := [180, 0, 13, 27, 6, 126, 50, 28, 18, 41, 126, 184, 0, 42, 182, 0, 46, 4, 172]
abbrev dktX1_put_1 : List UInt8 := dkwX1_put_1 ++ []
def dkwX1_put_0 : List UInt8 := [42, 180, 0, 37, 16, 64, 161, 0, 5, 3, 172, 42, 89, 180, 0, 37, 4, 96, 181, 0, 37, 42]
abbrev dktX1_put_0 : List UInt8 := dkwX1_put_0 ++ dktX1_put_1
theorem dksX1_put_0 : cX1_put.data.toList.drop 0 = dktX1_put_0 := by decide +kernel
theorem dksX1_put_1 : cX1_put.data.toList.drop 22 = dktX1_put_1 := dk_seg dksX1_put_0 22 rfl rfl
theorem dX1_put_0 : decode cX1_put 0 = .ok (.aload_n 0, 1) := dk_42 (dk_at dksX1_put_0 0 rfl rfl)
theorem dX1_put_1 : decode cX1_put 1 = .ok (.getfield 37, 3) := dk_180 0 37 (dk_at dksX1_put_0 1 rfl rfl)
theorem dX1_put_4 : decode cX1_put 4 = .ok (.bipush 64, 2) := dk_16 64 (dk_at dksX1_put_0 4 rfl rfl)
theorem dX1_put_6 : decode cX1_put 6 = .ok (.if_icmp .lt 5, 3) := dk_161 0 5 (dk_at dksX1_put_0 6 rfl rfl)
theorem dX1_put_9 : decode cX1_put 9 = .ok (.iconst 0, 1) := dk_3 (dk_at dksX1_put_0 9 rfl rfl)
theorem dX1_put_10 : decode cX1_put 10 = .ok (.ireturn, 1) := dk_172 (dk_at dksX1_put_0 10 rfl rfl)
theorem dX1_put_11 : decode cX1_put 11 = .ok (.aload_n 0, 1) := dk_42 (dk_at dksX1_put_0 11 rfl rfl)
theorem dX1_put_12 : decode cX1_put 12 = .ok (.dup, 1) := dk_89 (dk_at dksX1_put_0 12 rfl rfl)
theorem dX1_put_13 : decode cX1_put 13 = .ok (.getfield 37, 3) := dk_180 0 37 (dk_at dksX1_put_0 13 rfl rfl)
theorem dX1_put_16 : decode cX1_put 16 = .ok (.iconst 1, 1) := dk_4 (dk_at dksX1_put_0 16 rfl rfl)
theorem dX1_put_17 : decode cX1_put 17 = .ok (.iadd, 1) := dk_96 (dk_at dksX1_put_0 17 rfl rfl)
theorem dX1_put_18 : decode cX1_put 18 = .ok (.putfield 37, 3) := dk_181 0 37 (dk_at dksX1_put_0 18 rfl rfl)
theorem dX1_put_21 : decode cX1_put 21 = .ok (.aload_n 0, 1) := dk_42 (dk_at dksX1_put_0 21 rfl rfl)
theorem dX1_put_22 : decode cX1_put 22 = .ok (.getfield 13, 3) := dk_180 0 13 (dk_at dksX1_put_1 0 rfl rfl)
theorem dX1_put_25 : decode cX1_put 25 = .ok (.iload_n 1, 1) := dk_27 (dk_at dksX1_put_1 3 rfl rfl)
theorem dX1_put_26 : decode cX1_put 26 = .ok (.iconst 3, 1) := dk_6 (dk_at dksX1_put_1 4 rfl rfl)
theorem dX1_put_27 : decode cX1_put 27 = .ok (.iand, 1) := dk_126 (dk_at dksX1_put_1 5 rfl rfl)
theorem dX1_put_28 : decode cX1_put 28 = .ok (.aaload, 1) := dk_50 (dk_at dksX1_put_1 6 rfl rfl)
theorem dX1_put_29 : decode cX1_put 29 = .ok (.iload_n 2, 1) := dk_28 (dk_at dksX1_put_1 7 rfl rfl)
theorem dX1_put_30 : decode cX1_put 30 = .ok (.ldc 41, 2) := dk_18 41 (dk_at dksX1_put_1 8 rfl rfl)
theorem dX1_put_32 : decode cX1_put 32 = .ok (.iand, 1) := dk_126 (dk_at dksX1_put_1 10 rfl rfl)
theorem dX1_put_33 : decode cX1_put 33 = .ok (.invokestatic 42, 3) := dk_184 0 42 (dk_at dksX1_put_1 11 rfl rfl)
theorem dX1_put_36 : decode cX1_put 36 = .ok (.invokevirtual 46, 3) := dk_182 0 46 (dk_at dksX1_put_1 14 rfl rfl)
theorem dX1_put_39 : decode cX1_put 39 = .ok (.iconst 1, 1) := dk_4 (dk_at dksX1_put_1 17 rfl rfl)
theorem dX1_put_40 : decode cX1_put 40 = .ok (.ireturn, 1) := dk_172 (dk_at dksX1_put_1 18 rfl rfl)
abbrev cX1_order : ByteArray := prog_4_method_2_code
def yX1_order : MethodName := ⟨RX1, "order", "(Ljava/lang/Object;Ljava/lang/Object;)I"⟩
def dkwX1_order_1 : List UInt8 := [167, 0, 13, 28, 29, 164, 0, 7, 4, 167, 0, 4, 3, 172]
abbrev dktX1_order_1 : List UInt8 := dkwX1_order_1 ++ []
def dkwX1_order_0 : List UInt8 := [42, 192, 0, 17, 182, 0, 19, 61, 43, 192, 0, 17, 182, 0, 19, 62, 28, 29, 162, 0, 7, 2]
abbrev dktX1_order_0 : List UInt8 := dkwX1_order_0 ++ dktX1_order_1
theorem dksX1_order_0 : cX1_order.data.toList.drop 0 = dktX1_order_0 := by decide +kernel
theorem dksX1_order_1 : cX1_order.data.toList.drop 22 = dktX1_order_1 := dk_seg dksX1_order_0 22 rfl rfl
theorem dX1_order_0 : decode cX1_order 0 = .ok (.aload_n 0, 1) := dk_42 (dk_at dksX1_order_0 0 rfl rfl)
theorem dX1_order_1 : decode cX1_order 1 = .ok (.checkcast 17, 3) := dk_192 0 17 (dk_at dksX1_order_0 1 rfl rfl)
theorem dX1_order_4 : decode cX1_order 4 = .ok (.invokevirtual 19, 3) := dk_182 0 19 (dk_at dksX1_order_0 4 rfl rfl)
theorem dX1_order_7 : decode cX1_order 7 = .ok (.istore_n 2, 1) := dk_61 (dk_at dksX1_order_0 7 rfl rfl)
theorem dX1_order_8 : decode cX1_order 8 = .ok (.aload_n 1, 1) := dk_43 (dk_at dksX1_order_0 8 rfl rfl)
theorem dX1_order_9 : decode cX1_order 9 = .ok (.checkcast 17, 3) := dk_192 0 17 (dk_at dksX1_order_0 9 rfl rfl)
theorem dX1_order_12 : decode cX1_order 12 = .ok (.invokevirtual 19, 3) := dk_182 0 19 (dk_at dksX1_order_0 12 rfl rfl)
theorem dX1_order_15 : decode cX1_order 15 = .ok (.istore_n 3, 1) := dk_62 (dk_at dksX1_order_0 15 rfl rfl)
theorem dX1_order_16 : decode cX1_order 16 = .ok (.iload_n 2, 1) := dk_28 (dk_at dksX1_order_0 16 rfl rfl)
theorem dX1_order_17 : decode cX1_order 17 = .ok (.iload_n 3, 1) := dk_29 (dk_at dksX1_order_0 17 rfl rfl)
theorem dX1_order_18 : decode cX1_order 18 = .ok (.if_icmp .ge 7, 3) := dk_162 0 7 (dk_at dksX1_order_0 18 rfl rfl)
theorem dX1_order_21 : decode cX1_order 21 = .ok (.iconst (-1), 1) := dk_2 (dk_at dksX1_order_0 21 rfl rfl)
theorem dX1_order_22 : decode cX1_order 22 = .ok (.goto 13, 3) := dk_167 0 13 (dk_at dksX1_order_1 0 rfl rfl)
theorem dX1_order_25 : decode cX1_order 25 = .ok (.iload_n 2, 1) := dk_28 (dk_at dksX1_order_1 3 rfl rfl)
theorem dX1_order_26 : decode cX1_order 26 = .ok (.iload_n 3, 1) := dk_29 (dk_at dksX1_order_1 4 rfl rfl)
theorem dX1_order_27 : decode cX1_order 27 = .ok (.if_icmp .le 7, 3) := dk_164 0 7 (dk_at dksX1_order_1 5 rfl rfl)
theorem dX1_order_30 : decode cX1_order 30 = .ok (.iconst 1, 1) := dk_4 (dk_at dksX1_order_1 8 rfl rfl)
theorem dX1_order_31 : decode cX1_order 31 = .ok (.goto 4, 3) := dk_167 0 4 (dk_at dksX1_order_1 9 rfl rfl)
theorem dX1_order_34 : decode cX1_order 34 = .ok (.iconst 0, 1) := dk_3 (dk_at dksX1_order_1 12 rfl rfl)
theorem dX1_order_35 : decode cX1_order 35 = .ok (.ireturn, 1) := dk_172 (dk_at dksX1_order_1 13 rfl rfl)
abbrev cX1_four : ByteArray := prog_4_method_6_code
def yX1_four : MethodName := ⟨RX1, "four", "(IIIII)Z"⟩
def dkwX1_four_4 : List UInt8 := [25, 6, 178, 0, 30, 184, 0, 54, 83, 4, 172]
abbrev dktX1_four_4 : List UInt8 := dkwX1_four_4 ++ []
def dkwX1_four_3 : List UInt8 := [6, 126, 54, 7, 42, 180, 0, 13, 21, 7, 21, 7, 5, 162, 0, 11, 25, 6, 184, 0, 50, 167, 0, 11]
abbrev dktX1_four_3 : List UInt8 := dkwX1_four_3 ++ dktX1_four_4
def dkwX1_four_2 : List UInt8 := [5, 21, 4, 18, 41, 126, 184, 0, 42, 83, 89, 6, 21, 5, 18, 41, 126, 184, 0, 42, 83, 58, 6, 27]
abbrev dktX1_four_2 : List UInt8 := dkwX1_four_2 ++ dktX1_four_3
def dkwX1_four_1 : List UInt8 := [189, 0, 17, 89, 3, 28, 18, 41, 126, 184, 0, 42, 83, 89, 4, 29, 18, 41, 126, 184, 0, 42, 83, 89]
abbrev dktX1_four_1 : List UInt8 := dkwX1_four_1 ++ dktX1_four_2
def dkwX1_four_0 : List UInt8 := [42, 180, 0, 37, 16, 60, 164, 0, 5, 3, 172, 42, 89, 180, 0, 37, 7, 96, 181, 0, 37, 7]
abbrev dktX1_four_0 : List UInt8 := dkwX1_four_0 ++ dktX1_four_1
theorem dksX1_four_0 : cX1_four.data.toList.drop 0 = dktX1_four_0 := by decide +kernel
theorem dksX1_four_1 : cX1_four.data.toList.drop 22 = dktX1_four_1 := dk_seg dksX1_four_0 22 rfl rfl
theorem dksX1_four_2 : cX1_four.data.toList.drop 46 = dktX1_four_2 := dk_seg dksX1_four_1 24 rfl rfl
theorem dksX1_four_3 : cX1_four.data.toList.drop 70 = dktX1_four_3 := dk_seg dksX1_four_2 24 rfl rfl
theorem dksX1_four_4 : cX1_four.data.toList.drop 94 = dktX1_four_4 := dk_seg dksX1_four_3 24 rfl rfl
theorem dX1_four_0 : decode cX1_four 0 = .ok (.aload_n 0, 1) := dk_42 (dk_at dksX1_four_0 0 rfl rfl)
theorem dX1_four_1 : decode cX1_four 1 = .ok (.getfield 37, 3) := dk_180 0 37 (dk_at dksX1_four_0 1 rfl rfl)
theorem dX1_four_4 : decode cX1_four 4 = .ok (.bipush 60, 2) := dk_16 60 (dk_at dksX1_four_0 4 rfl rfl)
theorem dX1_four_6 : decode cX1_four 6 = .ok (.if_icmp .le 5, 3) := dk_164 0 5 (dk_at dksX1_four_0 6 rfl rfl)
theorem dX1_four_9 : decode cX1_four 9 = .ok (.iconst 0, 1) := dk_3 (dk_at dksX1_four_0 9 rfl rfl)
theorem dX1_four_10 : decode cX1_four 10 = .ok (.ireturn, 1) := dk_172 (dk_at dksX1_four_0 10 rfl rfl)
theorem dX1_four_11 : decode cX1_four 11 = .ok (.aload_n 0, 1) := dk_42 (dk_at dksX1_four_0 11 rfl rfl)
theorem dX1_four_12 : decode cX1_four 12 = .ok (.dup, 1) := dk_89 (dk_at dksX1_four_0 12 rfl rfl)
theorem dX1_four_13 : decode cX1_four 13 = .ok (.getfield 37, 3) := dk_180 0 37 (dk_at dksX1_four_0 13 rfl rfl)
theorem dX1_four_16 : decode cX1_four 16 = .ok (.iconst 4, 1) := dk_7 (dk_at dksX1_four_0 16 rfl rfl)
theorem dX1_four_17 : decode cX1_four 17 = .ok (.iadd, 1) := dk_96 (dk_at dksX1_four_0 17 rfl rfl)
theorem dX1_four_18 : decode cX1_four 18 = .ok (.putfield 37, 3) := dk_181 0 37 (dk_at dksX1_four_0 18 rfl rfl)
theorem dX1_four_21 : decode cX1_four 21 = .ok (.iconst 4, 1) := dk_7 (dk_at dksX1_four_0 21 rfl rfl)
theorem dX1_four_22 : decode cX1_four 22 = .ok (.anewarray 17, 3) := dk_189 0 17 (dk_at dksX1_four_1 0 rfl rfl)
theorem dX1_four_25 : decode cX1_four 25 = .ok (.dup, 1) := dk_89 (dk_at dksX1_four_1 3 rfl rfl)
theorem dX1_four_26 : decode cX1_four 26 = .ok (.iconst 0, 1) := dk_3 (dk_at dksX1_four_1 4 rfl rfl)
theorem dX1_four_27 : decode cX1_four 27 = .ok (.iload_n 2, 1) := dk_28 (dk_at dksX1_four_1 5 rfl rfl)
theorem dX1_four_28 : decode cX1_four 28 = .ok (.ldc 41, 2) := dk_18 41 (dk_at dksX1_four_1 6 rfl rfl)
theorem dX1_four_30 : decode cX1_four 30 = .ok (.iand, 1) := dk_126 (dk_at dksX1_four_1 8 rfl rfl)
theorem dX1_four_31 : decode cX1_four 31 = .ok (.invokestatic 42, 3) := dk_184 0 42 (dk_at dksX1_four_1 9 rfl rfl)
theorem dX1_four_34 : decode cX1_four 34 = .ok (.aastore, 1) := dk_83 (dk_at dksX1_four_1 12 rfl rfl)
theorem dX1_four_35 : decode cX1_four 35 = .ok (.dup, 1) := dk_89 (dk_at dksX1_four_1 13 rfl rfl)
theorem dX1_four_36 : decode cX1_four 36 = .ok (.iconst 1, 1) := dk_4 (dk_at dksX1_four_1 14 rfl rfl)
theorem dX1_four_37 : decode cX1_four 37 = .ok (.iload_n 3, 1) := dk_29 (dk_at dksX1_four_1 15 rfl rfl)
theorem dX1_four_38 : decode cX1_four 38 = .ok (.ldc 41, 2) := dk_18 41 (dk_at dksX1_four_1 16 rfl rfl)
theorem dX1_four_40 : decode cX1_four 40 = .ok (.iand, 1) := dk_126 (dk_at dksX1_four_1 18 rfl rfl)
theorem dX1_four_41 : decode cX1_four 41 = .ok (.invokestatic 42, 3) := dk_184 0 42 (dk_at dksX1_four_1 19 rfl rfl)
theorem dX1_four_44 : decode cX1_four 44 = .ok (.aastore, 1) := dk_83 (dk_at dksX1_four_1 22 rfl rfl)
theorem dX1_four_45 : decode cX1_four 45 = .ok (.dup, 1) := dk_89 (dk_at dksX1_four_1 23 rfl rfl)
theorem dX1_four_46 : decode cX1_four 46 = .ok (.iconst 2, 1) := dk_5 (dk_at dksX1_four_2 0 rfl rfl)
theorem dX1_four_47 : decode cX1_four 47 = .ok (.iload 4, 2) := dk_21 4 (dk_at dksX1_four_2 1 rfl rfl)
theorem dX1_four_49 : decode cX1_four 49 = .ok (.ldc 41, 2) := dk_18 41 (dk_at dksX1_four_2 3 rfl rfl)
theorem dX1_four_51 : decode cX1_four 51 = .ok (.iand, 1) := dk_126 (dk_at dksX1_four_2 5 rfl rfl)
theorem dX1_four_52 : decode cX1_four 52 = .ok (.invokestatic 42, 3) := dk_184 0 42 (dk_at dksX1_four_2 6 rfl rfl)
theorem dX1_four_55 : decode cX1_four 55 = .ok (.aastore, 1) := dk_83 (dk_at dksX1_four_2 9 rfl rfl)
theorem dX1_four_56 : decode cX1_four 56 = .ok (.dup, 1) := dk_89 (dk_at dksX1_four_2 10 rfl rfl)
theorem dX1_four_57 : decode cX1_four 57 = .ok (.iconst 3, 1) := dk_6 (dk_at dksX1_four_2 11 rfl rfl)
theorem dX1_four_58 : decode cX1_four 58 = .ok (.iload 5, 2) := dk_21 5 (dk_at dksX1_four_2 12 rfl rfl)
theorem dX1_four_60 : decode cX1_four 60 = .ok (.ldc 41, 2) := dk_18 41 (dk_at dksX1_four_2 14 rfl rfl)
theorem dX1_four_62 : decode cX1_four 62 = .ok (.iand, 1) := dk_126 (dk_at dksX1_four_2 16 rfl rfl)
theorem dX1_four_63 : decode cX1_four 63 = .ok (.invokestatic 42, 3) := dk_184 0 42 (dk_at dksX1_four_2 17 rfl rfl)
theorem dX1_four_66 : decode cX1_four 66 = .ok (.aastore, 1) := dk_83 (dk_at dksX1_four_2 20 rfl rfl)
theorem dX1_four_67 : decode cX1_four 67 = .ok (.astore 6, 2) := dk_58 6 (dk_at dksX1_four_2 21 rfl rfl)
theorem dX1_four_69 : decode cX1_four 69 = .ok (.iload_n 1, 1) := dk_27 (dk_at dksX1_four_2 23 rfl rfl)
theorem dX1_four_70 : decode cX1_four 70 = .ok (.iconst 3, 1) := dk_6 (dk_at dksX1_four_3 0 rfl rfl)
theorem dX1_four_71 : decode cX1_four 71 = .ok (.iand, 1) := dk_126 (dk_at dksX1_four_3 1 rfl rfl)
theorem dX1_four_72 : decode cX1_four 72 = .ok (.istore 7, 2) := dk_54 7 (dk_at dksX1_four_3 2 rfl rfl)
theorem dX1_four_74 : decode cX1_four 74 = .ok (.aload_n 0, 1) := dk_42 (dk_at dksX1_four_3 4 rfl rfl)
theorem dX1_four_75 : decode cX1_four 75 = .ok (.getfield 13, 3) := dk_180 0 13 (dk_at dksX1_four_3 5 rfl rfl)
theorem dX1_four_78 : decode cX1_four 78 = .ok (.iload 7, 2) := dk_21 7 (dk_at dksX1_four_3 8 rfl rfl)
theorem dX1_four_80 : decode cX1_four 80 = .ok (.iload 7, 2) := dk_21 7 (dk_at dksX1_four_3 10 rfl rfl)
theorem dX1_four_82 : decode cX1_four 82 = .ok (.iconst 2, 1) := dk_5 (dk_at dksX1_four_3 12 rfl rfl)
theorem dX1_four_83 : decode cX1_four 83 = .ok (.if_icmp .ge 11, 3) := dk_162 0 11 (dk_at dksX1_four_3 13 rfl rfl)
theorem dX1_four_86 : decode cX1_four 86 = .ok (.aload 6, 2) := dk_25 6 (dk_at dksX1_four_3 16 rfl rfl)
theorem dX1_four_88 : decode cX1_four 88 = .ok (.invokestatic 50, 3) := dk_184 0 50 (dk_at dksX1_four_3 18 rfl rfl)
theorem dX1_four_91 : decode cX1_four 91 = .ok (.goto 11, 3) := dk_167 0 11 (dk_at dksX1_four_3 21 rfl rfl)
theorem dX1_four_94 : decode cX1_four 94 = .ok (.aload 6, 2) := dk_25 6 (dk_at dksX1_four_4 0 rfl rfl)
theorem dX1_four_96 : decode cX1_four 96 = .ok (.getstatic 30, 3) := dk_178 0 30 (dk_at dksX1_four_4 2 rfl rfl)
theorem dX1_four_99 : decode cX1_four 99 = .ok (.invokestatic 54, 3) := dk_184 0 54 (dk_at dksX1_four_4 5 rfl rfl)
theorem dX1_four_102 : decode cX1_four 102 = .ok (.aastore, 1) := dk_83 (dk_at dksX1_four_4 8 rfl rfl)
theorem dX1_four_103 : decode cX1_four 103 = .ok (.iconst 1, 1) := dk_4 (dk_at dksX1_four_4 9 rfl rfl)
theorem dX1_four_104 : decode cX1_four 104 = .ok (.ireturn, 1) := dk_172 (dk_at dksX1_four_4 10 rfl rfl)
abbrev cX1_least : ByteArray := prog_4_method_7_code
def yX1_least : MethodName := ⟨RX1, "least", "(I)I"⟩
def dkwX1_least_1 : List UInt8 := [192, 0, 17, 182, 0, 19, 172]
abbrev dktX1_least_1 : List UInt8 := dkwX1_least_1 ++ []
def dkwX1_least_0 : List UInt8 := [42, 180, 0, 13, 27, 6, 126, 50, 77, 44, 182, 0, 57, 153, 0, 7, 2, 167, 0, 13, 44, 182, 0, 61]
abbrev dktX1_least_0 : List UInt8 := dkwX1_least_0 ++ dktX1_least_1
theorem dksX1_least_0 : cX1_least.data.toList.drop 0 = dktX1_least_0 := by decide +kernel
theorem dksX1_least_1 : cX1_least.data.toList.drop 24 = dktX1_least_1 := dk_seg dksX1_least_0 24 rfl rfl
theorem dX1_least_0 : decode cX1_least 0 = .ok (.aload_n 0, 1) := dk_42 (dk_at dksX1_least_0 0 rfl rfl)
theorem dX1_least_1 : decode cX1_least 1 = .ok (.getfield 13, 3) := dk_180 0 13 (dk_at dksX1_least_0 1 rfl rfl)
theorem dX1_least_4 : decode cX1_least 4 = .ok (.iload_n 1, 1) := dk_27 (dk_at dksX1_least_0 4 rfl rfl)
theorem dX1_least_5 : decode cX1_least 5 = .ok (.iconst 3, 1) := dk_6 (dk_at dksX1_least_0 5 rfl rfl)
theorem dX1_least_6 : decode cX1_least 6 = .ok (.iand, 1) := dk_126 (dk_at dksX1_least_0 6 rfl rfl)
theorem dX1_least_7 : decode cX1_least 7 = .ok (.aaload, 1) := dk_50 (dk_at dksX1_least_0 7 rfl rfl)
theorem dX1_least_8 : decode cX1_least 8 = .ok (.astore_n 2, 1) := dk_77 (dk_at dksX1_least_0 8 rfl rfl)
theorem dX1_least_9 : decode cX1_least 9 = .ok (.aload_n 2, 1) := dk_44 (dk_at dksX1_least_0 9 rfl rfl)
theorem dX1_least_10 : decode cX1_least 10 = .ok (.invokevirtual 57, 3) := dk_182 0 57 (dk_at dksX1_least_0 10 rfl rfl)
theorem dX1_least_13 : decode cX1_least 13 = .ok (.ifCond .eq 7, 3) := dk_153 0 7 (dk_at dksX1_least_0 13 rfl rfl)
theorem dX1_least_16 : decode cX1_least 16 = .ok (.iconst (-1), 1) := dk_2 (dk_at dksX1_least_0 16 rfl rfl)
theorem dX1_least_17 : decode cX1_least 17 = .ok (.goto 13, 3) := dk_167 0 13 (dk_at dksX1_least_0 17 rfl rfl)
theorem dX1_least_20 : decode cX1_least 20 = .ok (.aload_n 2, 1) := dk_44 (dk_at dksX1_least_0 20 rfl rfl)
theorem dX1_least_21 : decode cX1_least 21 = .ok (.invokevirtual 61, 3) := dk_182 0 61 (dk_at dksX1_least_0 21 rfl rfl)
theorem dX1_least_24 : decode cX1_least 24 = .ok (.checkcast 17, 3) := dk_192 0 17 (dk_at dksX1_least_1 0 rfl rfl)
theorem dX1_least_27 : decode cX1_least 27 = .ok (.invokevirtual 19, 3) := dk_182 0 19 (dk_at dksX1_least_1 3 rfl rfl)
theorem dX1_least_30 : decode cX1_least 30 = .ok (.ireturn, 1) := dk_172 (dk_at dksX1_least_1 6 rfl rfl)
abbrev cX1_takeLeast : ByteArray := prog_4_method_8_code
def yX1_takeLeast : MethodName := ⟨RX1, "takeLeast", "(I)I"⟩
def dkwX1_takeLeast_1 : List UInt8 := [192, 0, 17, 182, 0, 19, 172]
abbrev dktX1_takeLeast_1 : List UInt8 := dkwX1_takeLeast_1 ++ []
def dkwX1_takeLeast_0 : List UInt8 := [42, 180, 0, 13, 27, 6, 126, 50, 77, 44, 182, 0, 57, 153, 0, 5, 2, 172, 44, 182, 0, 65]
abbrev dktX1_takeLeast_0 : List UInt8 := dkwX1_takeLeast_0 ++ dktX1_takeLeast_1
theorem dksX1_takeLeast_0 : cX1_takeLeast.data.toList.drop 0 = dktX1_takeLeast_0 := by decide +kernel
theorem dksX1_takeLeast_1 : cX1_takeLeast.data.toList.drop 22 = dktX1_takeLeast_1 := dk_seg dksX1_takeLeast_0 22 rfl rfl
theorem dX1_takeLeast_0 : decode cX1_takeLeast 0 = .ok (.aload_n 0, 1) := dk_42 (dk_at dksX1_takeLeast_0 0 rfl rfl)
theorem dX1_takeLeast_1 : decode cX1_takeLeast 1 = .ok (.getfield 13, 3) := dk_180 0 13 (dk_at dksX1_takeLeast_0 1 rfl rfl)
theorem dX1_takeLeast_4 : decode cX1_takeLeast 4 = .ok (.iload_n 1, 1) := dk_27 (dk_at dksX1_takeLeast_0 4 rfl rfl)
theorem dX1_takeLeast_5 : decode cX1_takeLeast 5 = .ok (.iconst 3, 1) := dk_6 (dk_at dksX1_takeLeast_0 5 rfl rfl)
theorem dX1_takeLeast_6 : decode cX1_takeLeast 6 = .ok (.iand, 1) := dk_126 (dk_at dksX1_takeLeast_0 6 rfl rfl)
theorem dX1_takeLeast_7 : decode cX1_takeLeast 7 = .ok (.aaload, 1) := dk_50 (dk_at dksX1_takeLeast_0 7 rfl rfl)
theorem dX1_takeLeast_8 : decode cX1_takeLeast 8 = .ok (.astore_n 2, 1) := dk_77 (dk_at dksX1_takeLeast_0 8 rfl rfl)
theorem dX1_takeLeast_9 : decode cX1_takeLeast 9 = .ok (.aload_n 2, 1) := dk_44 (dk_at dksX1_takeLeast_0 9 rfl rfl)
theorem dX1_takeLeast_10 : decode cX1_takeLeast 10 = .ok (.invokevirtual 57, 3) := dk_182 0 57 (dk_at dksX1_takeLeast_0 10 rfl rfl)
theorem dX1_takeLeast_13 : decode cX1_takeLeast 13 = .ok (.ifCond .eq 5, 3) := dk_153 0 5 (dk_at dksX1_takeLeast_0 13 rfl rfl)
theorem dX1_takeLeast_16 : decode cX1_takeLeast 16 = .ok (.iconst (-1), 1) := dk_2 (dk_at dksX1_takeLeast_0 16 rfl rfl)
theorem dX1_takeLeast_17 : decode cX1_takeLeast 17 = .ok (.ireturn, 1) := dk_172 (dk_at dksX1_takeLeast_0 17 rfl rfl)
theorem dX1_takeLeast_18 : decode cX1_takeLeast 18 = .ok (.aload_n 2, 1) := dk_44 (dk_at dksX1_takeLeast_0 18 rfl rfl)
theorem dX1_takeLeast_19 : decode cX1_takeLeast 19 = .ok (.invokevirtual 65, 3) := dk_182 0 65 (dk_at dksX1_takeLeast_0 19 rfl rfl)
theorem dX1_takeLeast_22 : decode cX1_takeLeast 22 = .ok (.checkcast 17, 3) := dk_192 0 17 (dk_at dksX1_takeLeast_1 0 rfl rfl)
theorem dX1_takeLeast_25 : decode cX1_takeLeast 25 = .ok (.invokevirtual 19, 3) := dk_182 0 19 (dk_at dksX1_takeLeast_1 3 rfl rfl)
theorem dX1_takeLeast_28 : decode cX1_takeLeast 28 = .ok (.ireturn, 1) := dk_172 (dk_at dksX1_takeLeast_1 6 rfl rfl)
abbrev cX1_size : ByteArray := prog_4_method_9_code
def yX1_size : MethodName := ⟨RX1, "size", "(I)I"⟩
def dkwX1_size_0 : List UInt8 := [42, 180, 0, 13, 27, 6, 126, 50, 182, 0, 68, 136, 172]
abbrev dktX1_size_0 : List UInt8 := dkwX1_size_0 ++ []
theorem dksX1_size_0 : cX1_size.data.toList.drop 0 = dktX1_size_0 := by decide +kernel
theorem dX1_size_0 : decode cX1_size 0 = .ok (.aload_n 0, 1) := dk_42 (dk_at dksX1_size_0 0 rfl rfl)
theorem dX1_size_1 : decode cX1_size 1 = .ok (.getfield 13, 3) := dk_180 0 13 (dk_at dksX1_size_0 1 rfl rfl)
theorem dX1_size_4 : decode cX1_size 4 = .ok (.iload_n 1, 1) := dk_27 (dk_at dksX1_size_0 4 rfl rfl)
theorem dX1_size_5 : decode cX1_size 5 = .ok (.iconst 3, 1) := dk_6 (dk_at dksX1_size_0 5 rfl rfl)
theorem dX1_size_6 : decode cX1_size 6 = .ok (.iand, 1) := dk_126 (dk_at dksX1_size_0 6 rfl rfl)
theorem dX1_size_7 : decode cX1_size 7 = .ok (.aaload, 1) := dk_50 (dk_at dksX1_size_0 7 rfl rfl)
theorem dX1_size_8 : decode cX1_size 8 = .ok (.invokevirtual 68, 3) := dk_182 0 68 (dk_at dksX1_size_0 8 rfl rfl)
theorem dX1_size_11 : decode cX1_size 11 = .ok (.l2i, 1) := dk_136 (dk_at dksX1_size_0 11 rfl rfl)
theorem dX1_size_12 : decode cX1_size 12 = .ok (.ireturn, 1) := dk_172 (dk_at dksX1_size_0 12 rfl rfl)
abbrev cX1_isEmpty : ByteArray := prog_4_method_10_code
def yX1_isEmpty : MethodName := ⟨RX1, "isEmpty", "(I)Z"⟩
def dkwX1_isEmpty_0 : List UInt8 := [42, 180, 0, 13, 27, 6, 126, 50, 182, 0, 57, 172]
abbrev dktX1_isEmpty_0 : List UInt8 := dkwX1_isEmpty_0 ++ []
theorem dksX1_isEmpty_0 : cX1_isEmpty.data.toList.drop 0 = dktX1_isEmpty_0 := by decide +kernel
theorem dX1_isEmpty_0 : decode cX1_isEmpty 0 = .ok (.aload_n 0, 1) := dk_42 (dk_at dksX1_isEmpty_0 0 rfl rfl)
theorem dX1_isEmpty_1 : decode cX1_isEmpty 1 = .ok (.getfield 13, 3) := dk_180 0 13 (dk_at dksX1_isEmpty_0 1 rfl rfl)
theorem dX1_isEmpty_4 : decode cX1_isEmpty 4 = .ok (.iload_n 1, 1) := dk_27 (dk_at dksX1_isEmpty_0 4 rfl rfl)
theorem dX1_isEmpty_5 : decode cX1_isEmpty 5 = .ok (.iconst 3, 1) := dk_6 (dk_at dksX1_isEmpty_0 5 rfl rfl)
theorem dX1_isEmpty_6 : decode cX1_isEmpty 6 = .ok (.iand, 1) := dk_126 (dk_at dksX1_isEmpty_0 6 rfl rfl)
theorem dX1_isEmpty_7 : decode cX1_isEmpty 7 = .ok (.aaload, 1) := dk_50 (dk_at dksX1_isEmpty_0 7 rfl rfl)
theorem dX1_isEmpty_8 : decode cX1_isEmpty 8 = .ok (.invokevirtual 57, 3) := dk_182 0 57 (dk_at dksX1_isEmpty_0 8 rfl rfl)
theorem dX1_isEmpty_11 : decode cX1_isEmpty 11 = .ok (.ireturn, 1) := dk_172 (dk_at dksX1_isEmpty_0 11 rfl rfl)
abbrev cX1_clear : ByteArray := prog_4_method_11_code
def yX1_clear : MethodName := ⟨RX1, "clear", "(I)V"⟩
def dkwX1_clear_0 : List UInt8 := [42, 180, 0, 13, 27, 6, 126, 50, 182, 0, 72, 177]
abbrev dktX1_clear_0 : List UInt8 := dkwX1_clear_0 ++ []
theorem dksX1_clear_0 : cX1_clear.data.toList.drop 0 = dktX1_clear_0 := by decide +kernel
theorem dX1_clear_0 : decode cX1_clear 0 = .ok (.aload_n 0, 1) := dk_42 (dk_at dksX1_clear_0 0 rfl rfl)
theorem dX1_clear_1 : decode cX1_clear 1 = .ok (.getfield 13, 3) := dk_180 0 13 (dk_at dksX1_clear_0 1 rfl rfl)
theorem dX1_clear_4 : decode cX1_clear 4 = .ok (.iload_n 1, 1) := dk_27 (dk_at dksX1_clear_0 4 rfl rfl)
theorem dX1_clear_5 : decode cX1_clear 5 = .ok (.iconst 3, 1) := dk_6 (dk_at dksX1_clear_0 5 rfl rfl)
theorem dX1_clear_6 : decode cX1_clear 6 = .ok (.iand, 1) := dk_126 (dk_at dksX1_clear_0 6 rfl rfl)
theorem dX1_clear_7 : decode cX1_clear 7 = .ok (.aaload, 1) := dk_50 (dk_at dksX1_clear_0 7 rfl rfl)
theorem dX1_clear_8 : decode cX1_clear 8 = .ok (.invokevirtual 72, 3) := dk_182 0 72 (dk_at dksX1_clear_0 8 rfl rfl)
theorem dX1_clear_11 : decode cX1_clear 11 = .ok (.return_, 1) := dk_177 (dk_at dksX1_clear_0 11 rfl rfl)
abbrev cX1_pour : ByteArray := prog_4_method_12_code
def yX1_pour : MethodName := ⟨RX1, "pour", "(II)I"⟩
def dkwX1_pour_2 : List UInt8 := [182, 0, 65, 192, 0, 17, 182, 0, 46, 132, 5, 1, 167, 255, 218, 21, 5, 172]
abbrev dktX1_pour_2 : List UInt8 := dkwX1_pour_2 ++ []
def dkwX1_pour_1 : List UInt8 := [21, 4, 50, 182, 0, 57, 154, 0, 31, 42, 180, 0, 13, 29, 50, 42, 180, 0, 13, 21, 4, 50]
abbrev dktX1_pour_1 : List UInt8 := dkwX1_pour_1 ++ dktX1_pour_2
def dkwX1_pour_0 : List UInt8 := [27, 6, 126, 62, 28, 6, 126, 54, 4, 3, 54, 5, 29, 21, 4, 160, 0, 5, 2, 172, 42, 180, 0, 13]
abbrev dktX1_pour_0 : List UInt8 := dkwX1_pour_0 ++ dktX1_pour_1
theorem dksX1_pour_0 : cX1_pour.data.toList.drop 0 = dktX1_pour_0 := by decide +kernel
theorem dksX1_pour_1 : cX1_pour.data.toList.drop 24 = dktX1_pour_1 := dk_seg dksX1_pour_0 24 rfl rfl
theorem dksX1_pour_2 : cX1_pour.data.toList.drop 46 = dktX1_pour_2 := dk_seg dksX1_pour_1 22 rfl rfl
theorem dX1_pour_0 : decode cX1_pour 0 = .ok (.iload_n 1, 1) := dk_27 (dk_at dksX1_pour_0 0 rfl rfl)
theorem dX1_pour_1 : decode cX1_pour 1 = .ok (.iconst 3, 1) := dk_6 (dk_at dksX1_pour_0 1 rfl rfl)
theorem dX1_pour_2 : decode cX1_pour 2 = .ok (.iand, 1) := dk_126 (dk_at dksX1_pour_0 2 rfl rfl)
theorem dX1_pour_3 : decode cX1_pour 3 = .ok (.istore_n 3, 1) := dk_62 (dk_at dksX1_pour_0 3 rfl rfl)
theorem dX1_pour_4 : decode cX1_pour 4 = .ok (.iload_n 2, 1) := dk_28 (dk_at dksX1_pour_0 4 rfl rfl)
theorem dX1_pour_5 : decode cX1_pour 5 = .ok (.iconst 3, 1) := dk_6 (dk_at dksX1_pour_0 5 rfl rfl)
theorem dX1_pour_6 : decode cX1_pour 6 = .ok (.iand, 1) := dk_126 (dk_at dksX1_pour_0 6 rfl rfl)
theorem dX1_pour_7 : decode cX1_pour 7 = .ok (.istore 4, 2) := dk_54 4 (dk_at dksX1_pour_0 7 rfl rfl)
theorem dX1_pour_9 : decode cX1_pour 9 = .ok (.iconst 0, 1) := dk_3 (dk_at dksX1_pour_0 9 rfl rfl)
theorem dX1_pour_10 : decode cX1_pour 10 = .ok (.istore 5, 2) := dk_54 5 (dk_at dksX1_pour_0 10 rfl rfl)
theorem dX1_pour_12 : decode cX1_pour 12 = .ok (.iload_n 3, 1) := dk_29 (dk_at dksX1_pour_0 12 rfl rfl)
theorem dX1_pour_13 : decode cX1_pour 13 = .ok (.iload 4, 2) := dk_21 4 (dk_at dksX1_pour_0 13 rfl rfl)
theorem dX1_pour_15 : decode cX1_pour 15 = .ok (.if_icmp .ne 5, 3) := dk_160 0 5 (dk_at dksX1_pour_0 15 rfl rfl)
theorem dX1_pour_18 : decode cX1_pour 18 = .ok (.iconst (-1), 1) := dk_2 (dk_at dksX1_pour_0 18 rfl rfl)
theorem dX1_pour_19 : decode cX1_pour 19 = .ok (.ireturn, 1) := dk_172 (dk_at dksX1_pour_0 19 rfl rfl)
theorem dX1_pour_20 : decode cX1_pour 20 = .ok (.aload_n 0, 1) := dk_42 (dk_at dksX1_pour_0 20 rfl rfl)
theorem dX1_pour_21 : decode cX1_pour 21 = .ok (.getfield 13, 3) := dk_180 0 13 (dk_at dksX1_pour_0 21 rfl rfl)
theorem dX1_pour_24 : decode cX1_pour 24 = .ok (.iload 4, 2) := dk_21 4 (dk_at dksX1_pour_1 0 rfl rfl)
theorem dX1_pour_26 : decode cX1_pour 26 = .ok (.aaload, 1) := dk_50 (dk_at dksX1_pour_1 2 rfl rfl)
theorem dX1_pour_27 : decode cX1_pour 27 = .ok (.invokevirtual 57, 3) := dk_182 0 57 (dk_at dksX1_pour_1 3 rfl rfl)
theorem dX1_pour_30 : decode cX1_pour 30 = .ok (.ifCond .ne 31, 3) := dk_154 0 31 (dk_at dksX1_pour_1 6 rfl rfl)
theorem dX1_pour_33 : decode cX1_pour 33 = .ok (.aload_n 0, 1) := dk_42 (dk_at dksX1_pour_1 9 rfl rfl)
theorem dX1_pour_34 : decode cX1_pour 34 = .ok (.getfield 13, 3) := dk_180 0 13 (dk_at dksX1_pour_1 10 rfl rfl)
theorem dX1_pour_37 : decode cX1_pour 37 = .ok (.iload_n 3, 1) := dk_29 (dk_at dksX1_pour_1 13 rfl rfl)
theorem dX1_pour_38 : decode cX1_pour 38 = .ok (.aaload, 1) := dk_50 (dk_at dksX1_pour_1 14 rfl rfl)
theorem dX1_pour_39 : decode cX1_pour 39 = .ok (.aload_n 0, 1) := dk_42 (dk_at dksX1_pour_1 15 rfl rfl)
theorem dX1_pour_40 : decode cX1_pour 40 = .ok (.getfield 13, 3) := dk_180 0 13 (dk_at dksX1_pour_1 16 rfl rfl)
theorem dX1_pour_43 : decode cX1_pour 43 = .ok (.iload 4, 2) := dk_21 4 (dk_at dksX1_pour_1 19 rfl rfl)
theorem dX1_pour_45 : decode cX1_pour 45 = .ok (.aaload, 1) := dk_50 (dk_at dksX1_pour_1 21 rfl rfl)
theorem dX1_pour_46 : decode cX1_pour 46 = .ok (.invokevirtual 65, 3) := dk_182 0 65 (dk_at dksX1_pour_2 0 rfl rfl)
theorem dX1_pour_49 : decode cX1_pour 49 = .ok (.checkcast 17, 3) := dk_192 0 17 (dk_at dksX1_pour_2 3 rfl rfl)
theorem dX1_pour_52 : decode cX1_pour 52 = .ok (.invokevirtual 46, 3) := dk_182 0 46 (dk_at dksX1_pour_2 6 rfl rfl)
theorem dX1_pour_55 : decode cX1_pour 55 = .ok (.iinc 5 1, 3) := dk_132 5 1 (dk_at dksX1_pour_2 9 rfl rfl)
theorem dX1_pour_58 : decode cX1_pour 58 = .ok (.goto (-38), 3) := dk_167 255 218 (dk_at dksX1_pour_2 12 rfl rfl)
theorem dX1_pour_61 : decode cX1_pour 61 = .ok (.iload 5, 2) := dk_21 5 (dk_at dksX1_pour_2 15 rfl rfl)
theorem dX1_pour_63 : decode cX1_pour 63 = .ok (.ireturn, 1) := dk_172 (dk_at dksX1_pour_2 17 rfl rfl)
theorem q3 : (Jvm.Cond.initialized "BinaryArrayHeapDesk") ∈ lw_all := lw_g (lw_at lw_m1 1 rfl) rfl
theorem q19 : (Jvm.Cond.instantiable "BinaryArrayHeapDesk" (2 : Nat)) ∈ lw_all := lw_g (lw_at lw_m1 17 rfl) rfl
theorem q21 : (Jvm.Cond.instanceMethod ({ cls := "BinaryArrayHeapDesk", name := "<init>", desc := "()V" } : Jvm.MethodName)) ∈ lw_all := lw_g (lw_at lw_m1 19 rfl) rfl
theorem q22 : (Jvm.Cond.code ({ cls := "BinaryArrayHeapDesk", name := "<init>", desc := "()V" } : Jvm.MethodName) prog_4_method_1_code (1 : Nat) (Option.none : Option Jvm.ClassFile.FieldType)) ∈ lw_all := lw_g (lw_at lw_m1 20 rfl) rfl
theorem q23 : (Jvm.Cond.methodLink "BinaryArrayHeapDesk" (1 : Nat) ({ cls := "java/lang/Object", name := "<init>", desc := "()V" } : Jvm.MethodName)) ∈ lw_all := lw_g (lw_at lw_m1 21 rfl) rfl
theorem q26 : (Jvm.Cond.methodLink "BinaryArrayHeapDesk" (7 : Nat) ({ cls := "BinaryArrayHeapDesk", name := "make", desc := "()[LBinaryArrayHeap;" } : Jvm.MethodName)) ∈ lw_all := lw_g (lw_at lw_m1 24 rfl) rfl
theorem q27 : (Jvm.Cond.static ({ cls := "BinaryArrayHeapDesk", name := "make", desc := "()[LBinaryArrayHeap;" } : Jvm.MethodName)) ∈ lw_all := lw_g (lw_at lw_m1 25 rfl) rfl
theorem q28 : (Jvm.Cond.code ({ cls := "BinaryArrayHeapDesk", name := "make", desc := "()[LBinaryArrayHeap;" } : Jvm.MethodName) prog_4_method_3_code (2 : Nat) (Option.some (Jvm.ClassFile.FieldType.array (Jvm.ClassFile.FieldType.object "BinaryArrayHeap")))) ∈ lw_all := lw_g (lw_at lw_m1 26 rfl) rfl
theorem q29 : (Jvm.Cond.classLink "BinaryArrayHeapDesk" (23 : Nat) "BinaryArrayHeap") ∈ lw_all := lw_g (lw_at lw_m1 27 rfl) rfl
theorem q31 : (Jvm.Cond.methodLink "BinaryArrayHeapDesk" (25 : Nat) ({ cls := "BinaryArrayHeapDesk", name := "fresh", desc := "(I)LBinaryArrayHeap;" } : Jvm.MethodName)) ∈ lw_all := lw_g (lw_at lw_m1 29 rfl) rfl
theorem q32 : (Jvm.Cond.static ({ cls := "BinaryArrayHeapDesk", name := "fresh", desc := "(I)LBinaryArrayHeap;" } : Jvm.MethodName)) ∈ lw_all := lw_g (lw_at lw_m1 30 rfl) rfl
theorem q33 : (Jvm.Cond.code ({ cls := "BinaryArrayHeapDesk", name := "fresh", desc := "(I)LBinaryArrayHeap;" } : Jvm.MethodName) prog_4_method_4_code (1 : Nat) (Option.some (Jvm.ClassFile.FieldType.object "BinaryArrayHeap"))) ∈ lw_all := lw_g (lw_at lw_m1 31 rfl) rfl
theorem q35 : (Jvm.Cond.methodLink "BinaryArrayHeapDesk" (29 : Nat) ({ cls := "BinaryArrayHeap", name := "<init>", desc := "()V" } : Jvm.MethodName)) ∈ lw_all := lw_g (lw_at lw_m1 33 rfl) rfl
theorem q170 : (Jvm.Cond.fieldLink "BinaryArrayHeapDesk" (30 : Nat) "BinaryArrayHeapDesk" "DOWN" "LBinaryArrayHeapDesk$Down;") ∈ lw_all := lw_g (lw_at lw_m1 168 rfl) rfl
theorem q171 : (Jvm.Cond.laysStatic "BinaryArrayHeapDesk" "DOWN" "LBinaryArrayHeapDesk$Down;") ∈ lw_tbl := lw_at lw_m1 169 rfl
theorem q172 : (Jvm.Cond.methodLink "BinaryArrayHeapDesk" (34 : Nat) ({ cls := "BinaryArrayHeap", name := "<init>", desc := "(Ljava/util/Comparator;)V" } : Jvm.MethodName)) ∈ lw_all := lw_g (lw_at lw_m1 170 rfl) rfl
theorem q175 : (Jvm.Cond.fieldLink "BinaryArrayHeapDesk" (13 : Nat) "BinaryArrayHeapDesk" "file" "[LBinaryArrayHeap;") ∈ lw_all := lw_g (lw_at lw_m1 173 rfl) rfl
theorem q176 : (Jvm.Cond.fieldLink "BinaryArrayHeapDesk" (37 : Nat) "BinaryArrayHeapDesk" "puts" "I") ∈ lw_all := lw_g (lw_at lw_m1 174 rfl) rfl
theorem q177 : (Jvm.Cond.laysFinal "BinaryArrayHeapDesk" "BinaryArrayHeapDesk" "file" "[LBinaryArrayHeap;") ∈ lw_all := lw_g (lw_at lw_m1 175 rfl) rfl
theorem q178 : (Jvm.Cond.soleField "BinaryArrayHeapDesk" "file") ∈ lw_all := lw_g (lw_at lw_m1 176 rfl) rfl
theorem q179 : (Jvm.Cond.lays "BinaryArrayHeapDesk" "BinaryArrayHeapDesk" "puts" "I") ∈ lw_all := lw_g (lw_at lw_m1 177 rfl) rfl
theorem q180 : (Jvm.Cond.soleField "BinaryArrayHeapDesk" "puts") ∈ lw_all := lw_g (lw_at lw_m1 178 rfl) rfl
theorem q181 : (Jvm.Cond.superclass "BinaryArrayHeapDesk" "java/lang/Object") ∈ lw_all := lw_g (lw_at lw_m1 179 rfl) rfl
theorem q183 : (Jvm.Cond.instanceMethod ({ cls := "BinaryArrayHeapDesk", name := "put", desc := "(II)Z" } : Jvm.MethodName)) ∈ lw_all := lw_g (lw_at lw_m1 181 rfl) rfl
theorem q184 : (Jvm.Cond.selects "BinaryArrayHeapDesk" ({ cls := "BinaryArrayHeapDesk", name := "put", desc := "(II)Z" } : Jvm.MethodName) ({ cls := "BinaryArrayHeapDesk", name := "put", desc := "(II)Z" } : Jvm.MethodName)) ∈ lw_all := lw_g (lw_at lw_m1 182 rfl) rfl
theorem q185 : (Jvm.Cond.code ({ cls := "BinaryArrayHeapDesk", name := "put", desc := "(II)Z" } : Jvm.MethodName) prog_4_method_5_code (3 : Nat) (Option.some Jvm.ClassFile.FieldType.boolean)) ∈ lw_all := lw_g (lw_at lw_m1 183 rfl) rfl
theorem q186 : (Jvm.Cond.constant "BinaryArrayHeapDesk" (41 : Nat) (65535 : Int32)) ∈ lw_all := lw_g (lw_at lw_m1 184 rfl) rfl
theorem q187 : (Jvm.Cond.methodLink "BinaryArrayHeapDesk" (42 : Nat) ({ cls := "java/lang/Integer", name := "valueOf", desc := "(I)Ljava/lang/Integer;" } : Jvm.MethodName)) ∈ lw_all := lw_g (lw_at lw_m1 185 rfl) rfl
theorem q207 : (Jvm.Cond.methodLink "BinaryArrayHeapDesk" (46 : Nat) ({ cls := "BinaryArrayHeap", name := "insert", desc := "(Ljava/lang/Object;)V" } : Jvm.MethodName)) ∈ lw_all := lw_g (lw_at lw_m1 205 rfl) rfl
theorem q253 : (Jvm.Cond.static ({ cls := "BinaryArrayHeapDesk", name := "order", desc := "(Ljava/lang/Object;Ljava/lang/Object;)I" } : Jvm.MethodName)) ∈ lw_all := lw_g (lw_at lw_m2 11 rfl) rfl
theorem q254 : (Jvm.Cond.code ({ cls := "BinaryArrayHeapDesk", name := "order", desc := "(Ljava/lang/Object;Ljava/lang/Object;)I" } : Jvm.MethodName) prog_4_method_2_code (4 : Nat) (Option.some Jvm.ClassFile.FieldType.int)) ∈ lw_all := lw_g (lw_at lw_m2 12 rfl) rfl
theorem q255 : (Jvm.Cond.classLink "BinaryArrayHeapDesk" (17 : Nat) "java/lang/Integer") ∈ lw_all := lw_g (lw_at lw_m2 13 rfl) rfl
theorem q256 : (Jvm.Cond.methodLink "BinaryArrayHeapDesk" (19 : Nat) ({ cls := "java/lang/Integer", name := "intValue", desc := "()I" } : Jvm.MethodName)) ∈ lw_all := lw_g (lw_at lw_m2 14 rfl) rfl
theorem q283 : (Jvm.Cond.instanceMethod ({ cls := "BinaryArrayHeapDesk", name := "four", desc := "(IIIII)Z" } : Jvm.MethodName)) ∈ lw_all := lw_g (lw_at lw_m2 41 rfl) rfl
theorem q284 : (Jvm.Cond.selects "BinaryArrayHeapDesk" ({ cls := "BinaryArrayHeapDesk", name := "four", desc := "(IIIII)Z" } : Jvm.MethodName) ({ cls := "BinaryArrayHeapDesk", name := "four", desc := "(IIIII)Z" } : Jvm.MethodName)) ∈ lw_all := lw_g (lw_at lw_m2 42 rfl) rfl
theorem q285 : (Jvm.Cond.code ({ cls := "BinaryArrayHeapDesk", name := "four", desc := "(IIIII)Z" } : Jvm.MethodName) prog_4_method_6_code (8 : Nat) (Option.some Jvm.ClassFile.FieldType.boolean)) ∈ lw_all := lw_g (lw_at lw_m2 43 rfl) rfl
theorem q287 : (Jvm.Cond.methodLink "BinaryArrayHeapDesk" (50 : Nat) ({ cls := "BinaryArrayHeap", name := "heapify", desc := "([Ljava/lang/Object;)LBinaryArrayHeap;" } : Jvm.MethodName)) ∈ lw_all := lw_g (lw_at lw_m2 45 rfl) rfl
theorem q302 : (Jvm.Cond.methodLink "BinaryArrayHeapDesk" (54 : Nat) ({ cls := "BinaryArrayHeap", name := "heapify", desc := "([Ljava/lang/Object;Ljava/util/Comparator;)LBinaryArrayHeap;" } : Jvm.MethodName)) ∈ lw_all := lw_g (lw_at lw_m2 60 rfl) rfl
theorem q314 : (Jvm.Cond.instanceMethod ({ cls := "BinaryArrayHeapDesk", name := "least", desc := "(I)I" } : Jvm.MethodName)) ∈ lw_all := lw_g (lw_at lw_m2 72 rfl) rfl
theorem q315 : (Jvm.Cond.selects "BinaryArrayHeapDesk" ({ cls := "BinaryArrayHeapDesk", name := "least", desc := "(I)I" } : Jvm.MethodName) ({ cls := "BinaryArrayHeapDesk", name := "least", desc := "(I)I" } : Jvm.MethodName)) ∈ lw_all := lw_g (lw_at lw_m2 73 rfl) rfl
theorem q316 : (Jvm.Cond.code ({ cls := "BinaryArrayHeapDesk", name := "least", desc := "(I)I" } : Jvm.MethodName) prog_4_method_7_code (3 : Nat) (Option.some Jvm.ClassFile.FieldType.int)) ∈ lw_all := lw_g (lw_at lw_m2 74 rfl) rfl
theorem q317 : (Jvm.Cond.methodLink "BinaryArrayHeapDesk" (57 : Nat) ({ cls := "BinaryArrayHeap", name := "isEmpty", desc := "()Z" } : Jvm.MethodName)) ∈ lw_all := lw_g (lw_at lw_m2 75 rfl) rfl
theorem q323 : (Jvm.Cond.methodLink "BinaryArrayHeapDesk" (61 : Nat) ({ cls := "BinaryArrayHeap", name := "findMin", desc := "()Ljava/lang/Object;" } : Jvm.MethodName)) ∈ lw_all := lw_g (lw_at lw_m2 81 rfl) rfl
theorem q351 : (Jvm.Cond.instanceMethod ({ cls := "BinaryArrayHeapDesk", name := "takeLeast", desc := "(I)I" } : Jvm.MethodName)) ∈ lw_all := lw_g (lw_at lw_m2 109 rfl) rfl
theorem q352 : (Jvm.Cond.selects "BinaryArrayHeapDesk" ({ cls := "BinaryArrayHeapDesk", name := "takeLeast", desc := "(I)I" } : Jvm.MethodName) ({ cls := "BinaryArrayHeapDesk", name := "takeLeast", desc := "(I)I" } : Jvm.MethodName)) ∈ lw_all := lw_g (lw_at lw_m2 110 rfl) rfl
theorem q353 : (Jvm.Cond.code ({ cls := "BinaryArrayHeapDesk", name := "takeLeast", desc := "(I)I" } : Jvm.MethodName) prog_4_method_8_code (3 : Nat) (Option.some Jvm.ClassFile.FieldType.int)) ∈ lw_all := lw_g (lw_at lw_m2 111 rfl) rfl
theorem q354 : (Jvm.Cond.methodLink "BinaryArrayHeapDesk" (65 : Nat) ({ cls := "BinaryArrayHeap", name := "deleteMin", desc := "()Ljava/lang/Object;" } : Jvm.MethodName)) ∈ lw_all := lw_g (lw_at lw_m2 112 rfl) rfl
theorem q369 : (Jvm.Cond.instanceMethod ({ cls := "BinaryArrayHeapDesk", name := "size", desc := "(I)I" } : Jvm.MethodName)) ∈ lw_all := lw_g (lw_at lw_m2 127 rfl) rfl
theorem q370 : (Jvm.Cond.selects "BinaryArrayHeapDesk" ({ cls := "BinaryArrayHeapDesk", name := "size", desc := "(I)I" } : Jvm.MethodName) ({ cls := "BinaryArrayHeapDesk", name := "size", desc := "(I)I" } : Jvm.MethodName)) ∈ lw_all := lw_g (lw_at lw_m2 128 rfl) rfl
theorem q371 : (Jvm.Cond.code ({ cls := "BinaryArrayHeapDesk", name := "size", desc := "(I)I" } : Jvm.MethodName) prog_4_method_9_code (2 : Nat) (Option.some Jvm.ClassFile.FieldType.int)) ∈ lw_all := lw_g (lw_at lw_m2 129 rfl) rfl
theorem q372 : (Jvm.Cond.methodLink "BinaryArrayHeapDesk" (68 : Nat) ({ cls := "BinaryArrayHeap", name := "size", desc := "()J" } : Jvm.MethodName)) ∈ lw_all := lw_g (lw_at lw_m2 130 rfl) rfl
theorem q379 : (Jvm.Cond.instanceMethod ({ cls := "BinaryArrayHeapDesk", name := "isEmpty", desc := "(I)Z" } : Jvm.MethodName)) ∈ lw_all := lw_g (lw_at lw_m2 137 rfl) rfl
theorem q380 : (Jvm.Cond.selects "BinaryArrayHeapDesk" ({ cls := "BinaryArrayHeapDesk", name := "isEmpty", desc := "(I)Z" } : Jvm.MethodName) ({ cls := "BinaryArrayHeapDesk", name := "isEmpty", desc := "(I)Z" } : Jvm.MethodName)) ∈ lw_all := lw_g (lw_at lw_m2 138 rfl) rfl
theorem q381 : (Jvm.Cond.code ({ cls := "BinaryArrayHeapDesk", name := "isEmpty", desc := "(I)Z" } : Jvm.MethodName) prog_4_method_10_code (2 : Nat) (Option.some Jvm.ClassFile.FieldType.boolean)) ∈ lw_all := lw_g (lw_at lw_m2 139 rfl) rfl
theorem q383 : (Jvm.Cond.instanceMethod ({ cls := "BinaryArrayHeapDesk", name := "clear", desc := "(I)V" } : Jvm.MethodName)) ∈ lw_all := lw_g (lw_at lw_m2 141 rfl) rfl
theorem q384 : (Jvm.Cond.selects "BinaryArrayHeapDesk" ({ cls := "BinaryArrayHeapDesk", name := "clear", desc := "(I)V" } : Jvm.MethodName) ({ cls := "BinaryArrayHeapDesk", name := "clear", desc := "(I)V" } : Jvm.MethodName)) ∈ lw_all := lw_g (lw_at lw_m2 142 rfl) rfl
theorem q385 : (Jvm.Cond.code ({ cls := "BinaryArrayHeapDesk", name := "clear", desc := "(I)V" } : Jvm.MethodName) prog_4_method_11_code (2 : Nat) (Option.none : Option Jvm.ClassFile.FieldType)) ∈ lw_all := lw_g (lw_at lw_m2 143 rfl) rfl
theorem q386 : (Jvm.Cond.methodLink "BinaryArrayHeapDesk" (72 : Nat) ({ cls := "BinaryArrayHeap", name := "clear", desc := "()V" } : Jvm.MethodName)) ∈ lw_all := lw_g (lw_at lw_m2 144 rfl) rfl
theorem q393 : (Jvm.Cond.instanceMethod ({ cls := "BinaryArrayHeapDesk", name := "pour", desc := "(II)I" } : Jvm.MethodName)) ∈ lw_all := lw_g (lw_at lw_m2 151 rfl) rfl
theorem q394 : (Jvm.Cond.selects "BinaryArrayHeapDesk" ({ cls := "BinaryArrayHeapDesk", name := "pour", desc := "(II)I" } : Jvm.MethodName) ({ cls := "BinaryArrayHeapDesk", name := "pour", desc := "(II)I" } : Jvm.MethodName)) ∈ lw_all := lw_g (lw_at lw_m2 152 rfl) rfl
theorem q395 : (Jvm.Cond.code ({ cls := "BinaryArrayHeapDesk", name := "pour", desc := "(II)I" } : Jvm.MethodName) prog_4_method_12_code (6 : Nat) (Option.some Jvm.ClassFile.FieldType.int)) ∈ lw_all := lw_g (lw_at lw_m2 153 rfl) rfl
theorem q413 : (Jvm.Cond.castable "BinaryArrayHeapDesk" "java/lang/Object") ∈ lw_tbl := lw_at lw_m2 171 rfl
theorem in_X1 : ∀ w ∈ wsX10, w ∈ lw_all := lw_in wsX10 [177, 179] (by decide +kernel) (by decide +kernel)
/-! BinaryArrayHeapDeskLaw -/
def RX0 : String := "BinaryArrayHeapDeskLaw"
abbrev cX0_at : ByteArray := method_2_code
def yX0_at : MethodName := ⟨RX0, "at", "([II)I"⟩
def dkwX0_at_0 : List UInt8 := [27, 42, 190, 162, 0, 9, 42, 27, 46, 167, 0, 4, 3, 172]
abbrev dktX0_at_0 : List UInt8 := dkwX0_at_0 ++ []
theorem dksX0_at_0 : cX0_at.data.toList.drop 0 = dktX0_at_0 := by decide +kernel
theorem dX0_at_0 : decode cX0_at 0 = .ok (.iload_n 1, 1) := dk_27 (dk_at dksX0_at_0 0 rfl rfl)
theorem dX0_at_1 : decode cX0_at 1 = .ok (.aload_n 0, 1) := dk_42 (dk_at dksX0_at_0 1 rfl rfl)
theorem dX0_at_2 : decode cX0_at 2 = .ok (.arraylength, 1) := dk_190 (dk_at dksX0_at_0 2 rfl rfl)
theorem dX0_at_3 : decode cX0_at 3 = .ok (.if_icmp .ge 9, 3) := dk_162 0 9 (dk_at dksX0_at_0 3 rfl rfl)
theorem dX0_at_6 : decode cX0_at 6 = .ok (.aload_n 0, 1) := dk_42 (dk_at dksX0_at_0 6 rfl rfl)
theorem dX0_at_7 : decode cX0_at 7 = .ok (.iload_n 1, 1) := dk_27 (dk_at dksX0_at_0 7 rfl rfl)
theorem dX0_at_8 : decode cX0_at 8 = .ok (.iaload, 1) := dk_46 (dk_at dksX0_at_0 8 rfl rfl)
theorem dX0_at_9 : decode cX0_at 9 = .ok (.goto 4, 3) := dk_167 0 4 (dk_at dksX0_at_0 9 rfl rfl)
theorem dX0_at_12 : decode cX0_at 12 = .ok (.iconst 0, 1) := dk_3 (dk_at dksX0_at_0 12 rfl rfl)
theorem dX0_at_13 : decode cX0_at 13 = .ok (.ireturn, 1) := dk_172 (dk_at dksX0_at_0 13 rfl rfl)
abbrev cX0_ahead : ByteArray := method_3_code
def yX0_ahead : MethodName := ⟨RX0, "ahead", "(III)Z"⟩
def dkwX0_ahead_1 : List UInt8 := [167, 0, 4, 3, 172]
abbrev dktX0_ahead_1 : List UInt8 := dkwX0_ahead_1 ++ []
def dkwX0_ahead_0 : List UInt8 := [26, 5, 162, 0, 16, 27, 28, 162, 0, 7, 4, 167, 0, 17, 3, 167, 0, 13, 27, 28, 164, 0, 7, 4]
abbrev dktX0_ahead_0 : List UInt8 := dkwX0_ahead_0 ++ dktX0_ahead_1
theorem dksX0_ahead_0 : cX0_ahead.data.toList.drop 0 = dktX0_ahead_0 := by decide +kernel
theorem dksX0_ahead_1 : cX0_ahead.data.toList.drop 24 = dktX0_ahead_1 := dk_seg dksX0_ahead_0 24 rfl rfl
theorem dX0_ahead_0 : decode cX0_ahead 0 = .ok (.iload_n 0, 1) := dk_26 (dk_at dksX0_ahead_0 0 rfl rfl)
theorem dX0_ahead_1 : decode cX0_ahead 1 = .ok (.iconst 2, 1) := dk_5 (dk_at dksX0_ahead_0 1 rfl rfl)
theorem dX0_ahead_2 : decode cX0_ahead 2 = .ok (.if_icmp .ge 16, 3) := dk_162 0 16 (dk_at dksX0_ahead_0 2 rfl rfl)
theorem dX0_ahead_5 : decode cX0_ahead 5 = .ok (.iload_n 1, 1) := dk_27 (dk_at dksX0_ahead_0 5 rfl rfl)
theorem dX0_ahead_6 : decode cX0_ahead 6 = .ok (.iload_n 2, 1) := dk_28 (dk_at dksX0_ahead_0 6 rfl rfl)
theorem dX0_ahead_7 : decode cX0_ahead 7 = .ok (.if_icmp .ge 7, 3) := dk_162 0 7 (dk_at dksX0_ahead_0 7 rfl rfl)
theorem dX0_ahead_10 : decode cX0_ahead 10 = .ok (.iconst 1, 1) := dk_4 (dk_at dksX0_ahead_0 10 rfl rfl)
theorem dX0_ahead_11 : decode cX0_ahead 11 = .ok (.goto 17, 3) := dk_167 0 17 (dk_at dksX0_ahead_0 11 rfl rfl)
theorem dX0_ahead_14 : decode cX0_ahead 14 = .ok (.iconst 0, 1) := dk_3 (dk_at dksX0_ahead_0 14 rfl rfl)
theorem dX0_ahead_15 : decode cX0_ahead 15 = .ok (.goto 13, 3) := dk_167 0 13 (dk_at dksX0_ahead_0 15 rfl rfl)
theorem dX0_ahead_18 : decode cX0_ahead 18 = .ok (.iload_n 1, 1) := dk_27 (dk_at dksX0_ahead_0 18 rfl rfl)
theorem dX0_ahead_19 : decode cX0_ahead 19 = .ok (.iload_n 2, 1) := dk_28 (dk_at dksX0_ahead_0 19 rfl rfl)
theorem dX0_ahead_20 : decode cX0_ahead 20 = .ok (.if_icmp .le 7, 3) := dk_164 0 7 (dk_at dksX0_ahead_0 20 rfl rfl)
theorem dX0_ahead_23 : decode cX0_ahead 23 = .ok (.iconst 1, 1) := dk_4 (dk_at dksX0_ahead_0 23 rfl rfl)
theorem dX0_ahead_24 : decode cX0_ahead 24 = .ok (.goto 4, 3) := dk_167 0 4 (dk_at dksX0_ahead_1 0 rfl rfl)
theorem dX0_ahead_27 : decode cX0_ahead 27 = .ok (.iconst 0, 1) := dk_3 (dk_at dksX0_ahead_1 3 rfl rfl)
theorem dX0_ahead_28 : decode cX0_ahead 28 = .ok (.ireturn, 1) := dk_172 (dk_at dksX0_ahead_1 4 rfl rfl)
abbrev cX0_drain : ByteArray := method_4_code
def yX0_drain : MethodName := ⟨RX0, "drain", "(LBinaryArrayHeapDesk;I[II)Z"⟩
def dkwX0_drain_7 : List UInt8 := [4, 167, 0, 4, 3, 172]
abbrev dktX0_drain_7 : List UInt8 := dkwX0_drain_7 ++ []
def dkwX0_drain_6 : List UInt8 := [182, 0, 13, 153, 0, 25, 42, 27, 182, 0, 17, 2, 160, 0, 16, 42, 27, 182, 0, 20, 2, 160, 0, 7]
abbrev dktX0_drain_6 : List UInt8 := dkwX0_drain_6 ++ dktX0_drain_7
def dkwX0_drain_5 : List UInt8 := [21, 8, 4, 84, 21, 7, 54, 5, 132, 6, 1, 167, 255, 140, 42, 27, 182, 0, 7, 154, 0, 33, 42, 27]
abbrev dktX0_drain_5 : List UInt8 := dkwX0_drain_5 ++ dktX0_drain_6
def dkwX0_drain_4 : List UInt8 := [21, 8, 46, 21, 7, 159, 0, 9, 132, 8, 1, 167, 255, 230, 21, 8, 29, 160, 0, 5, 3, 172, 25, 4]
abbrev dktX0_drain_4 : List UInt8 := dkwX0_drain_4 ++ dktX0_drain_5
def dkwX0_drain_3 : List UInt8 := [153, 0, 5, 3, 172, 3, 54, 8, 21, 8, 29, 162, 0, 26, 25, 4, 21, 8, 51, 154, 0, 12, 44]
abbrev dktX0_drain_3 : List UInt8 := dkwX0_drain_3 ++ dktX0_drain_4
def dkwX0_drain_2 : List UInt8 := [27, 182, 0, 20, 21, 7, 160, 0, 19, 21, 6, 158, 0, 16, 27, 21, 7, 21, 5, 184, 0, 23]
abbrev dktX0_drain_2 : List UInt8 := dkwX0_drain_2 ++ dktX0_drain_3
def dkwX0_drain_1 : List UInt8 := [21, 6, 100, 160, 0, 11, 42, 27, 182, 0, 13, 153, 0, 5, 3, 172, 42, 27, 182, 0, 17, 54, 7, 42]
abbrev dktX0_drain_1 : List UInt8 := dkwX0_drain_1 ++ dktX0_drain_2
def dkwX0_drain_0 : List UInt8 := [16, 64, 188, 4, 58, 4, 3, 54, 5, 3, 54, 6, 21, 6, 29, 162, 0, 116, 42, 27, 182, 0, 7, 29]
abbrev dktX0_drain_0 : List UInt8 := dkwX0_drain_0 ++ dktX0_drain_1
theorem dksX0_drain_0 : cX0_drain.data.toList.drop 0 = dktX0_drain_0 := by decide +kernel
theorem dksX0_drain_1 : cX0_drain.data.toList.drop 24 = dktX0_drain_1 := dk_seg dksX0_drain_0 24 rfl rfl
theorem dksX0_drain_2 : cX0_drain.data.toList.drop 48 = dktX0_drain_2 := dk_seg dksX0_drain_1 24 rfl rfl
theorem dksX0_drain_3 : cX0_drain.data.toList.drop 70 = dktX0_drain_3 := dk_seg dksX0_drain_2 22 rfl rfl
theorem dksX0_drain_4 : cX0_drain.data.toList.drop 93 = dktX0_drain_4 := dk_seg dksX0_drain_3 23 rfl rfl
theorem dksX0_drain_5 : cX0_drain.data.toList.drop 117 = dktX0_drain_5 := dk_seg dksX0_drain_4 24 rfl rfl
theorem dksX0_drain_6 : cX0_drain.data.toList.drop 141 = dktX0_drain_6 := dk_seg dksX0_drain_5 24 rfl rfl
theorem dksX0_drain_7 : cX0_drain.data.toList.drop 165 = dktX0_drain_7 := dk_seg dksX0_drain_6 24 rfl rfl
theorem dX0_drain_0 : decode cX0_drain 0 = .ok (.bipush 64, 2) := dk_16 64 (dk_at dksX0_drain_0 0 rfl rfl)
theorem dX0_drain_2 : decode cX0_drain 2 = .ok (.newarray .boolean, 2) := dk_188_4 (dk_at dksX0_drain_0 2 rfl rfl)
theorem dX0_drain_4 : decode cX0_drain 4 = .ok (.astore 4, 2) := dk_58 4 (dk_at dksX0_drain_0 4 rfl rfl)
theorem dX0_drain_6 : decode cX0_drain 6 = .ok (.iconst 0, 1) := dk_3 (dk_at dksX0_drain_0 6 rfl rfl)
theorem dX0_drain_7 : decode cX0_drain 7 = .ok (.istore 5, 2) := dk_54 5 (dk_at dksX0_drain_0 7 rfl rfl)
theorem dX0_drain_9 : decode cX0_drain 9 = .ok (.iconst 0, 1) := dk_3 (dk_at dksX0_drain_0 9 rfl rfl)
theorem dX0_drain_10 : decode cX0_drain 10 = .ok (.istore 6, 2) := dk_54 6 (dk_at dksX0_drain_0 10 rfl rfl)
theorem dX0_drain_12 : decode cX0_drain 12 = .ok (.iload 6, 2) := dk_21 6 (dk_at dksX0_drain_0 12 rfl rfl)
theorem dX0_drain_14 : decode cX0_drain 14 = .ok (.iload_n 3, 1) := dk_29 (dk_at dksX0_drain_0 14 rfl rfl)
theorem dX0_drain_15 : decode cX0_drain 15 = .ok (.if_icmp .ge 116, 3) := dk_162 0 116 (dk_at dksX0_drain_0 15 rfl rfl)
theorem dX0_drain_18 : decode cX0_drain 18 = .ok (.aload_n 0, 1) := dk_42 (dk_at dksX0_drain_0 18 rfl rfl)
theorem dX0_drain_19 : decode cX0_drain 19 = .ok (.iload_n 1, 1) := dk_27 (dk_at dksX0_drain_0 19 rfl rfl)
theorem dX0_drain_20 : decode cX0_drain 20 = .ok (.invokevirtual 7, 3) := dk_182 0 7 (dk_at dksX0_drain_0 20 rfl rfl)
theorem dX0_drain_23 : decode cX0_drain 23 = .ok (.iload_n 3, 1) := dk_29 (dk_at dksX0_drain_0 23 rfl rfl)
theorem dX0_drain_24 : decode cX0_drain 24 = .ok (.iload 6, 2) := dk_21 6 (dk_at dksX0_drain_1 0 rfl rfl)
theorem dX0_drain_26 : decode cX0_drain 26 = .ok (.isub, 1) := dk_100 (dk_at dksX0_drain_1 2 rfl rfl)
theorem dX0_drain_27 : decode cX0_drain 27 = .ok (.if_icmp .ne 11, 3) := dk_160 0 11 (dk_at dksX0_drain_1 3 rfl rfl)
theorem dX0_drain_30 : decode cX0_drain 30 = .ok (.aload_n 0, 1) := dk_42 (dk_at dksX0_drain_1 6 rfl rfl)
theorem dX0_drain_31 : decode cX0_drain 31 = .ok (.iload_n 1, 1) := dk_27 (dk_at dksX0_drain_1 7 rfl rfl)
theorem dX0_drain_32 : decode cX0_drain 32 = .ok (.invokevirtual 13, 3) := dk_182 0 13 (dk_at dksX0_drain_1 8 rfl rfl)
theorem dX0_drain_35 : decode cX0_drain 35 = .ok (.ifCond .eq 5, 3) := dk_153 0 5 (dk_at dksX0_drain_1 11 rfl rfl)
theorem dX0_drain_38 : decode cX0_drain 38 = .ok (.iconst 0, 1) := dk_3 (dk_at dksX0_drain_1 14 rfl rfl)
theorem dX0_drain_39 : decode cX0_drain 39 = .ok (.ireturn, 1) := dk_172 (dk_at dksX0_drain_1 15 rfl rfl)
theorem dX0_drain_40 : decode cX0_drain 40 = .ok (.aload_n 0, 1) := dk_42 (dk_at dksX0_drain_1 16 rfl rfl)
theorem dX0_drain_41 : decode cX0_drain 41 = .ok (.iload_n 1, 1) := dk_27 (dk_at dksX0_drain_1 17 rfl rfl)
theorem dX0_drain_42 : decode cX0_drain 42 = .ok (.invokevirtual 17, 3) := dk_182 0 17 (dk_at dksX0_drain_1 18 rfl rfl)
theorem dX0_drain_45 : decode cX0_drain 45 = .ok (.istore 7, 2) := dk_54 7 (dk_at dksX0_drain_1 21 rfl rfl)
theorem dX0_drain_47 : decode cX0_drain 47 = .ok (.aload_n 0, 1) := dk_42 (dk_at dksX0_drain_1 23 rfl rfl)
theorem dX0_drain_48 : decode cX0_drain 48 = .ok (.iload_n 1, 1) := dk_27 (dk_at dksX0_drain_2 0 rfl rfl)
theorem dX0_drain_49 : decode cX0_drain 49 = .ok (.invokevirtual 20, 3) := dk_182 0 20 (dk_at dksX0_drain_2 1 rfl rfl)
theorem dX0_drain_52 : decode cX0_drain 52 = .ok (.iload 7, 2) := dk_21 7 (dk_at dksX0_drain_2 4 rfl rfl)
theorem dX0_drain_54 : decode cX0_drain 54 = .ok (.if_icmp .ne 19, 3) := dk_160 0 19 (dk_at dksX0_drain_2 6 rfl rfl)
theorem dX0_drain_57 : decode cX0_drain 57 = .ok (.iload 6, 2) := dk_21 6 (dk_at dksX0_drain_2 9 rfl rfl)
theorem dX0_drain_59 : decode cX0_drain 59 = .ok (.ifCond .le 16, 3) := dk_158 0 16 (dk_at dksX0_drain_2 11 rfl rfl)
theorem dX0_drain_62 : decode cX0_drain 62 = .ok (.iload_n 1, 1) := dk_27 (dk_at dksX0_drain_2 14 rfl rfl)
theorem dX0_drain_63 : decode cX0_drain 63 = .ok (.iload 7, 2) := dk_21 7 (dk_at dksX0_drain_2 15 rfl rfl)
theorem dX0_drain_65 : decode cX0_drain 65 = .ok (.iload 5, 2) := dk_21 5 (dk_at dksX0_drain_2 17 rfl rfl)
theorem dX0_drain_67 : decode cX0_drain 67 = .ok (.invokestatic 23, 3) := dk_184 0 23 (dk_at dksX0_drain_2 19 rfl rfl)
theorem dX0_drain_70 : decode cX0_drain 70 = .ok (.ifCond .eq 5, 3) := dk_153 0 5 (dk_at dksX0_drain_3 0 rfl rfl)
theorem dX0_drain_73 : decode cX0_drain 73 = .ok (.iconst 0, 1) := dk_3 (dk_at dksX0_drain_3 3 rfl rfl)
theorem dX0_drain_74 : decode cX0_drain 74 = .ok (.ireturn, 1) := dk_172 (dk_at dksX0_drain_3 4 rfl rfl)
theorem dX0_drain_75 : decode cX0_drain 75 = .ok (.iconst 0, 1) := dk_3 (dk_at dksX0_drain_3 5 rfl rfl)
theorem dX0_drain_76 : decode cX0_drain 76 = .ok (.istore 8, 2) := dk_54 8 (dk_at dksX0_drain_3 6 rfl rfl)
theorem dX0_drain_78 : decode cX0_drain 78 = .ok (.iload 8, 2) := dk_21 8 (dk_at dksX0_drain_3 8 rfl rfl)
theorem dX0_drain_80 : decode cX0_drain 80 = .ok (.iload_n 3, 1) := dk_29 (dk_at dksX0_drain_3 10 rfl rfl)
theorem dX0_drain_81 : decode cX0_drain 81 = .ok (.if_icmp .ge 26, 3) := dk_162 0 26 (dk_at dksX0_drain_3 11 rfl rfl)
theorem dX0_drain_84 : decode cX0_drain 84 = .ok (.aload 4, 2) := dk_25 4 (dk_at dksX0_drain_3 14 rfl rfl)
theorem dX0_drain_86 : decode cX0_drain 86 = .ok (.iload 8, 2) := dk_21 8 (dk_at dksX0_drain_3 16 rfl rfl)
theorem dX0_drain_88 : decode cX0_drain 88 = .ok (.baload, 1) := dk_51 (dk_at dksX0_drain_3 18 rfl rfl)
theorem dX0_drain_89 : decode cX0_drain 89 = .ok (.ifCond .ne 12, 3) := dk_154 0 12 (dk_at dksX0_drain_3 19 rfl rfl)
theorem dX0_drain_92 : decode cX0_drain 92 = .ok (.aload_n 2, 1) := dk_44 (dk_at dksX0_drain_3 22 rfl rfl)
theorem dX0_drain_93 : decode cX0_drain 93 = .ok (.iload 8, 2) := dk_21 8 (dk_at dksX0_drain_4 0 rfl rfl)
theorem dX0_drain_95 : decode cX0_drain 95 = .ok (.iaload, 1) := dk_46 (dk_at dksX0_drain_4 2 rfl rfl)
theorem dX0_drain_96 : decode cX0_drain 96 = .ok (.iload 7, 2) := dk_21 7 (dk_at dksX0_drain_4 3 rfl rfl)
theorem dX0_drain_98 : decode cX0_drain 98 = .ok (.if_icmp .eq 9, 3) := dk_159 0 9 (dk_at dksX0_drain_4 5 rfl rfl)
theorem dX0_drain_101 : decode cX0_drain 101 = .ok (.iinc 8 1, 3) := dk_132 8 1 (dk_at dksX0_drain_4 8 rfl rfl)
theorem dX0_drain_104 : decode cX0_drain 104 = .ok (.goto (-26), 3) := dk_167 255 230 (dk_at dksX0_drain_4 11 rfl rfl)
theorem dX0_drain_107 : decode cX0_drain 107 = .ok (.iload 8, 2) := dk_21 8 (dk_at dksX0_drain_4 14 rfl rfl)
theorem dX0_drain_109 : decode cX0_drain 109 = .ok (.iload_n 3, 1) := dk_29 (dk_at dksX0_drain_4 16 rfl rfl)
theorem dX0_drain_110 : decode cX0_drain 110 = .ok (.if_icmp .ne 5, 3) := dk_160 0 5 (dk_at dksX0_drain_4 17 rfl rfl)
theorem dX0_drain_113 : decode cX0_drain 113 = .ok (.iconst 0, 1) := dk_3 (dk_at dksX0_drain_4 20 rfl rfl)
theorem dX0_drain_114 : decode cX0_drain 114 = .ok (.ireturn, 1) := dk_172 (dk_at dksX0_drain_4 21 rfl rfl)
theorem dX0_drain_115 : decode cX0_drain 115 = .ok (.aload 4, 2) := dk_25 4 (dk_at dksX0_drain_4 22 rfl rfl)
theorem dX0_drain_117 : decode cX0_drain 117 = .ok (.iload 8, 2) := dk_21 8 (dk_at dksX0_drain_5 0 rfl rfl)
theorem dX0_drain_119 : decode cX0_drain 119 = .ok (.iconst 1, 1) := dk_4 (dk_at dksX0_drain_5 2 rfl rfl)
theorem dX0_drain_120 : decode cX0_drain 120 = .ok (.bastore, 1) := dk_84 (dk_at dksX0_drain_5 3 rfl rfl)
theorem dX0_drain_121 : decode cX0_drain 121 = .ok (.iload 7, 2) := dk_21 7 (dk_at dksX0_drain_5 4 rfl rfl)
theorem dX0_drain_123 : decode cX0_drain 123 = .ok (.istore 5, 2) := dk_54 5 (dk_at dksX0_drain_5 6 rfl rfl)
theorem dX0_drain_125 : decode cX0_drain 125 = .ok (.iinc 6 1, 3) := dk_132 6 1 (dk_at dksX0_drain_5 8 rfl rfl)
theorem dX0_drain_128 : decode cX0_drain 128 = .ok (.goto (-116), 3) := dk_167 255 140 (dk_at dksX0_drain_5 11 rfl rfl)
theorem dX0_drain_131 : decode cX0_drain 131 = .ok (.aload_n 0, 1) := dk_42 (dk_at dksX0_drain_5 14 rfl rfl)
theorem dX0_drain_132 : decode cX0_drain 132 = .ok (.iload_n 1, 1) := dk_27 (dk_at dksX0_drain_5 15 rfl rfl)
theorem dX0_drain_133 : decode cX0_drain 133 = .ok (.invokevirtual 7, 3) := dk_182 0 7 (dk_at dksX0_drain_5 16 rfl rfl)
theorem dX0_drain_136 : decode cX0_drain 136 = .ok (.ifCond .ne 33, 3) := dk_154 0 33 (dk_at dksX0_drain_5 19 rfl rfl)
theorem dX0_drain_139 : decode cX0_drain 139 = .ok (.aload_n 0, 1) := dk_42 (dk_at dksX0_drain_5 22 rfl rfl)
theorem dX0_drain_140 : decode cX0_drain 140 = .ok (.iload_n 1, 1) := dk_27 (dk_at dksX0_drain_5 23 rfl rfl)
theorem dX0_drain_141 : decode cX0_drain 141 = .ok (.invokevirtual 13, 3) := dk_182 0 13 (dk_at dksX0_drain_6 0 rfl rfl)
theorem dX0_drain_144 : decode cX0_drain 144 = .ok (.ifCond .eq 25, 3) := dk_153 0 25 (dk_at dksX0_drain_6 3 rfl rfl)
theorem dX0_drain_147 : decode cX0_drain 147 = .ok (.aload_n 0, 1) := dk_42 (dk_at dksX0_drain_6 6 rfl rfl)
theorem dX0_drain_148 : decode cX0_drain 148 = .ok (.iload_n 1, 1) := dk_27 (dk_at dksX0_drain_6 7 rfl rfl)
theorem dX0_drain_149 : decode cX0_drain 149 = .ok (.invokevirtual 17, 3) := dk_182 0 17 (dk_at dksX0_drain_6 8 rfl rfl)
theorem dX0_drain_152 : decode cX0_drain 152 = .ok (.iconst (-1), 1) := dk_2 (dk_at dksX0_drain_6 11 rfl rfl)
theorem dX0_drain_153 : decode cX0_drain 153 = .ok (.if_icmp .ne 16, 3) := dk_160 0 16 (dk_at dksX0_drain_6 12 rfl rfl)
theorem dX0_drain_156 : decode cX0_drain 156 = .ok (.aload_n 0, 1) := dk_42 (dk_at dksX0_drain_6 15 rfl rfl)
theorem dX0_drain_157 : decode cX0_drain 157 = .ok (.iload_n 1, 1) := dk_27 (dk_at dksX0_drain_6 16 rfl rfl)
theorem dX0_drain_158 : decode cX0_drain 158 = .ok (.invokevirtual 20, 3) := dk_182 0 20 (dk_at dksX0_drain_6 17 rfl rfl)
theorem dX0_drain_161 : decode cX0_drain 161 = .ok (.iconst (-1), 1) := dk_2 (dk_at dksX0_drain_6 20 rfl rfl)
theorem dX0_drain_162 : decode cX0_drain 162 = .ok (.if_icmp .ne 7, 3) := dk_160 0 7 (dk_at dksX0_drain_6 21 rfl rfl)
theorem dX0_drain_165 : decode cX0_drain 165 = .ok (.iconst 1, 1) := dk_4 (dk_at dksX0_drain_7 0 rfl rfl)
theorem dX0_drain_166 : decode cX0_drain 166 = .ok (.goto 4, 3) := dk_167 0 4 (dk_at dksX0_drain_7 1 rfl rfl)
theorem dX0_drain_169 : decode cX0_drain 169 = .ok (.iconst 0, 1) := dk_3 (dk_at dksX0_drain_7 4 rfl rfl)
theorem dX0_drain_170 : decode cX0_drain 170 = .ok (.ireturn, 1) := dk_172 (dk_at dksX0_drain_7 5 rfl rfl)
theorem q2 : (Jvm.Cond.initialized "BinaryArrayHeapDeskLaw") ∈ lw_all := lw_g (lw_at lw_m1 0 rfl) rfl
theorem q18 : (Jvm.Cond.classLink "BinaryArrayHeapDeskLaw" (8 : Nat) "BinaryArrayHeapDesk") ∈ lw_all := lw_g (lw_at lw_m1 16 rfl) rfl
theorem q20 : (Jvm.Cond.methodLink "BinaryArrayHeapDeskLaw" (34 : Nat) ({ cls := "BinaryArrayHeapDesk", name := "<init>", desc := "()V" } : Jvm.MethodName)) ∈ lw_all := lw_g (lw_at lw_m1 18 rfl) rfl
theorem q182 : (Jvm.Cond.methodLink "BinaryArrayHeapDeskLaw" (35 : Nat) ({ cls := "BinaryArrayHeapDesk", name := "put", desc := "(II)Z" } : Jvm.MethodName)) ∈ lw_all := lw_g (lw_at lw_m1 180 rfl) rfl
theorem q282 : (Jvm.Cond.methodLink "BinaryArrayHeapDeskLaw" (44 : Nat) ({ cls := "BinaryArrayHeapDesk", name := "four", desc := "(IIIII)Z" } : Jvm.MethodName)) ∈ lw_all := lw_g (lw_at lw_m2 40 rfl) rfl
theorem q313 : (Jvm.Cond.methodLink "BinaryArrayHeapDeskLaw" (17 : Nat) ({ cls := "BinaryArrayHeapDesk", name := "least", desc := "(I)I" } : Jvm.MethodName)) ∈ lw_all := lw_g (lw_at lw_m2 71 rfl) rfl
theorem q350 : (Jvm.Cond.methodLink "BinaryArrayHeapDeskLaw" (20 : Nat) ({ cls := "BinaryArrayHeapDesk", name := "takeLeast", desc := "(I)I" } : Jvm.MethodName)) ∈ lw_all := lw_g (lw_at lw_m2 108 rfl) rfl
theorem q368 : (Jvm.Cond.methodLink "BinaryArrayHeapDeskLaw" (7 : Nat) ({ cls := "BinaryArrayHeapDesk", name := "size", desc := "(I)I" } : Jvm.MethodName)) ∈ lw_all := lw_g (lw_at lw_m2 126 rfl) rfl
theorem q378 : (Jvm.Cond.methodLink "BinaryArrayHeapDeskLaw" (13 : Nat) ({ cls := "BinaryArrayHeapDesk", name := "isEmpty", desc := "(I)Z" } : Jvm.MethodName)) ∈ lw_all := lw_g (lw_at lw_m2 136 rfl) rfl
theorem q382 : (Jvm.Cond.methodLink "BinaryArrayHeapDeskLaw" (52 : Nat) ({ cls := "BinaryArrayHeapDesk", name := "clear", desc := "(I)V" } : Jvm.MethodName)) ∈ lw_all := lw_g (lw_at lw_m2 140 rfl) rfl
theorem q392 : (Jvm.Cond.methodLink "BinaryArrayHeapDeskLaw" (48 : Nat) ({ cls := "BinaryArrayHeapDesk", name := "pour", desc := "(II)I" } : Jvm.MethodName)) ∈ lw_all := lw_g (lw_at lw_m2 150 rfl) rfl
theorem q396 : (Jvm.Cond.methodLink "BinaryArrayHeapDeskLaw" (29 : Nat) ({ cls := "BinaryArrayHeapDeskLaw", name := "at", desc := "([II)I" } : Jvm.MethodName)) ∈ lw_all := lw_g (lw_at lw_m2 154 rfl) rfl
theorem q397 : (Jvm.Cond.static ({ cls := "BinaryArrayHeapDeskLaw", name := "at", desc := "([II)I" } : Jvm.MethodName)) ∈ lw_all := lw_g (lw_at lw_m2 155 rfl) rfl
theorem q398 : (Jvm.Cond.code ({ cls := "BinaryArrayHeapDeskLaw", name := "at", desc := "([II)I" } : Jvm.MethodName) method_2_code (2 : Nat) (Option.some Jvm.ClassFile.FieldType.int)) ∈ lw_all := lw_g (lw_at lw_m2 156 rfl) rfl
theorem q399 : (Jvm.Cond.methodLink "BinaryArrayHeapDeskLaw" (23 : Nat) ({ cls := "BinaryArrayHeapDeskLaw", name := "ahead", desc := "(III)Z" } : Jvm.MethodName)) ∈ lw_all := lw_g (lw_at lw_m2 157 rfl) rfl
theorem q400 : (Jvm.Cond.static ({ cls := "BinaryArrayHeapDeskLaw", name := "ahead", desc := "(III)Z" } : Jvm.MethodName)) ∈ lw_all := lw_g (lw_at lw_m2 158 rfl) rfl
theorem q401 : (Jvm.Cond.code ({ cls := "BinaryArrayHeapDeskLaw", name := "ahead", desc := "(III)Z" } : Jvm.MethodName) method_3_code (3 : Nat) (Option.some Jvm.ClassFile.FieldType.boolean)) ∈ lw_all := lw_g (lw_at lw_m2 159 rfl) rfl
theorem q402 : (Jvm.Cond.methodLink "BinaryArrayHeapDeskLaw" (40 : Nat) ({ cls := "BinaryArrayHeapDeskLaw", name := "drain", desc := "(LBinaryArrayHeapDesk;I[II)Z" } : Jvm.MethodName)) ∈ lw_all := lw_g (lw_at lw_m2 160 rfl) rfl
theorem q403 : (Jvm.Cond.static ({ cls := "BinaryArrayHeapDeskLaw", name := "drain", desc := "(LBinaryArrayHeapDesk;I[II)Z" } : Jvm.MethodName)) ∈ lw_all := lw_g (lw_at lw_m2 161 rfl) rfl
theorem q404 : (Jvm.Cond.code ({ cls := "BinaryArrayHeapDeskLaw", name := "drain", desc := "(LBinaryArrayHeapDesk;I[II)Z" } : Jvm.MethodName) method_4_code (9 : Nat) (Option.some Jvm.ClassFile.FieldType.boolean)) ∈ lw_all := lw_g (lw_at lw_m2 162 rfl) rfl
theorem q406 : (Jvm.Cond.constant "BinaryArrayHeapDeskLaw" (33 : Nat) (2147483647 : Int32)) ∈ lw_all := lw_g (lw_at lw_m2 164 rfl) rfl
theorem q407 : (Jvm.Cond.constant "BinaryArrayHeapDeskLaw" (39 : Nat) (65535 : Int32)) ∈ lw_all := lw_g (lw_at lw_m2 165 rfl) rfl
end
section
/-! the law's own entry -/
set_option maxRecDepth 100000
abbrev cL_law : ByteArray := code
def dkwL_law_34 : List UInt8 := [16, 54, 184, 0, 29, 4, 5, 6, 7, 182, 0, 44, 154, 0, 7, 4, 167, 0, 4, 3, 172]
abbrev dktL_law_34 : List UInt8 := dkwL_law_34 ++ []
def dkwL_law_33 : List UInt8 := [132, 12, 1, 167, 255, 207, 25, 11, 42, 16, 53, 184, 0, 29, 4, 182, 0, 35, 154, 0, 25, 25, 11, 42]
abbrev dktL_law_33 : List UInt8 := dkwL_law_33 ++ dktL_law_34
def dkwL_law_32 : List UInt8 := [154, 0, 22, 25, 11, 42, 16, 49, 21, 12, 96, 184, 0, 29, 21, 12, 182, 0, 35, 154, 0, 5, 3, 172]
abbrev dktL_law_32 : List UInt8 := dkwL_law_32 ++ dktL_law_33
def dkwL_law_31 : List UInt8 := [54, 12, 21, 12, 7, 162, 0, 49, 21, 12, 4, 161, 0, 16, 25, 11, 3, 4, 5, 6, 7, 182, 0, 44]
abbrev dktL_law_31 : List UInt8 := dkwL_law_31 ++ dktL_law_32
def dkwL_law_30 : List UInt8 := [21, 12, 21, 12, 21, 12, 21, 12, 182, 0, 44, 154, 0, 5, 3, 172, 132, 12, 1, 167, 255, 226, 3]
abbrev dktL_law_30 : List UInt8 := dkwL_law_30 ++ dktL_law_31
def dkwL_law_29 : List UInt8 := [187, 0, 8, 89, 183, 0, 34, 58, 11, 3, 54, 12, 21, 12, 16, 15, 162, 0, 29, 25, 11, 21, 12]
abbrev dktL_law_29 : List UInt8 := dkwL_law_29 ++ dktL_law_30
def dkwL_law_28 : List UInt8 := [25, 5, 27, 182, 0, 7, 29, 160, 0, 15, 25, 5, 27, 25, 8, 29, 184, 0, 40, 154, 0, 5, 3, 172]
abbrev dktL_law_28 : List UInt8 := dkwL_law_28 ++ dktL_law_29
def dkwL_law_27 : List UInt8 := [18, 39, 126, 159, 0, 5, 3, 172, 25, 5, 28, 182, 0, 52, 25, 5, 28, 182, 0, 13, 153, 0, 25]
abbrev dktL_law_27 : List UInt8 := dkwL_law_27 ++ dktL_law_28
def dkwL_law_26 : List UInt8 := [16, 7, 184, 0, 29, 182, 0, 35, 153, 0, 21, 25, 5, 28, 182, 0, 17, 42, 16, 7, 184, 0, 29]
abbrev dktL_law_26 : List UInt8 := dkwL_law_26 ++ dktL_law_27
def dkwL_law_25 : List UInt8 := [21, 4, 160, 0, 16, 25, 7, 27, 25, 9, 21, 4, 184, 0, 40, 154, 0, 5, 3, 172, 25, 5, 28, 42]
abbrev dktL_law_25 : List UInt8 := dkwL_law_25 ++ dktL_law_26
def dkwL_law_24 : List UInt8 := [27, 182, 0, 48, 2, 160, 0, 36, 25, 7, 28, 182, 0, 13, 153, 0, 27, 25, 7, 27, 182, 0, 7]
abbrev dktL_law_24 : List UInt8 := dkwL_law_24 ++ dktL_law_25
def dkwL_law_23 : List UInt8 := [132, 4, 1, 132, 11, 1, 167, 255, 206, 25, 7, 27, 28, 182, 0, 48, 21, 4, 160, 0, 47, 25, 7, 27]
abbrev dktL_law_23 : List UInt8 := dkwL_law_23 ++ dktL_law_24
def dkwL_law_22 : List UInt8 := [154, 0, 5, 3, 172, 25, 9, 21, 4, 42, 16, 37, 21, 11, 96, 184, 0, 29, 18, 39, 126, 79]
abbrev dktL_law_22 : List UInt8 := dkwL_law_22 ++ dktL_law_23
def dkwL_law_21 : List UInt8 := [21, 11, 16, 12, 162, 0, 49, 25, 7, 28, 42, 16, 37, 21, 11, 96, 184, 0, 29, 182, 0, 35]
abbrev dktL_law_21 : List UInt8 := dkwL_law_21 ++ dktL_law_22
def dkwL_law_20 : List UInt8 := [16, 33, 21, 11, 96, 184, 0, 29, 18, 39, 126, 79, 132, 11, 1, 167, 255, 230, 7, 54, 4, 3, 54, 11]
abbrev dktL_law_20 : List UInt8 := dkwL_law_20 ++ dktL_law_21
def dkwL_law_19 : List UInt8 := [182, 0, 17, 2, 159, 0, 5, 3, 172, 3, 54, 11, 21, 11, 7, 162, 0, 26, 25, 9, 21, 11, 42]
abbrev dktL_law_19 : List UInt8 := dkwL_law_19 ++ dktL_law_20
def dkwL_law_18 : List UInt8 := [184, 0, 29, 182, 0, 44, 153, 0, 23, 25, 7, 28, 182, 0, 7, 7, 160, 0, 13, 25, 7, 27]
abbrev dktL_law_18 : List UInt8 := dkwL_law_18 ++ dktL_law_19
def dkwL_law_17 : List UInt8 := [28, 42, 16, 33, 184, 0, 29, 42, 16, 34, 184, 0, 29, 42, 16, 35, 184, 0, 29, 42, 16, 36]
abbrev dktL_law_17 : List UInt8 := dkwL_law_17 ++ dktL_law_18
def dkwL_law_16 : List UInt8 := [184, 0, 40, 154, 0, 5, 3, 172, 25, 7, 28, 42, 7, 184, 0, 29, 182, 0, 35, 153, 0, 56, 25, 7]
abbrev dktL_law_16 : List UInt8 := dkwL_law_16 ++ dktL_law_17
def dkwL_law_15 : List UInt8 := [21, 11, 46, 182, 0, 35, 154, 0, 5, 3, 172, 132, 11, 255, 167, 255, 232, 25, 6, 27, 25, 8, 29]
abbrev dktL_law_15 : List UInt8 := dkwL_law_15 ++ dktL_law_16
def dkwL_law_14 : List UInt8 := [172, 132, 11, 1, 167, 255, 230, 21, 10, 4, 100, 54, 11, 21, 11, 155, 0, 25, 25, 5, 27, 25, 9]
abbrev dktL_law_14 : List UInt8 := dkwL_law_14 ++ dktL_law_15
def dkwL_law_13 : List UInt8 := [54, 11, 21, 11, 21, 10, 162, 0, 25, 25, 6, 27, 25, 9, 21, 11, 46, 182, 0, 35, 154, 0, 5, 3]
abbrev dktL_law_13 : List UInt8 := dkwL_law_13 ++ dktL_law_14
def dkwL_law_12 : List UInt8 := [25, 9, 21, 11, 46, 25, 6, 27, 182, 0, 20, 159, 0, 5, 3, 172, 132, 11, 1, 167, 255, 219, 3]
abbrev dktL_law_12 : List UInt8 := dkwL_law_12 ++ dktL_law_13
def dkwL_law_11 : List UInt8 := [54, 10, 3, 54, 11, 21, 11, 21, 10, 162, 0, 36, 25, 9, 21, 11, 25, 5, 27, 182, 0, 20, 79]
abbrev dktL_law_11 : List UInt8 := dkwL_law_11 ++ dktL_law_12
def dkwL_law_10 : List UInt8 := [25, 5, 28, 182, 0, 17, 2, 159, 0, 5, 3, 172, 42, 6, 184, 0, 29, 18, 33, 126, 29, 4, 96, 112]
abbrev dktL_law_10 : List UInt8 := dkwL_law_10 ++ dktL_law_11
def dkwL_law_9 : List UInt8 := [182, 0, 35, 154, 0, 5, 3, 172, 132, 10, 255, 167, 255, 228, 25, 5, 28, 182, 0, 13, 153, 0, 13]
abbrev dktL_law_9 : List UInt8 := dkwL_law_9 ++ dktL_law_10
def dkwL_law_8 : List UInt8 := [29, 4, 100, 54, 10, 21, 10, 155, 0, 29, 25, 6, 27, 42, 16, 8, 21, 10, 96, 184, 0, 29]
abbrev dktL_law_8 : List UInt8 := dkwL_law_8 ++ dktL_law_9
def dkwL_law_7 : List UInt8 := [153, 0, 11, 25, 8, 21, 10, 46, 167, 0, 5, 21, 12, 159, 0, 5, 3, 172, 132, 10, 1, 167, 255, 152]
abbrev dktL_law_7 : List UInt8 := dkwL_law_7 ++ dktL_law_8
def dkwL_law_6 : List UInt8 := [79, 25, 5, 27, 182, 0, 17, 21, 10, 153, 0, 17, 27, 25, 8, 21, 10, 46, 21, 12, 184, 0, 23]
abbrev dktL_law_6 : List UInt8 := dkwL_law_6 ++ dktL_law_7
def dkwL_law_5 : List UInt8 := [25, 5, 27, 182, 0, 7, 21, 10, 4, 96, 159, 0, 5, 3, 172, 25, 8, 21, 10, 21, 11, 18, 39, 126]
abbrev dktL_law_5 : List UInt8 := dkwL_law_5 ++ dktL_law_6
def dkwL_law_4 : List UInt8 := [184, 0, 29, 54, 11, 25, 5, 27, 182, 0, 17, 54, 12, 25, 5, 27, 21, 11, 182, 0, 35, 153, 0, 16]
abbrev dktL_law_4 : List UInt8 := dkwL_law_4 ++ dktL_law_5
def dkwL_law_3 : List UInt8 := [58, 8, 16, 64, 188, 10, 58, 9, 3, 54, 10, 21, 10, 29, 162, 0, 104, 42, 16, 8, 21, 10, 96]
abbrev dktL_law_3 : List UInt8 := dkwL_law_3 ++ dktL_law_4
def dkwL_law_2 : List UInt8 := [58, 5, 187, 0, 8, 89, 183, 0, 34, 58, 6, 187, 0, 8, 89, 183, 0, 34, 58, 7, 16, 64, 188, 10]
abbrev dktL_law_2 : List UInt8 := dkwL_law_2 ++ dktL_law_3
def dkwL_law_1 : List UInt8 := [61, 42, 5, 184, 0, 29, 18, 33, 126, 16, 25, 112, 62, 3, 54, 4, 187, 0, 8, 89, 183, 0, 34]
abbrev dktL_law_1 : List UInt8 := dkwL_law_1 ++ dktL_law_2
def dkwL_law_0 : List UInt8 := [42, 3, 184, 0, 29, 6, 126, 60, 27, 4, 96, 42, 4, 184, 0, 29, 18, 33, 126, 6, 112, 96, 6, 126]
abbrev dktL_law_0 : List UInt8 := dkwL_law_0 ++ dktL_law_1
theorem dksL_law_0 : cL_law.data.toList.drop 0 = dktL_law_0 := by decide +kernel
theorem dksL_law_1 : cL_law.data.toList.drop 24 = dktL_law_1 := dk_seg dksL_law_0 24 rfl rfl
theorem dksL_law_2 : cL_law.data.toList.drop 47 = dktL_law_2 := dk_seg dksL_law_1 23 rfl rfl
theorem dksL_law_3 : cL_law.data.toList.drop 71 = dktL_law_3 := dk_seg dksL_law_2 24 rfl rfl
theorem dksL_law_4 : cL_law.data.toList.drop 94 = dktL_law_4 := dk_seg dksL_law_3 23 rfl rfl
theorem dksL_law_5 : cL_law.data.toList.drop 118 = dktL_law_5 := dk_seg dksL_law_4 24 rfl rfl
theorem dksL_law_6 : cL_law.data.toList.drop 142 = dktL_law_6 := dk_seg dksL_law_5 24 rfl rfl
theorem dksL_law_7 : cL_law.data.toList.drop 165 = dktL_law_7 := dk_seg dksL_law_6 23 rfl rfl
theorem dksL_law_8 : cL_law.data.toList.drop 189 = dktL_law_8 := dk_seg dksL_law_7 24 rfl rfl
theorem dksL_law_9 : cL_law.data.toList.drop 211 = dktL_law_9 := dk_seg dksL_law_8 22 rfl rfl
theorem dksL_law_10 : cL_law.data.toList.drop 234 = dktL_law_10 := dk_seg dksL_law_9 23 rfl rfl
theorem dksL_law_11 : cL_law.data.toList.drop 258 = dktL_law_11 := dk_seg dksL_law_10 24 rfl rfl
theorem dksL_law_12 : cL_law.data.toList.drop 281 = dktL_law_12 := dk_seg dksL_law_11 23 rfl rfl
theorem dksL_law_13 : cL_law.data.toList.drop 304 = dktL_law_13 := dk_seg dksL_law_12 23 rfl rfl
theorem dksL_law_14 : cL_law.data.toList.drop 328 = dktL_law_14 := dk_seg dksL_law_13 24 rfl rfl
theorem dksL_law_15 : cL_law.data.toList.drop 351 = dktL_law_15 := dk_seg dksL_law_14 23 rfl rfl
theorem dksL_law_16 : cL_law.data.toList.drop 374 = dktL_law_16 := dk_seg dksL_law_15 23 rfl rfl
theorem dksL_law_17 : cL_law.data.toList.drop 398 = dktL_law_17 := dk_seg dksL_law_16 24 rfl rfl
theorem dksL_law_18 : cL_law.data.toList.drop 420 = dktL_law_18 := dk_seg dksL_law_17 22 rfl rfl
theorem dksL_law_19 : cL_law.data.toList.drop 442 = dktL_law_19 := dk_seg dksL_law_18 22 rfl rfl
theorem dksL_law_20 : cL_law.data.toList.drop 465 = dktL_law_20 := dk_seg dksL_law_19 23 rfl rfl
theorem dksL_law_21 : cL_law.data.toList.drop 489 = dktL_law_21 := dk_seg dksL_law_20 24 rfl rfl
theorem dksL_law_22 : cL_law.data.toList.drop 511 = dktL_law_22 := dk_seg dksL_law_21 22 rfl rfl
theorem dksL_law_23 : cL_law.data.toList.drop 533 = dktL_law_23 := dk_seg dksL_law_22 22 rfl rfl
theorem dksL_law_24 : cL_law.data.toList.drop 557 = dktL_law_24 := dk_seg dksL_law_23 24 rfl rfl
theorem dksL_law_25 : cL_law.data.toList.drop 580 = dktL_law_25 := dk_seg dksL_law_24 23 rfl rfl
theorem dksL_law_26 : cL_law.data.toList.drop 604 = dktL_law_26 := dk_seg dksL_law_25 24 rfl rfl
theorem dksL_law_27 : cL_law.data.toList.drop 627 = dktL_law_27 := dk_seg dksL_law_26 23 rfl rfl
theorem dksL_law_28 : cL_law.data.toList.drop 650 = dktL_law_28 := dk_seg dksL_law_27 23 rfl rfl
theorem dksL_law_29 : cL_law.data.toList.drop 674 = dktL_law_29 := dk_seg dksL_law_28 24 rfl rfl
theorem dksL_law_30 : cL_law.data.toList.drop 697 = dktL_law_30 := dk_seg dksL_law_29 23 rfl rfl
theorem dksL_law_31 : cL_law.data.toList.drop 720 = dktL_law_31 := dk_seg dksL_law_30 23 rfl rfl
theorem dksL_law_32 : cL_law.data.toList.drop 744 = dktL_law_32 := dk_seg dksL_law_31 24 rfl rfl
theorem dksL_law_33 : cL_law.data.toList.drop 768 = dktL_law_33 := dk_seg dksL_law_32 24 rfl rfl
theorem dksL_law_34 : cL_law.data.toList.drop 792 = dktL_law_34 := dk_seg dksL_law_33 24 rfl rfl
theorem dL_law_0 : decode cL_law 0 = .ok (.aload_n 0, 1) := dk_42 (dk_at dksL_law_0 0 rfl rfl)
theorem dL_law_1 : decode cL_law 1 = .ok (.iconst 0, 1) := dk_3 (dk_at dksL_law_0 1 rfl rfl)
theorem dL_law_2 : decode cL_law 2 = .ok (.invokestatic 29, 3) := dk_184 0 29 (dk_at dksL_law_0 2 rfl rfl)
theorem dL_law_5 : decode cL_law 5 = .ok (.iconst 3, 1) := dk_6 (dk_at dksL_law_0 5 rfl rfl)
theorem dL_law_6 : decode cL_law 6 = .ok (.iand, 1) := dk_126 (dk_at dksL_law_0 6 rfl rfl)
theorem dL_law_7 : decode cL_law 7 = .ok (.istore_n 1, 1) := dk_60 (dk_at dksL_law_0 7 rfl rfl)
theorem dL_law_8 : decode cL_law 8 = .ok (.iload_n 1, 1) := dk_27 (dk_at dksL_law_0 8 rfl rfl)
theorem dL_law_9 : decode cL_law 9 = .ok (.iconst 1, 1) := dk_4 (dk_at dksL_law_0 9 rfl rfl)
theorem dL_law_10 : decode cL_law 10 = .ok (.iadd, 1) := dk_96 (dk_at dksL_law_0 10 rfl rfl)
theorem dL_law_11 : decode cL_law 11 = .ok (.aload_n 0, 1) := dk_42 (dk_at dksL_law_0 11 rfl rfl)
theorem dL_law_12 : decode cL_law 12 = .ok (.iconst 1, 1) := dk_4 (dk_at dksL_law_0 12 rfl rfl)
theorem dL_law_13 : decode cL_law 13 = .ok (.invokestatic 29, 3) := dk_184 0 29 (dk_at dksL_law_0 13 rfl rfl)
theorem dL_law_16 : decode cL_law 16 = .ok (.ldc 33, 2) := dk_18 33 (dk_at dksL_law_0 16 rfl rfl)
theorem dL_law_18 : decode cL_law 18 = .ok (.iand, 1) := dk_126 (dk_at dksL_law_0 18 rfl rfl)
theorem dL_law_19 : decode cL_law 19 = .ok (.iconst 3, 1) := dk_6 (dk_at dksL_law_0 19 rfl rfl)
theorem dL_law_20 : decode cL_law 20 = .ok (.irem, 1) := dk_112 (dk_at dksL_law_0 20 rfl rfl)
theorem dL_law_21 : decode cL_law 21 = .ok (.iadd, 1) := dk_96 (dk_at dksL_law_0 21 rfl rfl)
theorem dL_law_22 : decode cL_law 22 = .ok (.iconst 3, 1) := dk_6 (dk_at dksL_law_0 22 rfl rfl)
theorem dL_law_23 : decode cL_law 23 = .ok (.iand, 1) := dk_126 (dk_at dksL_law_0 23 rfl rfl)
theorem dL_law_24 : decode cL_law 24 = .ok (.istore_n 2, 1) := dk_61 (dk_at dksL_law_1 0 rfl rfl)
theorem dL_law_25 : decode cL_law 25 = .ok (.aload_n 0, 1) := dk_42 (dk_at dksL_law_1 1 rfl rfl)
theorem dL_law_26 : decode cL_law 26 = .ok (.iconst 2, 1) := dk_5 (dk_at dksL_law_1 2 rfl rfl)
theorem dL_law_27 : decode cL_law 27 = .ok (.invokestatic 29, 3) := dk_184 0 29 (dk_at dksL_law_1 3 rfl rfl)
theorem dL_law_30 : decode cL_law 30 = .ok (.ldc 33, 2) := dk_18 33 (dk_at dksL_law_1 6 rfl rfl)
theorem dL_law_32 : decode cL_law 32 = .ok (.iand, 1) := dk_126 (dk_at dksL_law_1 8 rfl rfl)
theorem dL_law_33 : decode cL_law 33 = .ok (.bipush 25, 2) := dk_16 25 (dk_at dksL_law_1 9 rfl rfl)
theorem dL_law_35 : decode cL_law 35 = .ok (.irem, 1) := dk_112 (dk_at dksL_law_1 11 rfl rfl)
theorem dL_law_36 : decode cL_law 36 = .ok (.istore_n 3, 1) := dk_62 (dk_at dksL_law_1 12 rfl rfl)
theorem dL_law_37 : decode cL_law 37 = .ok (.iconst 0, 1) := dk_3 (dk_at dksL_law_1 13 rfl rfl)
theorem dL_law_38 : decode cL_law 38 = .ok (.istore 4, 2) := dk_54 4 (dk_at dksL_law_1 14 rfl rfl)
theorem dL_law_40 : decode cL_law 40 = .ok (.new 8, 3) := dk_187 0 8 (dk_at dksL_law_1 16 rfl rfl)
theorem dL_law_43 : decode cL_law 43 = .ok (.dup, 1) := dk_89 (dk_at dksL_law_1 19 rfl rfl)
theorem dL_law_44 : decode cL_law 44 = .ok (.invokespecial 34, 3) := dk_183 0 34 (dk_at dksL_law_1 20 rfl rfl)
theorem dL_law_47 : decode cL_law 47 = .ok (.astore 5, 2) := dk_58 5 (dk_at dksL_law_2 0 rfl rfl)
theorem dL_law_49 : decode cL_law 49 = .ok (.new 8, 3) := dk_187 0 8 (dk_at dksL_law_2 2 rfl rfl)
theorem dL_law_52 : decode cL_law 52 = .ok (.dup, 1) := dk_89 (dk_at dksL_law_2 5 rfl rfl)
theorem dL_law_53 : decode cL_law 53 = .ok (.invokespecial 34, 3) := dk_183 0 34 (dk_at dksL_law_2 6 rfl rfl)
theorem dL_law_56 : decode cL_law 56 = .ok (.astore 6, 2) := dk_58 6 (dk_at dksL_law_2 9 rfl rfl)
theorem dL_law_58 : decode cL_law 58 = .ok (.new 8, 3) := dk_187 0 8 (dk_at dksL_law_2 11 rfl rfl)
theorem dL_law_61 : decode cL_law 61 = .ok (.dup, 1) := dk_89 (dk_at dksL_law_2 14 rfl rfl)
theorem dL_law_62 : decode cL_law 62 = .ok (.invokespecial 34, 3) := dk_183 0 34 (dk_at dksL_law_2 15 rfl rfl)
theorem dL_law_65 : decode cL_law 65 = .ok (.astore 7, 2) := dk_58 7 (dk_at dksL_law_2 18 rfl rfl)
theorem dL_law_67 : decode cL_law 67 = .ok (.bipush 64, 2) := dk_16 64 (dk_at dksL_law_2 20 rfl rfl)
theorem dL_law_69 : decode cL_law 69 = .ok (.newarray .int, 2) := dk_188_10 (dk_at dksL_law_2 22 rfl rfl)
theorem dL_law_71 : decode cL_law 71 = .ok (.astore 8, 2) := dk_58 8 (dk_at dksL_law_3 0 rfl rfl)
theorem dL_law_73 : decode cL_law 73 = .ok (.bipush 64, 2) := dk_16 64 (dk_at dksL_law_3 2 rfl rfl)
theorem dL_law_75 : decode cL_law 75 = .ok (.newarray .int, 2) := dk_188_10 (dk_at dksL_law_3 4 rfl rfl)
theorem dL_law_77 : decode cL_law 77 = .ok (.astore 9, 2) := dk_58 9 (dk_at dksL_law_3 6 rfl rfl)
theorem dL_law_79 : decode cL_law 79 = .ok (.iconst 0, 1) := dk_3 (dk_at dksL_law_3 8 rfl rfl)
theorem dL_law_80 : decode cL_law 80 = .ok (.istore 10, 2) := dk_54 10 (dk_at dksL_law_3 9 rfl rfl)
theorem dL_law_82 : decode cL_law 82 = .ok (.iload 10, 2) := dk_21 10 (dk_at dksL_law_3 11 rfl rfl)
theorem dL_law_84 : decode cL_law 84 = .ok (.iload_n 3, 1) := dk_29 (dk_at dksL_law_3 13 rfl rfl)
theorem dL_law_85 : decode cL_law 85 = .ok (.if_icmp .ge 104, 3) := dk_162 0 104 (dk_at dksL_law_3 14 rfl rfl)
theorem dL_law_88 : decode cL_law 88 = .ok (.aload_n 0, 1) := dk_42 (dk_at dksL_law_3 17 rfl rfl)
theorem dL_law_89 : decode cL_law 89 = .ok (.bipush 8, 2) := dk_16 8 (dk_at dksL_law_3 18 rfl rfl)
theorem dL_law_91 : decode cL_law 91 = .ok (.iload 10, 2) := dk_21 10 (dk_at dksL_law_3 20 rfl rfl)
theorem dL_law_93 : decode cL_law 93 = .ok (.iadd, 1) := dk_96 (dk_at dksL_law_3 22 rfl rfl)
theorem dL_law_94 : decode cL_law 94 = .ok (.invokestatic 29, 3) := dk_184 0 29 (dk_at dksL_law_4 0 rfl rfl)
theorem dL_law_97 : decode cL_law 97 = .ok (.istore 11, 2) := dk_54 11 (dk_at dksL_law_4 3 rfl rfl)
theorem dL_law_99 : decode cL_law 99 = .ok (.aload 5, 2) := dk_25 5 (dk_at dksL_law_4 5 rfl rfl)
theorem dL_law_101 : decode cL_law 101 = .ok (.iload_n 1, 1) := dk_27 (dk_at dksL_law_4 7 rfl rfl)
theorem dL_law_102 : decode cL_law 102 = .ok (.invokevirtual 17, 3) := dk_182 0 17 (dk_at dksL_law_4 8 rfl rfl)
theorem dL_law_105 : decode cL_law 105 = .ok (.istore 12, 2) := dk_54 12 (dk_at dksL_law_4 11 rfl rfl)
theorem dL_law_107 : decode cL_law 107 = .ok (.aload 5, 2) := dk_25 5 (dk_at dksL_law_4 13 rfl rfl)
theorem dL_law_109 : decode cL_law 109 = .ok (.iload_n 1, 1) := dk_27 (dk_at dksL_law_4 15 rfl rfl)
theorem dL_law_110 : decode cL_law 110 = .ok (.iload 11, 2) := dk_21 11 (dk_at dksL_law_4 16 rfl rfl)
theorem dL_law_112 : decode cL_law 112 = .ok (.invokevirtual 35, 3) := dk_182 0 35 (dk_at dksL_law_4 18 rfl rfl)
theorem dL_law_115 : decode cL_law 115 = .ok (.ifCond .eq 16, 3) := dk_153 0 16 (dk_at dksL_law_4 21 rfl rfl)
theorem dL_law_118 : decode cL_law 118 = .ok (.aload 5, 2) := dk_25 5 (dk_at dksL_law_5 0 rfl rfl)
theorem dL_law_120 : decode cL_law 120 = .ok (.iload_n 1, 1) := dk_27 (dk_at dksL_law_5 2 rfl rfl)
theorem dL_law_121 : decode cL_law 121 = .ok (.invokevirtual 7, 3) := dk_182 0 7 (dk_at dksL_law_5 3 rfl rfl)
theorem dL_law_124 : decode cL_law 124 = .ok (.iload 10, 2) := dk_21 10 (dk_at dksL_law_5 6 rfl rfl)
theorem dL_law_126 : decode cL_law 126 = .ok (.iconst 1, 1) := dk_4 (dk_at dksL_law_5 8 rfl rfl)
theorem dL_law_127 : decode cL_law 127 = .ok (.iadd, 1) := dk_96 (dk_at dksL_law_5 9 rfl rfl)
theorem dL_law_128 : decode cL_law 128 = .ok (.if_icmp .eq 5, 3) := dk_159 0 5 (dk_at dksL_law_5 10 rfl rfl)
theorem dL_law_131 : decode cL_law 131 = .ok (.iconst 0, 1) := dk_3 (dk_at dksL_law_5 13 rfl rfl)
theorem dL_law_132 : decode cL_law 132 = .ok (.ireturn, 1) := dk_172 (dk_at dksL_law_5 14 rfl rfl)
theorem dL_law_133 : decode cL_law 133 = .ok (.aload 8, 2) := dk_25 8 (dk_at dksL_law_5 15 rfl rfl)
theorem dL_law_135 : decode cL_law 135 = .ok (.iload 10, 2) := dk_21 10 (dk_at dksL_law_5 17 rfl rfl)
theorem dL_law_137 : decode cL_law 137 = .ok (.iload 11, 2) := dk_21 11 (dk_at dksL_law_5 19 rfl rfl)
theorem dL_law_139 : decode cL_law 139 = .ok (.ldc 39, 2) := dk_18 39 (dk_at dksL_law_5 21 rfl rfl)
theorem dL_law_141 : decode cL_law 141 = .ok (.iand, 1) := dk_126 (dk_at dksL_law_5 23 rfl rfl)
theorem dL_law_142 : decode cL_law 142 = .ok (.iastore, 1) := dk_79 (dk_at dksL_law_6 0 rfl rfl)
theorem dL_law_143 : decode cL_law 143 = .ok (.aload 5, 2) := dk_25 5 (dk_at dksL_law_6 1 rfl rfl)
theorem dL_law_145 : decode cL_law 145 = .ok (.iload_n 1, 1) := dk_27 (dk_at dksL_law_6 3 rfl rfl)
theorem dL_law_146 : decode cL_law 146 = .ok (.invokevirtual 17, 3) := dk_182 0 17 (dk_at dksL_law_6 4 rfl rfl)
theorem dL_law_149 : decode cL_law 149 = .ok (.iload 10, 2) := dk_21 10 (dk_at dksL_law_6 7 rfl rfl)
theorem dL_law_151 : decode cL_law 151 = .ok (.ifCond .eq 17, 3) := dk_153 0 17 (dk_at dksL_law_6 9 rfl rfl)
theorem dL_law_154 : decode cL_law 154 = .ok (.iload_n 1, 1) := dk_27 (dk_at dksL_law_6 12 rfl rfl)
theorem dL_law_155 : decode cL_law 155 = .ok (.aload 8, 2) := dk_25 8 (dk_at dksL_law_6 13 rfl rfl)
theorem dL_law_157 : decode cL_law 157 = .ok (.iload 10, 2) := dk_21 10 (dk_at dksL_law_6 15 rfl rfl)
theorem dL_law_159 : decode cL_law 159 = .ok (.iaload, 1) := dk_46 (dk_at dksL_law_6 17 rfl rfl)
theorem dL_law_160 : decode cL_law 160 = .ok (.iload 12, 2) := dk_21 12 (dk_at dksL_law_6 18 rfl rfl)
theorem dL_law_162 : decode cL_law 162 = .ok (.invokestatic 23, 3) := dk_184 0 23 (dk_at dksL_law_6 20 rfl rfl)
theorem dL_law_165 : decode cL_law 165 = .ok (.ifCond .eq 11, 3) := dk_153 0 11 (dk_at dksL_law_7 0 rfl rfl)
theorem dL_law_168 : decode cL_law 168 = .ok (.aload 8, 2) := dk_25 8 (dk_at dksL_law_7 3 rfl rfl)
theorem dL_law_170 : decode cL_law 170 = .ok (.iload 10, 2) := dk_21 10 (dk_at dksL_law_7 5 rfl rfl)
theorem dL_law_172 : decode cL_law 172 = .ok (.iaload, 1) := dk_46 (dk_at dksL_law_7 7 rfl rfl)
theorem dL_law_173 : decode cL_law 173 = .ok (.goto 5, 3) := dk_167 0 5 (dk_at dksL_law_7 8 rfl rfl)
theorem dL_law_176 : decode cL_law 176 = .ok (.iload 12, 2) := dk_21 12 (dk_at dksL_law_7 11 rfl rfl)
theorem dL_law_178 : decode cL_law 178 = .ok (.if_icmp .eq 5, 3) := dk_159 0 5 (dk_at dksL_law_7 13 rfl rfl)
theorem dL_law_181 : decode cL_law 181 = .ok (.iconst 0, 1) := dk_3 (dk_at dksL_law_7 16 rfl rfl)
theorem dL_law_182 : decode cL_law 182 = .ok (.ireturn, 1) := dk_172 (dk_at dksL_law_7 17 rfl rfl)
theorem dL_law_183 : decode cL_law 183 = .ok (.iinc 10 1, 3) := dk_132 10 1 (dk_at dksL_law_7 18 rfl rfl)
theorem dL_law_186 : decode cL_law 186 = .ok (.goto (-104), 3) := dk_167 255 152 (dk_at dksL_law_7 21 rfl rfl)
theorem dL_law_189 : decode cL_law 189 = .ok (.iload_n 3, 1) := dk_29 (dk_at dksL_law_8 0 rfl rfl)
theorem dL_law_190 : decode cL_law 190 = .ok (.iconst 1, 1) := dk_4 (dk_at dksL_law_8 1 rfl rfl)
theorem dL_law_191 : decode cL_law 191 = .ok (.isub, 1) := dk_100 (dk_at dksL_law_8 2 rfl rfl)
theorem dL_law_192 : decode cL_law 192 = .ok (.istore 10, 2) := dk_54 10 (dk_at dksL_law_8 3 rfl rfl)
theorem dL_law_194 : decode cL_law 194 = .ok (.iload 10, 2) := dk_21 10 (dk_at dksL_law_8 5 rfl rfl)
theorem dL_law_196 : decode cL_law 196 = .ok (.ifCond .lt 29, 3) := dk_155 0 29 (dk_at dksL_law_8 7 rfl rfl)
theorem dL_law_199 : decode cL_law 199 = .ok (.aload 6, 2) := dk_25 6 (dk_at dksL_law_8 10 rfl rfl)
theorem dL_law_201 : decode cL_law 201 = .ok (.iload_n 1, 1) := dk_27 (dk_at dksL_law_8 12 rfl rfl)
theorem dL_law_202 : decode cL_law 202 = .ok (.aload_n 0, 1) := dk_42 (dk_at dksL_law_8 13 rfl rfl)
theorem dL_law_203 : decode cL_law 203 = .ok (.bipush 8, 2) := dk_16 8 (dk_at dksL_law_8 14 rfl rfl)
theorem dL_law_205 : decode cL_law 205 = .ok (.iload 10, 2) := dk_21 10 (dk_at dksL_law_8 16 rfl rfl)
theorem dL_law_207 : decode cL_law 207 = .ok (.iadd, 1) := dk_96 (dk_at dksL_law_8 18 rfl rfl)
theorem dL_law_208 : decode cL_law 208 = .ok (.invokestatic 29, 3) := dk_184 0 29 (dk_at dksL_law_8 19 rfl rfl)
theorem dL_law_211 : decode cL_law 211 = .ok (.invokevirtual 35, 3) := dk_182 0 35 (dk_at dksL_law_9 0 rfl rfl)
theorem dL_law_214 : decode cL_law 214 = .ok (.ifCond .ne 5, 3) := dk_154 0 5 (dk_at dksL_law_9 3 rfl rfl)
theorem dL_law_217 : decode cL_law 217 = .ok (.iconst 0, 1) := dk_3 (dk_at dksL_law_9 6 rfl rfl)
theorem dL_law_218 : decode cL_law 218 = .ok (.ireturn, 1) := dk_172 (dk_at dksL_law_9 7 rfl rfl)
theorem dL_law_219 : decode cL_law 219 = .ok (.iinc 10 (-1), 3) := dk_132 10 255 (dk_at dksL_law_9 8 rfl rfl)
theorem dL_law_222 : decode cL_law 222 = .ok (.goto (-28), 3) := dk_167 255 228 (dk_at dksL_law_9 11 rfl rfl)
theorem dL_law_225 : decode cL_law 225 = .ok (.aload 5, 2) := dk_25 5 (dk_at dksL_law_9 14 rfl rfl)
theorem dL_law_227 : decode cL_law 227 = .ok (.iload_n 2, 1) := dk_28 (dk_at dksL_law_9 16 rfl rfl)
theorem dL_law_228 : decode cL_law 228 = .ok (.invokevirtual 13, 3) := dk_182 0 13 (dk_at dksL_law_9 17 rfl rfl)
theorem dL_law_231 : decode cL_law 231 = .ok (.ifCond .eq 13, 3) := dk_153 0 13 (dk_at dksL_law_9 20 rfl rfl)
theorem dL_law_234 : decode cL_law 234 = .ok (.aload 5, 2) := dk_25 5 (dk_at dksL_law_10 0 rfl rfl)
theorem dL_law_236 : decode cL_law 236 = .ok (.iload_n 2, 1) := dk_28 (dk_at dksL_law_10 2 rfl rfl)
theorem dL_law_237 : decode cL_law 237 = .ok (.invokevirtual 17, 3) := dk_182 0 17 (dk_at dksL_law_10 3 rfl rfl)
theorem dL_law_240 : decode cL_law 240 = .ok (.iconst (-1), 1) := dk_2 (dk_at dksL_law_10 6 rfl rfl)
theorem dL_law_241 : decode cL_law 241 = .ok (.if_icmp .eq 5, 3) := dk_159 0 5 (dk_at dksL_law_10 7 rfl rfl)
theorem dL_law_244 : decode cL_law 244 = .ok (.iconst 0, 1) := dk_3 (dk_at dksL_law_10 10 rfl rfl)
theorem dL_law_245 : decode cL_law 245 = .ok (.ireturn, 1) := dk_172 (dk_at dksL_law_10 11 rfl rfl)
theorem dL_law_246 : decode cL_law 246 = .ok (.aload_n 0, 1) := dk_42 (dk_at dksL_law_10 12 rfl rfl)
theorem dL_law_247 : decode cL_law 247 = .ok (.iconst 3, 1) := dk_6 (dk_at dksL_law_10 13 rfl rfl)
theorem dL_law_248 : decode cL_law 248 = .ok (.invokestatic 29, 3) := dk_184 0 29 (dk_at dksL_law_10 14 rfl rfl)
theorem dL_law_251 : decode cL_law 251 = .ok (.ldc 33, 2) := dk_18 33 (dk_at dksL_law_10 17 rfl rfl)
theorem dL_law_253 : decode cL_law 253 = .ok (.iand, 1) := dk_126 (dk_at dksL_law_10 19 rfl rfl)
theorem dL_law_254 : decode cL_law 254 = .ok (.iload_n 3, 1) := dk_29 (dk_at dksL_law_10 20 rfl rfl)
theorem dL_law_255 : decode cL_law 255 = .ok (.iconst 1, 1) := dk_4 (dk_at dksL_law_10 21 rfl rfl)
theorem dL_law_256 : decode cL_law 256 = .ok (.iadd, 1) := dk_96 (dk_at dksL_law_10 22 rfl rfl)
theorem dL_law_257 : decode cL_law 257 = .ok (.irem, 1) := dk_112 (dk_at dksL_law_10 23 rfl rfl)
theorem dL_law_258 : decode cL_law 258 = .ok (.istore 10, 2) := dk_54 10 (dk_at dksL_law_11 0 rfl rfl)
theorem dL_law_260 : decode cL_law 260 = .ok (.iconst 0, 1) := dk_3 (dk_at dksL_law_11 2 rfl rfl)
theorem dL_law_261 : decode cL_law 261 = .ok (.istore 11, 2) := dk_54 11 (dk_at dksL_law_11 3 rfl rfl)
theorem dL_law_263 : decode cL_law 263 = .ok (.iload 11, 2) := dk_21 11 (dk_at dksL_law_11 5 rfl rfl)
theorem dL_law_265 : decode cL_law 265 = .ok (.iload 10, 2) := dk_21 10 (dk_at dksL_law_11 7 rfl rfl)
theorem dL_law_267 : decode cL_law 267 = .ok (.if_icmp .ge 36, 3) := dk_162 0 36 (dk_at dksL_law_11 9 rfl rfl)
theorem dL_law_270 : decode cL_law 270 = .ok (.aload 9, 2) := dk_25 9 (dk_at dksL_law_11 12 rfl rfl)
theorem dL_law_272 : decode cL_law 272 = .ok (.iload 11, 2) := dk_21 11 (dk_at dksL_law_11 14 rfl rfl)
theorem dL_law_274 : decode cL_law 274 = .ok (.aload 5, 2) := dk_25 5 (dk_at dksL_law_11 16 rfl rfl)
theorem dL_law_276 : decode cL_law 276 = .ok (.iload_n 1, 1) := dk_27 (dk_at dksL_law_11 18 rfl rfl)
theorem dL_law_277 : decode cL_law 277 = .ok (.invokevirtual 20, 3) := dk_182 0 20 (dk_at dksL_law_11 19 rfl rfl)
theorem dL_law_280 : decode cL_law 280 = .ok (.iastore, 1) := dk_79 (dk_at dksL_law_11 22 rfl rfl)
theorem dL_law_281 : decode cL_law 281 = .ok (.aload 9, 2) := dk_25 9 (dk_at dksL_law_12 0 rfl rfl)
theorem dL_law_283 : decode cL_law 283 = .ok (.iload 11, 2) := dk_21 11 (dk_at dksL_law_12 2 rfl rfl)
theorem dL_law_285 : decode cL_law 285 = .ok (.iaload, 1) := dk_46 (dk_at dksL_law_12 4 rfl rfl)
theorem dL_law_286 : decode cL_law 286 = .ok (.aload 6, 2) := dk_25 6 (dk_at dksL_law_12 5 rfl rfl)
theorem dL_law_288 : decode cL_law 288 = .ok (.iload_n 1, 1) := dk_27 (dk_at dksL_law_12 7 rfl rfl)
theorem dL_law_289 : decode cL_law 289 = .ok (.invokevirtual 20, 3) := dk_182 0 20 (dk_at dksL_law_12 8 rfl rfl)
theorem dL_law_292 : decode cL_law 292 = .ok (.if_icmp .eq 5, 3) := dk_159 0 5 (dk_at dksL_law_12 11 rfl rfl)
theorem dL_law_295 : decode cL_law 295 = .ok (.iconst 0, 1) := dk_3 (dk_at dksL_law_12 14 rfl rfl)
theorem dL_law_296 : decode cL_law 296 = .ok (.ireturn, 1) := dk_172 (dk_at dksL_law_12 15 rfl rfl)
theorem dL_law_297 : decode cL_law 297 = .ok (.iinc 11 1, 3) := dk_132 11 1 (dk_at dksL_law_12 16 rfl rfl)
theorem dL_law_300 : decode cL_law 300 = .ok (.goto (-37), 3) := dk_167 255 219 (dk_at dksL_law_12 19 rfl rfl)
theorem dL_law_303 : decode cL_law 303 = .ok (.iconst 0, 1) := dk_3 (dk_at dksL_law_12 22 rfl rfl)
theorem dL_law_304 : decode cL_law 304 = .ok (.istore 11, 2) := dk_54 11 (dk_at dksL_law_13 0 rfl rfl)
theorem dL_law_306 : decode cL_law 306 = .ok (.iload 11, 2) := dk_21 11 (dk_at dksL_law_13 2 rfl rfl)
theorem dL_law_308 : decode cL_law 308 = .ok (.iload 10, 2) := dk_21 10 (dk_at dksL_law_13 4 rfl rfl)
theorem dL_law_310 : decode cL_law 310 = .ok (.if_icmp .ge 25, 3) := dk_162 0 25 (dk_at dksL_law_13 6 rfl rfl)
theorem dL_law_313 : decode cL_law 313 = .ok (.aload 6, 2) := dk_25 6 (dk_at dksL_law_13 9 rfl rfl)
theorem dL_law_315 : decode cL_law 315 = .ok (.iload_n 1, 1) := dk_27 (dk_at dksL_law_13 11 rfl rfl)
theorem dL_law_316 : decode cL_law 316 = .ok (.aload 9, 2) := dk_25 9 (dk_at dksL_law_13 12 rfl rfl)
theorem dL_law_318 : decode cL_law 318 = .ok (.iload 11, 2) := dk_21 11 (dk_at dksL_law_13 14 rfl rfl)
theorem dL_law_320 : decode cL_law 320 = .ok (.iaload, 1) := dk_46 (dk_at dksL_law_13 16 rfl rfl)
theorem dL_law_321 : decode cL_law 321 = .ok (.invokevirtual 35, 3) := dk_182 0 35 (dk_at dksL_law_13 17 rfl rfl)
theorem dL_law_324 : decode cL_law 324 = .ok (.ifCond .ne 5, 3) := dk_154 0 5 (dk_at dksL_law_13 20 rfl rfl)
theorem dL_law_327 : decode cL_law 327 = .ok (.iconst 0, 1) := dk_3 (dk_at dksL_law_13 23 rfl rfl)
theorem dL_law_328 : decode cL_law 328 = .ok (.ireturn, 1) := dk_172 (dk_at dksL_law_14 0 rfl rfl)
theorem dL_law_329 : decode cL_law 329 = .ok (.iinc 11 1, 3) := dk_132 11 1 (dk_at dksL_law_14 1 rfl rfl)
theorem dL_law_332 : decode cL_law 332 = .ok (.goto (-26), 3) := dk_167 255 230 (dk_at dksL_law_14 4 rfl rfl)
theorem dL_law_335 : decode cL_law 335 = .ok (.iload 10, 2) := dk_21 10 (dk_at dksL_law_14 7 rfl rfl)
theorem dL_law_337 : decode cL_law 337 = .ok (.iconst 1, 1) := dk_4 (dk_at dksL_law_14 9 rfl rfl)
theorem dL_law_338 : decode cL_law 338 = .ok (.isub, 1) := dk_100 (dk_at dksL_law_14 10 rfl rfl)
theorem dL_law_339 : decode cL_law 339 = .ok (.istore 11, 2) := dk_54 11 (dk_at dksL_law_14 11 rfl rfl)
theorem dL_law_341 : decode cL_law 341 = .ok (.iload 11, 2) := dk_21 11 (dk_at dksL_law_14 13 rfl rfl)
theorem dL_law_343 : decode cL_law 343 = .ok (.ifCond .lt 25, 3) := dk_155 0 25 (dk_at dksL_law_14 15 rfl rfl)
theorem dL_law_346 : decode cL_law 346 = .ok (.aload 5, 2) := dk_25 5 (dk_at dksL_law_14 18 rfl rfl)
theorem dL_law_348 : decode cL_law 348 = .ok (.iload_n 1, 1) := dk_27 (dk_at dksL_law_14 20 rfl rfl)
theorem dL_law_349 : decode cL_law 349 = .ok (.aload 9, 2) := dk_25 9 (dk_at dksL_law_14 21 rfl rfl)
theorem dL_law_351 : decode cL_law 351 = .ok (.iload 11, 2) := dk_21 11 (dk_at dksL_law_15 0 rfl rfl)
theorem dL_law_353 : decode cL_law 353 = .ok (.iaload, 1) := dk_46 (dk_at dksL_law_15 2 rfl rfl)
theorem dL_law_354 : decode cL_law 354 = .ok (.invokevirtual 35, 3) := dk_182 0 35 (dk_at dksL_law_15 3 rfl rfl)
theorem dL_law_357 : decode cL_law 357 = .ok (.ifCond .ne 5, 3) := dk_154 0 5 (dk_at dksL_law_15 6 rfl rfl)
theorem dL_law_360 : decode cL_law 360 = .ok (.iconst 0, 1) := dk_3 (dk_at dksL_law_15 9 rfl rfl)
theorem dL_law_361 : decode cL_law 361 = .ok (.ireturn, 1) := dk_172 (dk_at dksL_law_15 10 rfl rfl)
theorem dL_law_362 : decode cL_law 362 = .ok (.iinc 11 (-1), 3) := dk_132 11 255 (dk_at dksL_law_15 11 rfl rfl)
theorem dL_law_365 : decode cL_law 365 = .ok (.goto (-24), 3) := dk_167 255 232 (dk_at dksL_law_15 14 rfl rfl)
theorem dL_law_368 : decode cL_law 368 = .ok (.aload 6, 2) := dk_25 6 (dk_at dksL_law_15 17 rfl rfl)
theorem dL_law_370 : decode cL_law 370 = .ok (.iload_n 1, 1) := dk_27 (dk_at dksL_law_15 19 rfl rfl)
theorem dL_law_371 : decode cL_law 371 = .ok (.aload 8, 2) := dk_25 8 (dk_at dksL_law_15 20 rfl rfl)
theorem dL_law_373 : decode cL_law 373 = .ok (.iload_n 3, 1) := dk_29 (dk_at dksL_law_15 22 rfl rfl)
theorem dL_law_374 : decode cL_law 374 = .ok (.invokestatic 40, 3) := dk_184 0 40 (dk_at dksL_law_16 0 rfl rfl)
theorem dL_law_377 : decode cL_law 377 = .ok (.ifCond .ne 5, 3) := dk_154 0 5 (dk_at dksL_law_16 3 rfl rfl)
theorem dL_law_380 : decode cL_law 380 = .ok (.iconst 0, 1) := dk_3 (dk_at dksL_law_16 6 rfl rfl)
theorem dL_law_381 : decode cL_law 381 = .ok (.ireturn, 1) := dk_172 (dk_at dksL_law_16 7 rfl rfl)
theorem dL_law_382 : decode cL_law 382 = .ok (.aload 7, 2) := dk_25 7 (dk_at dksL_law_16 8 rfl rfl)
theorem dL_law_384 : decode cL_law 384 = .ok (.iload_n 2, 1) := dk_28 (dk_at dksL_law_16 10 rfl rfl)
theorem dL_law_385 : decode cL_law 385 = .ok (.aload_n 0, 1) := dk_42 (dk_at dksL_law_16 11 rfl rfl)
theorem dL_law_386 : decode cL_law 386 = .ok (.iconst 4, 1) := dk_7 (dk_at dksL_law_16 12 rfl rfl)
theorem dL_law_387 : decode cL_law 387 = .ok (.invokestatic 29, 3) := dk_184 0 29 (dk_at dksL_law_16 13 rfl rfl)
theorem dL_law_390 : decode cL_law 390 = .ok (.invokevirtual 35, 3) := dk_182 0 35 (dk_at dksL_law_16 16 rfl rfl)
theorem dL_law_393 : decode cL_law 393 = .ok (.ifCond .eq 56, 3) := dk_153 0 56 (dk_at dksL_law_16 19 rfl rfl)
theorem dL_law_396 : decode cL_law 396 = .ok (.aload 7, 2) := dk_25 7 (dk_at dksL_law_16 22 rfl rfl)
theorem dL_law_398 : decode cL_law 398 = .ok (.iload_n 2, 1) := dk_28 (dk_at dksL_law_17 0 rfl rfl)
theorem dL_law_399 : decode cL_law 399 = .ok (.aload_n 0, 1) := dk_42 (dk_at dksL_law_17 1 rfl rfl)
theorem dL_law_400 : decode cL_law 400 = .ok (.bipush 33, 2) := dk_16 33 (dk_at dksL_law_17 2 rfl rfl)
theorem dL_law_402 : decode cL_law 402 = .ok (.invokestatic 29, 3) := dk_184 0 29 (dk_at dksL_law_17 4 rfl rfl)
theorem dL_law_405 : decode cL_law 405 = .ok (.aload_n 0, 1) := dk_42 (dk_at dksL_law_17 7 rfl rfl)
theorem dL_law_406 : decode cL_law 406 = .ok (.bipush 34, 2) := dk_16 34 (dk_at dksL_law_17 8 rfl rfl)
theorem dL_law_408 : decode cL_law 408 = .ok (.invokestatic 29, 3) := dk_184 0 29 (dk_at dksL_law_17 10 rfl rfl)
theorem dL_law_411 : decode cL_law 411 = .ok (.aload_n 0, 1) := dk_42 (dk_at dksL_law_17 13 rfl rfl)
theorem dL_law_412 : decode cL_law 412 = .ok (.bipush 35, 2) := dk_16 35 (dk_at dksL_law_17 14 rfl rfl)
theorem dL_law_414 : decode cL_law 414 = .ok (.invokestatic 29, 3) := dk_184 0 29 (dk_at dksL_law_17 16 rfl rfl)
theorem dL_law_417 : decode cL_law 417 = .ok (.aload_n 0, 1) := dk_42 (dk_at dksL_law_17 19 rfl rfl)
theorem dL_law_418 : decode cL_law 418 = .ok (.bipush 36, 2) := dk_16 36 (dk_at dksL_law_17 20 rfl rfl)
theorem dL_law_420 : decode cL_law 420 = .ok (.invokestatic 29, 3) := dk_184 0 29 (dk_at dksL_law_18 0 rfl rfl)
theorem dL_law_423 : decode cL_law 423 = .ok (.invokevirtual 44, 3) := dk_182 0 44 (dk_at dksL_law_18 3 rfl rfl)
theorem dL_law_426 : decode cL_law 426 = .ok (.ifCond .eq 23, 3) := dk_153 0 23 (dk_at dksL_law_18 6 rfl rfl)
theorem dL_law_429 : decode cL_law 429 = .ok (.aload 7, 2) := dk_25 7 (dk_at dksL_law_18 9 rfl rfl)
theorem dL_law_431 : decode cL_law 431 = .ok (.iload_n 2, 1) := dk_28 (dk_at dksL_law_18 11 rfl rfl)
theorem dL_law_432 : decode cL_law 432 = .ok (.invokevirtual 7, 3) := dk_182 0 7 (dk_at dksL_law_18 12 rfl rfl)
theorem dL_law_435 : decode cL_law 435 = .ok (.iconst 4, 1) := dk_7 (dk_at dksL_law_18 15 rfl rfl)
theorem dL_law_436 : decode cL_law 436 = .ok (.if_icmp .ne 13, 3) := dk_160 0 13 (dk_at dksL_law_18 16 rfl rfl)
theorem dL_law_439 : decode cL_law 439 = .ok (.aload 7, 2) := dk_25 7 (dk_at dksL_law_18 19 rfl rfl)
theorem dL_law_441 : decode cL_law 441 = .ok (.iload_n 1, 1) := dk_27 (dk_at dksL_law_18 21 rfl rfl)
theorem dL_law_442 : decode cL_law 442 = .ok (.invokevirtual 17, 3) := dk_182 0 17 (dk_at dksL_law_19 0 rfl rfl)
theorem dL_law_445 : decode cL_law 445 = .ok (.iconst (-1), 1) := dk_2 (dk_at dksL_law_19 3 rfl rfl)
theorem dL_law_446 : decode cL_law 446 = .ok (.if_icmp .eq 5, 3) := dk_159 0 5 (dk_at dksL_law_19 4 rfl rfl)
theorem dL_law_449 : decode cL_law 449 = .ok (.iconst 0, 1) := dk_3 (dk_at dksL_law_19 7 rfl rfl)
theorem dL_law_450 : decode cL_law 450 = .ok (.ireturn, 1) := dk_172 (dk_at dksL_law_19 8 rfl rfl)
theorem dL_law_451 : decode cL_law 451 = .ok (.iconst 0, 1) := dk_3 (dk_at dksL_law_19 9 rfl rfl)
theorem dL_law_452 : decode cL_law 452 = .ok (.istore 11, 2) := dk_54 11 (dk_at dksL_law_19 10 rfl rfl)
theorem dL_law_454 : decode cL_law 454 = .ok (.iload 11, 2) := dk_21 11 (dk_at dksL_law_19 12 rfl rfl)
theorem dL_law_456 : decode cL_law 456 = .ok (.iconst 4, 1) := dk_7 (dk_at dksL_law_19 14 rfl rfl)
theorem dL_law_457 : decode cL_law 457 = .ok (.if_icmp .ge 26, 3) := dk_162 0 26 (dk_at dksL_law_19 15 rfl rfl)
theorem dL_law_460 : decode cL_law 460 = .ok (.aload 9, 2) := dk_25 9 (dk_at dksL_law_19 18 rfl rfl)
theorem dL_law_462 : decode cL_law 462 = .ok (.iload 11, 2) := dk_21 11 (dk_at dksL_law_19 20 rfl rfl)
theorem dL_law_464 : decode cL_law 464 = .ok (.aload_n 0, 1) := dk_42 (dk_at dksL_law_19 22 rfl rfl)
theorem dL_law_465 : decode cL_law 465 = .ok (.bipush 33, 2) := dk_16 33 (dk_at dksL_law_20 0 rfl rfl)
theorem dL_law_467 : decode cL_law 467 = .ok (.iload 11, 2) := dk_21 11 (dk_at dksL_law_20 2 rfl rfl)
theorem dL_law_469 : decode cL_law 469 = .ok (.iadd, 1) := dk_96 (dk_at dksL_law_20 4 rfl rfl)
theorem dL_law_470 : decode cL_law 470 = .ok (.invokestatic 29, 3) := dk_184 0 29 (dk_at dksL_law_20 5 rfl rfl)
theorem dL_law_473 : decode cL_law 473 = .ok (.ldc 39, 2) := dk_18 39 (dk_at dksL_law_20 8 rfl rfl)
theorem dL_law_475 : decode cL_law 475 = .ok (.iand, 1) := dk_126 (dk_at dksL_law_20 10 rfl rfl)
theorem dL_law_476 : decode cL_law 476 = .ok (.iastore, 1) := dk_79 (dk_at dksL_law_20 11 rfl rfl)
theorem dL_law_477 : decode cL_law 477 = .ok (.iinc 11 1, 3) := dk_132 11 1 (dk_at dksL_law_20 12 rfl rfl)
theorem dL_law_480 : decode cL_law 480 = .ok (.goto (-26), 3) := dk_167 255 230 (dk_at dksL_law_20 15 rfl rfl)
theorem dL_law_483 : decode cL_law 483 = .ok (.iconst 4, 1) := dk_7 (dk_at dksL_law_20 18 rfl rfl)
theorem dL_law_484 : decode cL_law 484 = .ok (.istore 4, 2) := dk_54 4 (dk_at dksL_law_20 19 rfl rfl)
theorem dL_law_486 : decode cL_law 486 = .ok (.iconst 0, 1) := dk_3 (dk_at dksL_law_20 21 rfl rfl)
theorem dL_law_487 : decode cL_law 487 = .ok (.istore 11, 2) := dk_54 11 (dk_at dksL_law_20 22 rfl rfl)
theorem dL_law_489 : decode cL_law 489 = .ok (.iload 11, 2) := dk_21 11 (dk_at dksL_law_21 0 rfl rfl)
theorem dL_law_491 : decode cL_law 491 = .ok (.bipush 12, 2) := dk_16 12 (dk_at dksL_law_21 2 rfl rfl)
theorem dL_law_493 : decode cL_law 493 = .ok (.if_icmp .ge 49, 3) := dk_162 0 49 (dk_at dksL_law_21 4 rfl rfl)
theorem dL_law_496 : decode cL_law 496 = .ok (.aload 7, 2) := dk_25 7 (dk_at dksL_law_21 7 rfl rfl)
theorem dL_law_498 : decode cL_law 498 = .ok (.iload_n 2, 1) := dk_28 (dk_at dksL_law_21 9 rfl rfl)
theorem dL_law_499 : decode cL_law 499 = .ok (.aload_n 0, 1) := dk_42 (dk_at dksL_law_21 10 rfl rfl)
theorem dL_law_500 : decode cL_law 500 = .ok (.bipush 37, 2) := dk_16 37 (dk_at dksL_law_21 11 rfl rfl)
theorem dL_law_502 : decode cL_law 502 = .ok (.iload 11, 2) := dk_21 11 (dk_at dksL_law_21 13 rfl rfl)
theorem dL_law_504 : decode cL_law 504 = .ok (.iadd, 1) := dk_96 (dk_at dksL_law_21 15 rfl rfl)
theorem dL_law_505 : decode cL_law 505 = .ok (.invokestatic 29, 3) := dk_184 0 29 (dk_at dksL_law_21 16 rfl rfl)
theorem dL_law_508 : decode cL_law 508 = .ok (.invokevirtual 35, 3) := dk_182 0 35 (dk_at dksL_law_21 19 rfl rfl)
theorem dL_law_511 : decode cL_law 511 = .ok (.ifCond .ne 5, 3) := dk_154 0 5 (dk_at dksL_law_22 0 rfl rfl)
theorem dL_law_514 : decode cL_law 514 = .ok (.iconst 0, 1) := dk_3 (dk_at dksL_law_22 3 rfl rfl)
theorem dL_law_515 : decode cL_law 515 = .ok (.ireturn, 1) := dk_172 (dk_at dksL_law_22 4 rfl rfl)
theorem dL_law_516 : decode cL_law 516 = .ok (.aload 9, 2) := dk_25 9 (dk_at dksL_law_22 5 rfl rfl)
theorem dL_law_518 : decode cL_law 518 = .ok (.iload 4, 2) := dk_21 4 (dk_at dksL_law_22 7 rfl rfl)
theorem dL_law_520 : decode cL_law 520 = .ok (.aload_n 0, 1) := dk_42 (dk_at dksL_law_22 9 rfl rfl)
theorem dL_law_521 : decode cL_law 521 = .ok (.bipush 37, 2) := dk_16 37 (dk_at dksL_law_22 10 rfl rfl)
theorem dL_law_523 : decode cL_law 523 = .ok (.iload 11, 2) := dk_21 11 (dk_at dksL_law_22 12 rfl rfl)
theorem dL_law_525 : decode cL_law 525 = .ok (.iadd, 1) := dk_96 (dk_at dksL_law_22 14 rfl rfl)
theorem dL_law_526 : decode cL_law 526 = .ok (.invokestatic 29, 3) := dk_184 0 29 (dk_at dksL_law_22 15 rfl rfl)
theorem dL_law_529 : decode cL_law 529 = .ok (.ldc 39, 2) := dk_18 39 (dk_at dksL_law_22 18 rfl rfl)
theorem dL_law_531 : decode cL_law 531 = .ok (.iand, 1) := dk_126 (dk_at dksL_law_22 20 rfl rfl)
theorem dL_law_532 : decode cL_law 532 = .ok (.iastore, 1) := dk_79 (dk_at dksL_law_22 21 rfl rfl)
theorem dL_law_533 : decode cL_law 533 = .ok (.iinc 4 1, 3) := dk_132 4 1 (dk_at dksL_law_23 0 rfl rfl)
theorem dL_law_536 : decode cL_law 536 = .ok (.iinc 11 1, 3) := dk_132 11 1 (dk_at dksL_law_23 3 rfl rfl)
theorem dL_law_539 : decode cL_law 539 = .ok (.goto (-50), 3) := dk_167 255 206 (dk_at dksL_law_23 6 rfl rfl)
theorem dL_law_542 : decode cL_law 542 = .ok (.aload 7, 2) := dk_25 7 (dk_at dksL_law_23 9 rfl rfl)
theorem dL_law_544 : decode cL_law 544 = .ok (.iload_n 1, 1) := dk_27 (dk_at dksL_law_23 11 rfl rfl)
theorem dL_law_545 : decode cL_law 545 = .ok (.iload_n 2, 1) := dk_28 (dk_at dksL_law_23 12 rfl rfl)
theorem dL_law_546 : decode cL_law 546 = .ok (.invokevirtual 48, 3) := dk_182 0 48 (dk_at dksL_law_23 13 rfl rfl)
theorem dL_law_549 : decode cL_law 549 = .ok (.iload 4, 2) := dk_21 4 (dk_at dksL_law_23 16 rfl rfl)
theorem dL_law_551 : decode cL_law 551 = .ok (.if_icmp .ne 47, 3) := dk_160 0 47 (dk_at dksL_law_23 18 rfl rfl)
theorem dL_law_554 : decode cL_law 554 = .ok (.aload 7, 2) := dk_25 7 (dk_at dksL_law_23 21 rfl rfl)
theorem dL_law_556 : decode cL_law 556 = .ok (.iload_n 1, 1) := dk_27 (dk_at dksL_law_23 23 rfl rfl)
theorem dL_law_557 : decode cL_law 557 = .ok (.iload_n 1, 1) := dk_27 (dk_at dksL_law_24 0 rfl rfl)
theorem dL_law_558 : decode cL_law 558 = .ok (.invokevirtual 48, 3) := dk_182 0 48 (dk_at dksL_law_24 1 rfl rfl)
theorem dL_law_561 : decode cL_law 561 = .ok (.iconst (-1), 1) := dk_2 (dk_at dksL_law_24 4 rfl rfl)
theorem dL_law_562 : decode cL_law 562 = .ok (.if_icmp .ne 36, 3) := dk_160 0 36 (dk_at dksL_law_24 5 rfl rfl)
theorem dL_law_565 : decode cL_law 565 = .ok (.aload 7, 2) := dk_25 7 (dk_at dksL_law_24 8 rfl rfl)
theorem dL_law_567 : decode cL_law 567 = .ok (.iload_n 2, 1) := dk_28 (dk_at dksL_law_24 10 rfl rfl)
theorem dL_law_568 : decode cL_law 568 = .ok (.invokevirtual 13, 3) := dk_182 0 13 (dk_at dksL_law_24 11 rfl rfl)
theorem dL_law_571 : decode cL_law 571 = .ok (.ifCond .eq 27, 3) := dk_153 0 27 (dk_at dksL_law_24 14 rfl rfl)
theorem dL_law_574 : decode cL_law 574 = .ok (.aload 7, 2) := dk_25 7 (dk_at dksL_law_24 17 rfl rfl)
theorem dL_law_576 : decode cL_law 576 = .ok (.iload_n 1, 1) := dk_27 (dk_at dksL_law_24 19 rfl rfl)
theorem dL_law_577 : decode cL_law 577 = .ok (.invokevirtual 7, 3) := dk_182 0 7 (dk_at dksL_law_24 20 rfl rfl)
theorem dL_law_580 : decode cL_law 580 = .ok (.iload 4, 2) := dk_21 4 (dk_at dksL_law_25 0 rfl rfl)
theorem dL_law_582 : decode cL_law 582 = .ok (.if_icmp .ne 16, 3) := dk_160 0 16 (dk_at dksL_law_25 2 rfl rfl)
theorem dL_law_585 : decode cL_law 585 = .ok (.aload 7, 2) := dk_25 7 (dk_at dksL_law_25 5 rfl rfl)
theorem dL_law_587 : decode cL_law 587 = .ok (.iload_n 1, 1) := dk_27 (dk_at dksL_law_25 7 rfl rfl)
theorem dL_law_588 : decode cL_law 588 = .ok (.aload 9, 2) := dk_25 9 (dk_at dksL_law_25 8 rfl rfl)
theorem dL_law_590 : decode cL_law 590 = .ok (.iload 4, 2) := dk_21 4 (dk_at dksL_law_25 10 rfl rfl)
theorem dL_law_592 : decode cL_law 592 = .ok (.invokestatic 40, 3) := dk_184 0 40 (dk_at dksL_law_25 12 rfl rfl)
theorem dL_law_595 : decode cL_law 595 = .ok (.ifCond .ne 5, 3) := dk_154 0 5 (dk_at dksL_law_25 15 rfl rfl)
theorem dL_law_598 : decode cL_law 598 = .ok (.iconst 0, 1) := dk_3 (dk_at dksL_law_25 18 rfl rfl)
theorem dL_law_599 : decode cL_law 599 = .ok (.ireturn, 1) := dk_172 (dk_at dksL_law_25 19 rfl rfl)
theorem dL_law_600 : decode cL_law 600 = .ok (.aload 5, 2) := dk_25 5 (dk_at dksL_law_25 20 rfl rfl)
theorem dL_law_602 : decode cL_law 602 = .ok (.iload_n 2, 1) := dk_28 (dk_at dksL_law_25 22 rfl rfl)
theorem dL_law_603 : decode cL_law 603 = .ok (.aload_n 0, 1) := dk_42 (dk_at dksL_law_25 23 rfl rfl)
theorem dL_law_604 : decode cL_law 604 = .ok (.bipush 7, 2) := dk_16 7 (dk_at dksL_law_26 0 rfl rfl)
theorem dL_law_606 : decode cL_law 606 = .ok (.invokestatic 29, 3) := dk_184 0 29 (dk_at dksL_law_26 2 rfl rfl)
theorem dL_law_609 : decode cL_law 609 = .ok (.invokevirtual 35, 3) := dk_182 0 35 (dk_at dksL_law_26 5 rfl rfl)
theorem dL_law_612 : decode cL_law 612 = .ok (.ifCond .eq 21, 3) := dk_153 0 21 (dk_at dksL_law_26 8 rfl rfl)
theorem dL_law_615 : decode cL_law 615 = .ok (.aload 5, 2) := dk_25 5 (dk_at dksL_law_26 11 rfl rfl)
theorem dL_law_617 : decode cL_law 617 = .ok (.iload_n 2, 1) := dk_28 (dk_at dksL_law_26 13 rfl rfl)
theorem dL_law_618 : decode cL_law 618 = .ok (.invokevirtual 17, 3) := dk_182 0 17 (dk_at dksL_law_26 14 rfl rfl)
theorem dL_law_621 : decode cL_law 621 = .ok (.aload_n 0, 1) := dk_42 (dk_at dksL_law_26 17 rfl rfl)
theorem dL_law_622 : decode cL_law 622 = .ok (.bipush 7, 2) := dk_16 7 (dk_at dksL_law_26 18 rfl rfl)
theorem dL_law_624 : decode cL_law 624 = .ok (.invokestatic 29, 3) := dk_184 0 29 (dk_at dksL_law_26 20 rfl rfl)
theorem dL_law_627 : decode cL_law 627 = .ok (.ldc 39, 2) := dk_18 39 (dk_at dksL_law_27 0 rfl rfl)
theorem dL_law_629 : decode cL_law 629 = .ok (.iand, 1) := dk_126 (dk_at dksL_law_27 2 rfl rfl)
theorem dL_law_630 : decode cL_law 630 = .ok (.if_icmp .eq 5, 3) := dk_159 0 5 (dk_at dksL_law_27 3 rfl rfl)
theorem dL_law_633 : decode cL_law 633 = .ok (.iconst 0, 1) := dk_3 (dk_at dksL_law_27 6 rfl rfl)
theorem dL_law_634 : decode cL_law 634 = .ok (.ireturn, 1) := dk_172 (dk_at dksL_law_27 7 rfl rfl)
theorem dL_law_635 : decode cL_law 635 = .ok (.aload 5, 2) := dk_25 5 (dk_at dksL_law_27 8 rfl rfl)
theorem dL_law_637 : decode cL_law 637 = .ok (.iload_n 2, 1) := dk_28 (dk_at dksL_law_27 10 rfl rfl)
theorem dL_law_638 : decode cL_law 638 = .ok (.invokevirtual 52, 3) := dk_182 0 52 (dk_at dksL_law_27 11 rfl rfl)
theorem dL_law_641 : decode cL_law 641 = .ok (.aload 5, 2) := dk_25 5 (dk_at dksL_law_27 14 rfl rfl)
theorem dL_law_643 : decode cL_law 643 = .ok (.iload_n 2, 1) := dk_28 (dk_at dksL_law_27 16 rfl rfl)
theorem dL_law_644 : decode cL_law 644 = .ok (.invokevirtual 13, 3) := dk_182 0 13 (dk_at dksL_law_27 17 rfl rfl)
theorem dL_law_647 : decode cL_law 647 = .ok (.ifCond .eq 25, 3) := dk_153 0 25 (dk_at dksL_law_27 20 rfl rfl)
theorem dL_law_650 : decode cL_law 650 = .ok (.aload 5, 2) := dk_25 5 (dk_at dksL_law_28 0 rfl rfl)
theorem dL_law_652 : decode cL_law 652 = .ok (.iload_n 1, 1) := dk_27 (dk_at dksL_law_28 2 rfl rfl)
theorem dL_law_653 : decode cL_law 653 = .ok (.invokevirtual 7, 3) := dk_182 0 7 (dk_at dksL_law_28 3 rfl rfl)
theorem dL_law_656 : decode cL_law 656 = .ok (.iload_n 3, 1) := dk_29 (dk_at dksL_law_28 6 rfl rfl)
theorem dL_law_657 : decode cL_law 657 = .ok (.if_icmp .ne 15, 3) := dk_160 0 15 (dk_at dksL_law_28 7 rfl rfl)
theorem dL_law_660 : decode cL_law 660 = .ok (.aload 5, 2) := dk_25 5 (dk_at dksL_law_28 10 rfl rfl)
theorem dL_law_662 : decode cL_law 662 = .ok (.iload_n 1, 1) := dk_27 (dk_at dksL_law_28 12 rfl rfl)
theorem dL_law_663 : decode cL_law 663 = .ok (.aload 8, 2) := dk_25 8 (dk_at dksL_law_28 13 rfl rfl)
theorem dL_law_665 : decode cL_law 665 = .ok (.iload_n 3, 1) := dk_29 (dk_at dksL_law_28 15 rfl rfl)
theorem dL_law_666 : decode cL_law 666 = .ok (.invokestatic 40, 3) := dk_184 0 40 (dk_at dksL_law_28 16 rfl rfl)
theorem dL_law_669 : decode cL_law 669 = .ok (.ifCond .ne 5, 3) := dk_154 0 5 (dk_at dksL_law_28 19 rfl rfl)
theorem dL_law_672 : decode cL_law 672 = .ok (.iconst 0, 1) := dk_3 (dk_at dksL_law_28 22 rfl rfl)
theorem dL_law_673 : decode cL_law 673 = .ok (.ireturn, 1) := dk_172 (dk_at dksL_law_28 23 rfl rfl)
theorem dL_law_674 : decode cL_law 674 = .ok (.new 8, 3) := dk_187 0 8 (dk_at dksL_law_29 0 rfl rfl)
theorem dL_law_677 : decode cL_law 677 = .ok (.dup, 1) := dk_89 (dk_at dksL_law_29 3 rfl rfl)
theorem dL_law_678 : decode cL_law 678 = .ok (.invokespecial 34, 3) := dk_183 0 34 (dk_at dksL_law_29 4 rfl rfl)
theorem dL_law_681 : decode cL_law 681 = .ok (.astore 11, 2) := dk_58 11 (dk_at dksL_law_29 7 rfl rfl)
theorem dL_law_683 : decode cL_law 683 = .ok (.iconst 0, 1) := dk_3 (dk_at dksL_law_29 9 rfl rfl)
theorem dL_law_684 : decode cL_law 684 = .ok (.istore 12, 2) := dk_54 12 (dk_at dksL_law_29 10 rfl rfl)
theorem dL_law_686 : decode cL_law 686 = .ok (.iload 12, 2) := dk_21 12 (dk_at dksL_law_29 12 rfl rfl)
theorem dL_law_688 : decode cL_law 688 = .ok (.bipush 15, 2) := dk_16 15 (dk_at dksL_law_29 14 rfl rfl)
theorem dL_law_690 : decode cL_law 690 = .ok (.if_icmp .ge 29, 3) := dk_162 0 29 (dk_at dksL_law_29 16 rfl rfl)
theorem dL_law_693 : decode cL_law 693 = .ok (.aload 11, 2) := dk_25 11 (dk_at dksL_law_29 19 rfl rfl)
theorem dL_law_695 : decode cL_law 695 = .ok (.iload 12, 2) := dk_21 12 (dk_at dksL_law_29 21 rfl rfl)
theorem dL_law_697 : decode cL_law 697 = .ok (.iload 12, 2) := dk_21 12 (dk_at dksL_law_30 0 rfl rfl)
theorem dL_law_699 : decode cL_law 699 = .ok (.iload 12, 2) := dk_21 12 (dk_at dksL_law_30 2 rfl rfl)
theorem dL_law_701 : decode cL_law 701 = .ok (.iload 12, 2) := dk_21 12 (dk_at dksL_law_30 4 rfl rfl)
theorem dL_law_703 : decode cL_law 703 = .ok (.iload 12, 2) := dk_21 12 (dk_at dksL_law_30 6 rfl rfl)
theorem dL_law_705 : decode cL_law 705 = .ok (.invokevirtual 44, 3) := dk_182 0 44 (dk_at dksL_law_30 8 rfl rfl)
theorem dL_law_708 : decode cL_law 708 = .ok (.ifCond .ne 5, 3) := dk_154 0 5 (dk_at dksL_law_30 11 rfl rfl)
theorem dL_law_711 : decode cL_law 711 = .ok (.iconst 0, 1) := dk_3 (dk_at dksL_law_30 14 rfl rfl)
theorem dL_law_712 : decode cL_law 712 = .ok (.ireturn, 1) := dk_172 (dk_at dksL_law_30 15 rfl rfl)
theorem dL_law_713 : decode cL_law 713 = .ok (.iinc 12 1, 3) := dk_132 12 1 (dk_at dksL_law_30 16 rfl rfl)
theorem dL_law_716 : decode cL_law 716 = .ok (.goto (-30), 3) := dk_167 255 226 (dk_at dksL_law_30 19 rfl rfl)
theorem dL_law_719 : decode cL_law 719 = .ok (.iconst 0, 1) := dk_3 (dk_at dksL_law_30 22 rfl rfl)
theorem dL_law_720 : decode cL_law 720 = .ok (.istore 12, 2) := dk_54 12 (dk_at dksL_law_31 0 rfl rfl)
theorem dL_law_722 : decode cL_law 722 = .ok (.iload 12, 2) := dk_21 12 (dk_at dksL_law_31 2 rfl rfl)
theorem dL_law_724 : decode cL_law 724 = .ok (.iconst 4, 1) := dk_7 (dk_at dksL_law_31 4 rfl rfl)
theorem dL_law_725 : decode cL_law 725 = .ok (.if_icmp .ge 49, 3) := dk_162 0 49 (dk_at dksL_law_31 5 rfl rfl)
theorem dL_law_728 : decode cL_law 728 = .ok (.iload 12, 2) := dk_21 12 (dk_at dksL_law_31 8 rfl rfl)
theorem dL_law_730 : decode cL_law 730 = .ok (.iconst 1, 1) := dk_4 (dk_at dksL_law_31 10 rfl rfl)
theorem dL_law_731 : decode cL_law 731 = .ok (.if_icmp .lt 16, 3) := dk_161 0 16 (dk_at dksL_law_31 11 rfl rfl)
theorem dL_law_734 : decode cL_law 734 = .ok (.aload 11, 2) := dk_25 11 (dk_at dksL_law_31 14 rfl rfl)
theorem dL_law_736 : decode cL_law 736 = .ok (.iconst 0, 1) := dk_3 (dk_at dksL_law_31 16 rfl rfl)
theorem dL_law_737 : decode cL_law 737 = .ok (.iconst 1, 1) := dk_4 (dk_at dksL_law_31 17 rfl rfl)
theorem dL_law_738 : decode cL_law 738 = .ok (.iconst 2, 1) := dk_5 (dk_at dksL_law_31 18 rfl rfl)
theorem dL_law_739 : decode cL_law 739 = .ok (.iconst 3, 1) := dk_6 (dk_at dksL_law_31 19 rfl rfl)
theorem dL_law_740 : decode cL_law 740 = .ok (.iconst 4, 1) := dk_7 (dk_at dksL_law_31 20 rfl rfl)
theorem dL_law_741 : decode cL_law 741 = .ok (.invokevirtual 44, 3) := dk_182 0 44 (dk_at dksL_law_31 21 rfl rfl)
theorem dL_law_744 : decode cL_law 744 = .ok (.ifCond .ne 22, 3) := dk_154 0 22 (dk_at dksL_law_32 0 rfl rfl)
theorem dL_law_747 : decode cL_law 747 = .ok (.aload 11, 2) := dk_25 11 (dk_at dksL_law_32 3 rfl rfl)
theorem dL_law_749 : decode cL_law 749 = .ok (.aload_n 0, 1) := dk_42 (dk_at dksL_law_32 5 rfl rfl)
theorem dL_law_750 : decode cL_law 750 = .ok (.bipush 49, 2) := dk_16 49 (dk_at dksL_law_32 6 rfl rfl)
theorem dL_law_752 : decode cL_law 752 = .ok (.iload 12, 2) := dk_21 12 (dk_at dksL_law_32 8 rfl rfl)
theorem dL_law_754 : decode cL_law 754 = .ok (.iadd, 1) := dk_96 (dk_at dksL_law_32 10 rfl rfl)
theorem dL_law_755 : decode cL_law 755 = .ok (.invokestatic 29, 3) := dk_184 0 29 (dk_at dksL_law_32 11 rfl rfl)
theorem dL_law_758 : decode cL_law 758 = .ok (.iload 12, 2) := dk_21 12 (dk_at dksL_law_32 14 rfl rfl)
theorem dL_law_760 : decode cL_law 760 = .ok (.invokevirtual 35, 3) := dk_182 0 35 (dk_at dksL_law_32 16 rfl rfl)
theorem dL_law_763 : decode cL_law 763 = .ok (.ifCond .ne 5, 3) := dk_154 0 5 (dk_at dksL_law_32 19 rfl rfl)
theorem dL_law_766 : decode cL_law 766 = .ok (.iconst 0, 1) := dk_3 (dk_at dksL_law_32 22 rfl rfl)
theorem dL_law_767 : decode cL_law 767 = .ok (.ireturn, 1) := dk_172 (dk_at dksL_law_32 23 rfl rfl)
theorem dL_law_768 : decode cL_law 768 = .ok (.iinc 12 1, 3) := dk_132 12 1 (dk_at dksL_law_33 0 rfl rfl)
theorem dL_law_771 : decode cL_law 771 = .ok (.goto (-49), 3) := dk_167 255 207 (dk_at dksL_law_33 3 rfl rfl)
theorem dL_law_774 : decode cL_law 774 = .ok (.aload 11, 2) := dk_25 11 (dk_at dksL_law_33 6 rfl rfl)
theorem dL_law_776 : decode cL_law 776 = .ok (.aload_n 0, 1) := dk_42 (dk_at dksL_law_33 8 rfl rfl)
theorem dL_law_777 : decode cL_law 777 = .ok (.bipush 53, 2) := dk_16 53 (dk_at dksL_law_33 9 rfl rfl)
theorem dL_law_779 : decode cL_law 779 = .ok (.invokestatic 29, 3) := dk_184 0 29 (dk_at dksL_law_33 11 rfl rfl)
theorem dL_law_782 : decode cL_law 782 = .ok (.iconst 1, 1) := dk_4 (dk_at dksL_law_33 14 rfl rfl)
theorem dL_law_783 : decode cL_law 783 = .ok (.invokevirtual 35, 3) := dk_182 0 35 (dk_at dksL_law_33 15 rfl rfl)
theorem dL_law_786 : decode cL_law 786 = .ok (.ifCond .ne 25, 3) := dk_154 0 25 (dk_at dksL_law_33 18 rfl rfl)
theorem dL_law_789 : decode cL_law 789 = .ok (.aload 11, 2) := dk_25 11 (dk_at dksL_law_33 21 rfl rfl)
theorem dL_law_791 : decode cL_law 791 = .ok (.aload_n 0, 1) := dk_42 (dk_at dksL_law_33 23 rfl rfl)
theorem dL_law_792 : decode cL_law 792 = .ok (.bipush 54, 2) := dk_16 54 (dk_at dksL_law_34 0 rfl rfl)
theorem dL_law_794 : decode cL_law 794 = .ok (.invokestatic 29, 3) := dk_184 0 29 (dk_at dksL_law_34 2 rfl rfl)
theorem dL_law_797 : decode cL_law 797 = .ok (.iconst 1, 1) := dk_4 (dk_at dksL_law_34 5 rfl rfl)
theorem dL_law_798 : decode cL_law 798 = .ok (.iconst 2, 1) := dk_5 (dk_at dksL_law_34 6 rfl rfl)
theorem dL_law_799 : decode cL_law 799 = .ok (.iconst 3, 1) := dk_6 (dk_at dksL_law_34 7 rfl rfl)
theorem dL_law_800 : decode cL_law 800 = .ok (.iconst 4, 1) := dk_7 (dk_at dksL_law_34 8 rfl rfl)
theorem dL_law_801 : decode cL_law 801 = .ok (.invokevirtual 44, 3) := dk_182 0 44 (dk_at dksL_law_34 9 rfl rfl)
theorem dL_law_804 : decode cL_law 804 = .ok (.ifCond .ne 7, 3) := dk_154 0 7 (dk_at dksL_law_34 12 rfl rfl)
theorem dL_law_807 : decode cL_law 807 = .ok (.iconst 1, 1) := dk_4 (dk_at dksL_law_34 15 rfl rfl)
theorem dL_law_808 : decode cL_law 808 = .ok (.goto 4, 3) := dk_167 0 4 (dk_at dksL_law_34 16 rfl rfl)
theorem dL_law_811 : decode cL_law 811 = .ok (.iconst 0, 1) := dk_3 (dk_at dksL_law_34 19 rfl rfl)
theorem dL_law_812 : decode cL_law 812 = .ok (.ireturn, 1) := dk_172 (dk_at dksL_law_34 20 rfl rfl)
end
section
/-! PURE: heaps in arrays from place 1 on, as functions of their places -/
set_option maxRecDepth 100000
def hq_seg {α : Type} (f : Nat → α) (n : Nat) : List α := (List.range n).map (fun i => f (i + 1))
theorem hq_seg_len {α : Type} (f : Nat → α) (n : Nat) : (hq_seg f n).length = n := by simp [hq_seg]
theorem hq_seg_get {α : Type} (f : Nat → α) {n i : Nat} (h : i < n) : (hq_seg f n)[i]? = some (f (i + 1)) := by simp [hq_seg, h]
theorem hq_seg_succ {α : Type} (f : Nat → α) (n : Nat) : hq_seg f (n + 1) = hq_seg f n ++ [f (n + 1)] := by simp [hq_seg, List.range_succ]
theorem hq_seg_congr {α : Type} {f g : Nat → α} {n : Nat} (h : ∀ i, 1 ≤ i → i ≤ n → f i = g i) : hq_seg f n = hq_seg g n := by
  apply List.map_congr_left
  intro i hi
  have := List.mem_range.mp hi
  exact h _ (by omega) (by omega)
theorem hq_mem {α : Type} {f : Nat → α} {n : Nat} {x : α} : x ∈ hq_seg f n ↔ ∃ i, 1 ≤ i ∧ i ≤ n ∧ f i = x := by
  constructor
  · intro h
    obtain ⟨i, hi, e⟩ := List.mem_map.mp h
    have := List.mem_range.mp hi
    exact ⟨i + 1, by omega, by omega, e⟩
  · rintro ⟨i, h1, h2, e⟩
    exact List.mem_map.mpr ⟨i - 1, List.mem_range.mpr (by omega), by rw [show i - 1 + 1 = i by omega]; exact e⟩
theorem hq_swap {α : Type} {f g : Nat → α} {j k n : Nat} (hj : 1 ≤ j) (hjn : j ≤ n) (hk : 1 ≤ k) (hkn : k ≤ n) (hne : j ≠ k) (h1 : g j = f k) (h2 : g k = f j) (h3 : ∀ i, i ≠ j → i ≠ k → g i = f i) : (hq_seg g n).Perm (hq_seg f n) := by
  have lj : j - 1 < (hq_seg f n).length := by rw [hq_seg_len]; omega
  have lk : k - 1 < (hq_seg f n).length := by rw [hq_seg_len]; omega
  have ej : (hq_seg f n)[j - 1] = f j := by
    have h := hq_seg_get f (n := n) (i := j - 1) (by omega)
    rw [List.getElem?_eq_getElem lj, show j - 1 + 1 = j by omega] at h
    exact Option.some.inj h
  have ek : (hq_seg f n)[k - 1] = f k := by
    have h := hq_seg_get f (n := n) (i := k - 1) (by omega)
    rw [List.getElem?_eq_getElem lk, show k - 1 + 1 = k by omega] at h
    exact Option.some.inj h
  have e : hq_seg g n = ((hq_seg f n).set (j - 1) (f k)).set (k - 1) (f j) := by
    apply List.ext_getElem?
    intro i
    by_cases hi : i < n
    · rw [hq_seg_get g hi]
      by_cases a : i = k - 1
      · subst a
        rw [List.getElem?_set_self (by rw [List.length_set]; exact lk), show k - 1 + 1 = k by omega, h2]
      · rw [List.getElem?_set_ne (fun q => a q.symm)]
        by_cases b : i = j - 1
        · subst b
          rw [List.getElem?_set_self lj, show j - 1 + 1 = j by omega, h1]
        · rw [List.getElem?_set_ne (fun q => b q.symm), hq_seg_get f hi, h3 (i + 1) (by omega) (by omega)]
    · rw [List.getElem?_eq_none (by rw [hq_seg_len]; omega), List.getElem?_eq_none (by simp only [List.length_set, hq_seg_len]; omega)]
  rw [e]
  have p := List.set_set_perm lj lk
  rw [ej, ek] at p
  exact p
/-- a heap from k0 on, by weights -/
def hq_hp {α : Type} (w : α → Int) (k0 : Nat) (f : Nat → α) (n : Nat) : Prop := ∀ i, 2 ≤ i → i ≤ n → k0 ≤ i / 2 → w (f (i / 2)) ≤ w (f i)
theorem hq_min {α : Type} {w : α → Int} {f : Nat → α} {n : Nat} (h : hq_hp w 1 f n) : ∀ i, 1 ≤ i → i ≤ n → w (f 1) ≤ w (f i) := by
  intro i
  induction i using Nat.strongRecOn with
  | _ i ih =>
    intro h1 h2
    by_cases e : i = 1
    · subst e; exact Int.le_refl _
    · exact Int.le_trans (ih (i / 2) (by omega) (by omega) (by omega)) (h i (by omega) h2 (by omega))
theorem hq_hp_congr {α : Type} {w : α → Int} {k0 : Nat} {f g : Nat → α} {n : Nat} (h : hq_hp w k0 f n) (e : ∀ i, 1 ≤ i → i ≤ n → g i = f i) : hq_hp w k0 g n := by
  intro i h1 h2 h3
  rw [e i (by omega) h2, e (i / 2) (by omega) (by omega)]
  exact h i h1 h2 h3
theorem hq_hp_less {α : Type} {w : α → Int} {k0 : Nat} {f : Nat → α} {n m : Nat} (h : hq_hp w k0 f n) (hm : m ≤ n) : hq_hp w k0 f m := fun i h1 h2 h3 => h i h1 (by omega) h3
theorem hq_hp_none {α : Type} {w : α → Int} {k0 : Nat} {f : Nat → α} {n : Nat} (h : n < 2 * k0) : hq_hp w k0 f n := fun i _ h2 h3 => absurd h3 (by omega)
/-- moving up: all is in order but for the place j -/
def hq_up {α : Type} (w : α → Int) (f : Nat → α) (j n : Nat) : Prop := (∀ i, 2 ≤ i → i ≤ n → i ≠ j → w (f (i / 2)) ≤ w (f i)) ∧ ∀ i, 2 ≤ i → i ≤ n → i / 2 = j → 2 ≤ j → w (f (j / 2)) ≤ w (f i)
theorem hq_up_start {α : Type} {w : α → Int} {f g : Nat → α} {n : Nat} (h : hq_hp w 1 f n) (e : ∀ i, 1 ≤ i → i ≤ n → g i = f i) : hq_up w g (n + 1) (n + 1) := by
  refine ⟨fun i h1 h2 h3 => ?_, fun i h1 h2 h3 h4 => absurd h3 (by omega)⟩
  rw [e i (by omega) (by omega), e (i / 2) (by omega) (by omega)]
  exact h i h1 (by omega) (by omega)
theorem hq_up_step {α : Type} {w : α → Int} {f g : Nat → α} {j n : Nat} (h : hq_up w f j n) (hj : 2 ≤ j) (hn : j ≤ n) (hw : w (f j) ≤ w (f (j / 2))) (h1 : g j = f (j / 2)) (h2 : g (j / 2) = f j) (h3 : ∀ i, i ≠ j → i ≠ j / 2 → g i = f i) : hq_up w g (j / 2) n := by
  refine ⟨fun i a1 a2 a3 => ?_, fun i a1 a2 a3 a4 => ?_⟩
  · by_cases b : i = j
    · subst b
      rw [h1, h2]
      exact hw
    · rw [h3 i b a3]
      by_cases c : i / 2 = j
      · rw [c, h1]
        exact h.2 i a1 a2 c hj
      · by_cases d : i / 2 = j / 2
        · rw [d, h2]
          have := h.1 i a1 a2 b
          rw [d] at this
          omega
        · rw [h3 _ c d]
          exact h.1 i a1 a2 b
  · rw [h3 (j / 2 / 2) (by omega) (by omega)]
    by_cases b : i = j
    · subst b
      rw [h1]
      exact h.1 (i / 2) (by omega) (by omega) (by omega)
    · rw [h3 i b (by omega)]
      have q1 := h.1 (j / 2) (by omega) (by omega) (by omega)
      have q2 := h.1 i a1 a2 b
      rw [a3] at q2
      omega
theorem hq_up_end {α : Type} {w : α → Int} {f : Nat → α} {j n : Nat} (h : hq_up w f j n) (e : j ≤ 1 ∨ w (f (j / 2)) ≤ w (f j)) : hq_hp w 1 f n := by
  intro i a1 a2 _
  by_cases b : i = j
  · subst b
    rcases e with e | e
    · omega
    · exact e
  · exact h.1 i a1 a2 b
/-- moving down from k0: all from k0 on is in order but for the place j -/
def hq_dn {α : Type} (w : α → Int) (k0 : Nat) (f : Nat → α) (j n : Nat) : Prop := (∀ i, 2 ≤ i → i ≤ n → k0 ≤ i / 2 → i / 2 ≠ j → w (f (i / 2)) ≤ w (f i)) ∧ ∀ i, 2 ≤ i → i ≤ n → i / 2 = j → k0 ≤ j / 2 → 2 ≤ j → w (f (j / 2)) ≤ w (f i)
theorem hq_dn_start {α : Type} {w : α → Int} {f : Nat → α} {k0 n : Nat} (hk : 1 ≤ k0) (h : hq_hp w (k0 + 1) f n) : hq_dn w k0 f k0 n :=
  ⟨fun i h1 h2 h3 h4 => h i h1 h2 (by omega), fun i h1 h2 h3 h4 h5 => absurd h4 (by omega)⟩
theorem hq_dn_step {α : Type} {w : α → Int} {f g : Nat → α} {k0 j c n : Nat} (h : hq_dn w k0 f j n) (hk : k0 ≤ j) (h0 : 1 ≤ j) (hc : c / 2 = j) (hn : c ≤ n) (hm : ∀ i, 2 ≤ i → i ≤ n → i / 2 = j → w (f c) ≤ w (f i)) (hw : w (f c) ≤ w (f j)) (h1 : g j = f c) (h2 : g c = f j) (h3 : ∀ i, i ≠ j → i ≠ c → g i = f i) : hq_dn w k0 g c n := by
  refine ⟨fun i a1 a2 a3 a4 => ?_, fun i a1 a2 a3 a4 a5 => ?_⟩
  · by_cases b : i / 2 = j
    · rw [b, h1]
      by_cases d : i = c
      · subst d
        rw [h2]
        exact hw
      · rw [h3 i (by omega) d]
        exact hm i a1 a2 b
    · rw [h3 (i / 2) b a4]
      by_cases d : i = j
      · subst d
        rw [h1]
        exact h.2 c (by omega) hn hc a3 a1
      · rw [h3 i d (by omega)]
        exact h.1 i a1 a2 a3 b
  · rw [hc, h1, h3 i (by omega) (by omega)]
    have q := h.1 i a1 a2 (by omega) (by omega)
    rw [a3] at q
    exact q
theorem hq_dn_end {α : Type} {w : α → Int} {f : Nat → α} {k0 j n : Nat} (h : hq_dn w k0 f j n) (e : n < 2 * j ∨ ∀ i, 2 ≤ i → i ≤ n → i / 2 = j → w (f j) ≤ w (f i)) : hq_hp w k0 f n := by
  intro i a1 a2 a3
  by_cases b : i / 2 = j
  · rcases e with e | e
    · omega
    · rw [b]
      exact e i a1 a2 b
  · exact h.1 i a1 a2 a3 b
/-! weights of ints: d says 'the greatest first' -/
def wt_ (d : Bool) (v : Int32) : Int := if d = true then -v.toInt else v.toInt
theorem wt_inj {d : Bool} {a b : Int32} (h : wt_ d a = wt_ d b) : a = b := by
  apply Int32.toInt_inj.mp
  cases d <;> simp [wt_] at h <;> omega
/-- sorted, the foremost first -/
def so_ (d : Bool) (l : List Int32) : Prop := l.Pairwise (fun a b => wt_ d a ≤ wt_ d b)
theorem so_uniq {d : Bool} {l m : List Int32} (hl : so_ d l) (hm : so_ d m) (p : l.Perm m) : l = m :=
  List.Perm.eq_of_pairwise (fun a b _ _ h1 h2 => wt_inj (Int.le_antisymm h1 h2)) hl hm p
theorem so_nil {d : Bool} : so_ d [] := List.Pairwise.nil
theorem so_tail {d : Bool} {a : Int32} {l : List Int32} (h : so_ d (a :: l)) : so_ d l := (List.pairwise_cons.mp h).2
theorem so_head {d : Bool} {a b : Int32} {l : List Int32} (h : so_ d (a :: l)) (hb : b ∈ a :: l) : wt_ d a ≤ wt_ d b := by
  rcases List.mem_cons.mp hb with e | e
  · rw [e]; exact Int.le_refl _
  · exact (List.pairwise_cons.mp h).1 b e
theorem so_drop {d : Bool} {l : List Int32} (k : Nat) (h : so_ d l) : so_ d (l.drop k) := List.Pairwise.sublist (List.drop_sublist k l) h
/-- any list can be put in order -/
theorem so_of (d : Bool) (l : List Int32) : ∃ m, so_ d m ∧ m.Perm l := by
  refine ⟨l.mergeSort (fun a b => decide (wt_ d a ≤ wt_ d b)), ?_, List.mergeSort_perm _ _⟩
  have h := List.pairwise_mergeSort (le := fun a b : Int32 => decide (wt_ d a ≤ wt_ d b)) (fun a b c h1 h2 => by simp only [decide_eq_true_eq] at h1 h2 ⊢; omega) (fun a b => by simp only [Bool.or_eq_true, decide_eq_true_eq]; omega) l
  exact h.imp (fun h => of_decide_eq_true h)
/-- the foremost of a sorted list's keys -/
theorem so_min {d : Bool} {l m : List Int32} {a : Int32} (hl : so_ d (a :: l)) (p : (a :: l).Perm m) {b : Int32} (hb : b ∈ m) (hm : ∀ c ∈ m, wt_ d b ≤ wt_ d c) : b = a := by
  apply wt_inj (d := d)
  exact Int.le_antisymm (hm a (p.mem_iff.mp List.mem_cons_self)) (so_head hl (p.mem_iff.mpr hb))
end
section
/-! THE WORLDS OF THIS CLAIM: classes, the launch's constants, boxes, what is carried along every call -/
set_option maxRecDepth 100000
abbrev clz : List vw_C := [(RX4, TX4, 4), (RX1, TX1, 2), (RJ7, TJ7, 1)]
abbrev gT : Type := va_G × ClassId × ClassId × ClassId × ClassId × ClassId × Nat × (Nat → Nat) × Nat
/-- Object[], BinaryArrayHeap[], Integer[], int[], boolean[]; the cache's array, its boxes; DOWN -/
def gO (G : gT) : ClassId := G.2.1
def gF (G : gT) : ClassId := G.2.2.1
def gJ (G : gT) : ClassId := G.2.2.2.1
def gI (G : gT) : ClassId := G.2.2.2.2.1
def gZ (G : gT) : ClassId := G.2.2.2.2.2.1
def gC (G : gT) : Nat := G.2.2.2.2.2.2.1
def gA (G : gT) : Nat → Nat := G.2.2.2.2.2.2.2.1
def gW (G : gT) : Nat := G.2.2.2.2.2.2.2.2
abbrev tyz (G : gT) : List (ClassId × FieldType) := [(gO G, .object "java/lang/Object"), (gF G, .object "BinaryArrayHeap"), (gJ G, .object "java/lang/Integer"), (gI G, .int), (gZ G, .boolean)]
def yCmp : MethodName := ⟨"java/util/Comparator", "compare", "(Ljava/lang/Object;Ljava/lang/Object;)I"⟩
def decls : List MethodName := [⟨"AbstractArrayWeakHeap", "initCapacity", "(I)V"⟩, ⟨"AbstractArrayWeakHeap", "ensureCapacity", "(I)V"⟩, ⟨"AbstractArrayWeakHeap", "fixup", "(I)V"⟩, ⟨"AbstractArrayWeakHeap", "fixupWithComparator", "(I)V"⟩, ⟨"AbstractArrayWeakHeap", "fixdown", "(I)V"⟩, ⟨"AbstractArrayWeakHeap", "fixdownWithComparator", "(I)V"⟩]
/-- what the tables say and no list of words carries -/
def EnvT (U : State) : Prop := (va_AO "java/lang/Object" U ∧ va_AO "BinaryArrayHeap" U ∧ va_AO "java/lang/Integer" U) ∧ (va_Nw (.castable "java/lang/Integer" "java/lang/Comparable") U ∧ va_Nw (.castable "java/lang/Integer" "java/lang/Object") U) ∧ (∀ x ∈ decls, va_Nw (.declares x) U) ∧ va_Fw RX5 yCmp yX5_compare U
/-- the cells that nobody writes: the cache of small Integers, DOWN -/
def EnvH (G : gT) (A : Nat → Prop) (U : State) (H : Heap) : Prop := va_Z "java/lang/Integer$IntegerCache" "high" "I" (.int 127) A U H ∧ va_Z "java/lang/Integer$IntegerCache" "cache" "[Ljava/lang/Integer;" (.ref (gC G)) A U H ∧ va_T (.object "java/lang/Integer") (gC G) 256 (fun k => .ref (gA G k)) A U H ∧ vb_C (gA G) A U H ∧ va_Z RX1 "DOWN" "LBinaryArrayHeapDesk$Down;" (.ref (gW G)) A U H ∧ va_O RX5 (gW G) A U H
def Env_ (G : gT) (A : Nat → Prop) (U : State) (H : Heap) : Prop := va_K G.1 clz (tyz G) U ∧ EnvT U ∧ EnvH G A U H
theorem nw_castable {C T : String} {u U : State} (hvm : u.vm.Alike U.vm) (h : va_Nw (.castable C T) u) : va_Nw (.castable C T) U := va_tabs rfl (rfl : (u.setVm U.vm).vm = U.vm) (by rw [Cond.castable_setVm hvm]; exact h)
theorem nw_declares {x : MethodName} {u U : State} (hvm : u.vm.Alike U.vm) (h : va_Nw (.declares x) u) : va_Nw (.declares x) U := va_tabs rfl (rfl : (u.setVm U.vm).vm = U.vm) (by rw [Cond.declares_setVm hvm]; exact h)
theorem EnvT.moved {u U : State} (hvm : u.vm.Alike U.vm) (h : EnvT u) : EnvT U :=
  ⟨⟨h.1.1.moved hvm, h.1.2.1.moved hvm, h.1.2.2.moved hvm⟩, ⟨nw_castable hvm h.2.1.1, nw_castable hvm h.2.1.2⟩, fun x hx => nw_declares hvm (h.2.2.1 x hx), h.2.2.2.moved (by decide +kernel) hvm⟩
theorem EnvH.moved {G : gT} {A : Nat → Prop} {u U : State} {H : Heap} (hvm : u.vm.Alike U.vm) (h : EnvH G A u H) : EnvH G A U H := by
  obtain ⟨h1, h2, h3, h4, h5, h6⟩ := h
  exact ⟨h1.moved hvm, h2.moved hvm, h3.moved hvm, h4.moved hvm, h5.moved hvm, h6.moved hvm⟩
theorem EnvH.kept {G : gT} {A : Nat → Prop} {U : State} {H H1 : Heap} (h : EnvH G A U H) (hq : ∀ a : Nat, a < H.size → ¬ A a → H1[a]? = H[a]?) : EnvH G A U H1 := by
  obtain ⟨h1, h2, h3, h4, h5, h6⟩ := h
  exact ⟨h1.kept hq, h2.kept hq, h3.kept hq, h4.kept hq, h5.kept hq, h6.kept hq⟩
theorem EnvH.narrow {G : gT} {A B : Nat → Prop} {U : State} {H : Heap} (h : EnvH G A U H) (hAB : ∀ q, B q → A q) : EnvH G B U H := by
  obtain ⟨h1, h2, h3, h4, h5, h6⟩ := h
  exact ⟨h1.narrow hAB, h2.narrow hAB, h3.narrow hAB, h4.narrow hAB, h5.narrow hAB, h6.narrow hAB⟩
theorem Env_.moved {G : gT} {A : Nat → Prop} {u U : State} {H : Heap} (hvm : u.vm.Alike U.vm) (h : Env_ G A u H) : Env_ G A U H := ⟨va_K.moved hvm h.1, h.2.1.moved hvm, h.2.2.moved hvm⟩
theorem Env_.kept {G : gT} {A : Nat → Prop} {U : State} {H H1 : Heap} (h : Env_ G A U H) (hq : ∀ a : Nat, a < H.size → ¬ A a → H1[a]? = H[a]?) : Env_ G A U H1 := ⟨h.1, h.2.1, h.2.2.kept hq⟩
theorem Env_.narrow {G : gT} {A B : Nat → Prop} {U : State} {H : Heap} (h : Env_ G A U H) (hAB : ∀ q, B q → A q) : Env_ G B U H := ⟨h.1, h.2.1, h.2.2.narrow hAB⟩
theorem Env_.dc {G : gT} {A : Nat → Prop} {U : State} {H : Heap} (h : Env_ G A U H) (i : Nat) {x : MethodName} (hi : decls[i]? = some x) : va_Nw (.declares x) U := h.2.1.2.2.1 x (List.mem_of_getElem? hi)
/-! boxes -/
def bx (A : Nat → Prop) (U : State) (H : Heap) (y : Nat) (v : Int32) : Prop := va_O "java/lang/Integer" y A U H ∧ va_OF "java/lang/Integer" "value" "I" (.int v) y A U H
abbrev bx0 (U : State) (H : Heap) (y : Nat) (v : Int32) : Prop := bx (fun _ => False) U H y v
theorem bx.moved {A : Nat → Prop} {u U : State} {H : Heap} {y : Nat} {v : Int32} (hvm : u.vm.Alike U.vm) (h : bx A u H y v) : bx A U H y v := ⟨h.1.moved hvm, h.2.moved hvm⟩
theorem bx.kept {A : Nat → Prop} {U : State} {H H1 : Heap} {y : Nat} {v : Int32} (h : bx A U H y v) (hq : ∀ a : Nat, a < H.size → ¬ A a → H1[a]? = H[a]?) : bx A U H1 y v := ⟨h.1.kept hq, h.2.kept hq⟩
theorem bx.narrow {A B : Nat → Prop} {U : State} {H : Heap} {y : Nat} {v : Int32} (h : bx A U H y v) (hAB : ∀ q, B q → A q) : bx B U H y v := ⟨h.1.narrow hAB, h.2.narrow hAB⟩
theorem bx.zero {A : Nat → Prop} {U : State} {H : Heap} {y : Nat} {v : Int32} (h : bx A U H y v) : bx0 U H y v := h.narrow (fun _ z => False.elim z)
theorem bx.lt {A : Nat → Prop} {U : State} {H : Heap} {y : Nat} {v : Int32} (h : bx A U H y v) : y < H.size := by
  obtain ⟨cell, h1, -⟩ := h.1
  exact (Array.getElem?_eq_some_iff.mp h1).1
theorem bx.out {A B : Nat → Prop} {U : State} {H : Heap} {y : Nat} {v : Int32} (h : bx A U H y v) (hB : ¬ B y) : bx B U H y v := by
  obtain ⟨⟨cell, h1, h2, h3, -⟩, cf, k, i, f, cell', g1, g2, g3, g4, g5, -⟩ := h
  exact ⟨⟨cell, h1, h2, h3, hB⟩, cf, k, i, f, cell', g1, g2, g3, g4, g5, hB⟩
theorem bx.recv {A : Nat → Prop} {U : State} {H : Heap} {y : Nat} {v : Int32} (h : bx A U H y v) : ∃ cell : Cell, H[y]? = some cell ∧ cell.vm.isStatics = false ∧ U.vm.findClass "java/lang/Integer" = some cell.cls := by
  obtain ⟨cell, h1, h2, h3, -⟩ := h.1
  exact ⟨cell, h1, h2, h3⟩
theorem bx.now {A : Nat → Prop} {s : State} {H : Heap} {locs : List Loc} {y : Nat} {v : Int32} (h : bx A s s.heap y v) (hS : va_S A s.heap H locs) : bx0 s H y v := (h.kept hS.2.1).zero
theorem bx.uniq {A B : Nat → Prop} {U : State} {H : Heap} {y : Nat} {v w : Int32} (h : bx A U H y v) (h2 : bx B U H y w) : v = w := by
  obtain ⟨-, cf, k, i, f, cell, a1, a2, a3, a4, a5, -⟩ := h
  obtain ⟨-, cf', k', i', f', cell', b1, b2, b3, b4, b5, -⟩ := h2
  rw [a1] at b1
  cases b1
  rw [a3] at b3
  cases b3
  rw [a5] at b5
  cases b5
  rfl
/-- an Integer that lies in the world -/
theorem bx_cell {G : gT} {s : State} {args : Array Value} {H : Heap} {ws : va_W} {y : Nat} {v : Int32} (hts : ∀ w ∈ lw_all, w.before args s = true) (hK : va_K G.1 clz (tyz G) s) (hP : va_P G.1 clz ws H) (h : (y, (.inr (2, [.int v]) : va_E)) ∈ ws) : bx0 s H y v := by
  obtain ⟨k, hk⟩ := List.getElem?_of_mem h
  obtain ⟨r, h1, cell, g1, g2, g3, g4⟩ := hP k _ hk
  obtain ⟨hS, hfc, kC, hkC, hkind⟩ := hK.1 2 (RJ7, TJ7, 1) rfl
  have hr : r = (RJ7, TJ7, 1) := Option.some.inj (h1.symm.trans (show clz[2]? = some (RJ7, TJ7, 1) from rfl))
  subst hr
  obtain ⟨cf, kf, fi, f, hi, hsl⟩ := hS 0 (by decide)
  have hst := (u_facts hfc hkC (u_lays hts in_J7 (k := 0) (by decide)) hi).1
  have hs0 : cell.slots[f.slot]? = some (.int v) := by
    rw [hsl, g4 0 (by decide)]
    rfl
  have hu : cell.vm ≠ .unknown := by
    rw [g3]
    intro z
    cases z
  exact ⟨⟨cell, g1, by rw [g3]; rfl, by rw [g2]; exact hfc, fun z => False.elim z⟩, cf, kf, fi, f, cell, hi, hst, g1, hu, hs0, fun z => False.elim z⟩
def isbox (G : gT) (nw : va_W) (y : Nat) (v : Int32) : Prop := (y, (.inr (2, [.int v]) : va_E)) ∈ nw ∨ ∃ k, k < 256 ∧ y = gA G k ∧ v = vb_c k
theorem isbox.mono {G : gT} {nw nw' : va_W} {y : Nat} {v : Int32} (h : isbox G nw y v) (hs : ∀ q ∈ nw, q ∈ nw') : isbox G nw' y v := by
  rcases h with h | h
  · exact Or.inl (hs _ h)
  · exact Or.inr h
theorem isbox.now {G : gT} {s : State} {args : Array Value} {A : Nat → Prop} {H : Heap} {ws : va_W} {y : Nat} {v : Int32} (h : isbox G ws y v) (hts : ∀ w ∈ lw_all, w.before args s = true) (hE : Env_ G A s H) (hP : va_P G.1 clz ws H) : bx0 s H y v := by
  rcases h with h | ⟨k, hk, rfl, rfl⟩
  · exact bx_cell hts hE.1 hP h
  · have h1 : vb_C (gA G) A s H := hE.2.2.2.2.2.1
    exact bx.zero (A := A) ⟨h1.1 k hk, h1.2 k hk⟩
/-! worlds by membership; worlds in another order -/
theorem wP_iff {D : va_G} {cl : List vw_C} {ws : va_W} {H : Heap} : va_P D cl ws H ↔ ∀ q ∈ ws, va_at D cl q H :=
  ⟨fun h q hq => by obtain ⟨k, hk⟩ := List.getElem?_of_mem hq; exact h k q hk, fun h k q hk => h q (List.mem_of_getElem? hk)⟩
theorem wD_iff {A : Nat → Prop} {ws : va_W} : va_D A ws ↔ (ws.map Prod.fst).Nodup ∧ ∀ q ∈ ws, A q.1 := by
  constructor
  · rintro ⟨h1, h2⟩
    refine ⟨?_, fun q hq => by obtain ⟨k, hk⟩ := List.getElem?_of_mem hq; exact h2 k q hk⟩
    rw [List.nodup_iff_pairwise_ne, List.pairwise_iff_getElem]
    intro i j hi hj hij e
    rw [List.length_map] at hi hj
    rw [List.getElem_map, List.getElem_map] at e
    have := h1 i j ws[i] ws[j] (List.getElem?_eq_getElem hi) (List.getElem?_eq_getElem hj) e
    omega
  · rintro ⟨h1, h2⟩
    refine ⟨fun i j p q hi hj e => ?_, fun k q hk => h2 q (List.mem_of_getElem? hk)⟩
    rw [List.nodup_iff_pairwise_ne, List.pairwise_iff_getElem] at h1
    obtain ⟨li, ei⟩ := List.getElem?_eq_some_iff.mp hi
    obtain ⟨lj, ej⟩ := List.getElem?_eq_some_iff.mp hj
    rcases Nat.lt_trichotomy i j with h | h | h
    · exact absurd (by rw [List.getElem_map, List.getElem_map, ei, ej]; exact e) (h1 i j (by rw [List.length_map]; exact li) (by rw [List.length_map]; exact lj) h)
    · exact h
    · exact absurd (by rw [List.getElem_map, List.getElem_map, ei, ej]; exact e.symm) (h1 j i (by rw [List.length_map]; exact lj) (by rw [List.length_map]; exact li) h)
theorem wP_perm {D : va_G} {cl : List vw_C} {ws ws' : va_W} {H : Heap} (h : va_P D cl ws H) (p : ws.Perm ws') : va_P D cl ws' H := wP_iff.mpr fun q hq => wP_iff.mp h q (p.mem_iff.mpr hq)
theorem wD_perm {A : Nat → Prop} {ws ws' : va_W} (h : va_D A ws) (p : ws.Perm ws') : va_D A ws' := by
  have h := wD_iff.mp h
  exact wD_iff.mpr ⟨(p.map Prod.fst).nodup h.1, fun q hq => h.2 q (p.mem_iff.mpr hq)⟩
theorem wP_left {D : va_G} {cl : List vw_C} {wc wr : va_W} {H : Heap} (h : va_P D cl (wc ++ wr) H) : va_P D cl wc H := wP_iff.mpr fun q hq => wP_iff.mp h q (List.mem_append_left _ hq)
theorem wP_right {D : va_G} {cl : List vw_C} {wc wr : va_W} {H : Heap} (h : va_P D cl (wc ++ wr) H) : va_P D cl wr H := wP_iff.mpr fun q hq => wP_iff.mp h q (List.mem_append_right _ hq)
theorem wD_left {A : Nat → Prop} {wc wr : va_W} (h : va_D A (wc ++ wr)) : va_D A wc := by
  have h := wD_iff.mp h
  rw [List.map_append] at h
  exact wD_iff.mpr ⟨(List.nodup_append.mp h.1).1, fun q hq => h.2 q (List.mem_append_left _ hq)⟩
theorem wD_right {A : Nat → Prop} {wc wr : va_W} (h : va_D A (wc ++ wr)) : va_D A wr := by
  have h := wD_iff.mp h
  rw [List.map_append] at h
  exact wD_iff.mpr ⟨(List.nodup_append.mp h.1).2.1, fun q hq => h.2 q (List.mem_append_right _ hq)⟩
theorem wD_apart {A : Nat → Prop} {wc wr : va_W} (h : va_D A (wc ++ wr)) {p q : Nat × va_E} (hp : p ∈ wc) (hq : q ∈ wr) : p.1 ≠ q.1 := by
  have h := (wD_iff.mp h).1
  rw [List.map_append] at h
  exact (List.nodup_append.mp h).2.2 _ (List.mem_map.mpr ⟨p, hp, rfl⟩) _ (List.mem_map.mpr ⟨q, hq, rfl⟩)
theorem vaA_iff {ws : va_W} {sz q : Nat} : va_A ws sz q ↔ (∃ e, (q, e) ∈ ws) ∨ sz ≤ q := by
  constructor
  · rintro (⟨k, e, h⟩ | h)
    · exact Or.inl ⟨e, List.mem_of_getElem? h⟩
    · exact Or.inr h
  · rintro (⟨e, h⟩ | h)
    · obtain ⟨k, hk⟩ := List.getElem?_of_mem h
      exact Or.inl ⟨k, e, hk⟩
    · exact Or.inr h
theorem vaA_perm {ws ws' : va_W} (p : ws.Perm ws') {sz q : Nat} (h : va_A ws sz q) : va_A ws' sz q := by
  rcases vaA_iff.mp h with ⟨e, h⟩ | h
  · exact vaA_iff.mpr (Or.inl ⟨e, p.mem_iff.mp h⟩)
  · exact vaA_iff.mpr (Or.inr h)
/-- what a callee's part of the world is, cut out ahead of the call -/
def Cut (G : gT) (A : Nat → Prop) (s : State) (H : Heap) (wc : va_W) : Prop := va_P G.1 clz wc H ∧ va_D (fun _ => True) wc ∧ Env_ G (va_A wc H.size) s H ∧ ∀ q, va_A wc H.size q → A q
theorem cut_ {G : gT} {A : Nat → Prop} {s : State} {H : Heap} {locs : List Loc} {ws wc wr : va_W} (hE : Env_ G A s s.heap) (hP : va_P G.1 clz ws H) (hD : va_D A ws) (hS : va_S A s.heap H locs) (hA : ∀ q, s.heap.size ≤ q → A q) (p : ws.Perm (wc ++ wr)) : Cut G A s H wc := by
  have hF : ∀ q, va_A wc H.size q → A q := by
    intro q h
    rcases vaA_iff.mp h with ⟨e, h⟩ | h
    · exact (wD_iff.mp hD).2 (q, e) (p.mem_iff.mpr (List.mem_append_left _ h))
    · exact hA q (Nat.le_trans hS.1 h)
  exact ⟨wP_left (wP_perm hP p), (wD_left (wD_perm hD p)).weaken (fun _ _ _ _ => trivial), (hE.kept hS.2.1).narrow hF, hF⟩
/-- behind the call: what came back, beside the rest -/
theorem jn_ {A0 : Nat → Prop} {D : va_G} {cl : List vw_C} {ws wc wr w1 w2 : va_W} {H H1 : Heap} (hP : va_P D cl ws H) (hD : va_D A0 ws) (p : ws.Perm (wc ++ wr)) (hk : ∀ q : Nat, q < H.size → ¬ va_A wc H.size q → H1[q]? = H[q]?) (hF : ∀ q, va_A wc H.size q → A0 q) (hP1 : va_P D cl w1 H1) (hD1 : va_D (va_A wc H.size) w1) (p2 : (w1 ++ wr).Perm w2) : va_P D cl w2 H1 ∧ va_D A0 w2 := by
  have hP' := wP_perm hP p
  have hD' := wD_perm hD p
  have apart : ∀ q ∈ wr, q.1 < H.size ∧ ¬ va_A wc H.size q.1 := by
    intro q hq
    have hl : q.1 < H.size := (wP_iff.mp hP' q (List.mem_append_right _ hq)).lt
    refine ⟨hl, fun h => ?_⟩
    rcases vaA_iff.mp h with ⟨e, h⟩ | h
    · exact wD_apart hD' h hq rfl
    · omega
  have h1 : va_P D cl (w1 ++ wr) H1 := wP_iff.mpr fun q hq => by
    rcases List.mem_append.mp hq with h | h
    · exact wP_iff.mp hP1 q h
    · obtain ⟨a1, a2⟩ := apart q h
      exact (wP_iff.mp hP' q (List.mem_append_right _ h)).kept (hk q.1 a1 a2)
  have h2 : va_D A0 (w1 ++ wr) := by
    have d1 := wD_iff.mp hD1
    have d2 := wD_iff.mp (wD_right hD')
    refine wD_iff.mpr ⟨?_, fun q hq => ?_⟩
    · rw [List.map_append]
      refine List.nodup_append.mpr ⟨d1.1, d2.1, fun x hx y hy e => ?_⟩
      obtain ⟨a, ha, rfl⟩ := List.mem_map.mp hx
      obtain ⟨b, hb, rfl⟩ := List.mem_map.mp hy
      exact (apart b hb).2 (by rw [← e]; exact d1.2 a ha)
    · rcases List.mem_append.mp hq with h | h
      · exact hF _ (d1.2 q h)
      · exact d2.2 q h
  exact ⟨wP_perm h1 p2, wD_perm h2 p2⟩
/-- a box that lies in the rest of the world, or in the cache, isn't the callee's -/
theorem isbox.out {G : gT} {A : Nat → Prop} {s : State} {args : Array Value} {H : Heap} {locs : List Loc} {ws wc wr : va_W} {y : Nat} {v : Int32} (h : isbox G wr y v) (hts : ∀ w ∈ lw_all, w.before args s = true) (hE : Env_ G A s s.heap) (hP : va_P G.1 clz ws H) (hD : va_D A ws) (hS : va_S A s.heap H locs) (hA : ∀ q, s.heap.size ≤ q → A q) (p : ws.Perm (wc ++ wr)) : bx (va_A wc H.size) s H y v := by
  have hc := cut_ hE hP hD hS hA p
  rcases h with h | ⟨k, hk, rfl, rfl⟩
  · have hb := bx_cell hts hE.1 (wP_right (wP_perm hP p)) h
    refine hb.out (fun z => ?_)
    rcases vaA_iff.mp z with ⟨e, z⟩ | z
    · exact wD_apart (wD_perm hD p) z h rfl
    · have := hb.lt
      omega
  · have h1 : vb_C (gA G) (va_A wc H.size) s H := hc.2.2.1.2.2.2.2.2.1
    exact ⟨h1.1 k hk, h1.2 k hk⟩
/-! contracts -/
/-- a contract's start: the world ws, the boxes L with their values -/
def Pw (G : gT) (val : Nat → Int32) (L : List Nat) (av : List Value) (sz : Nat) (ws : va_W) : Array Value → State → Prop := va_Pc av (fun U => U.heap.size = sz ∧ va_P G.1 clz ws U.heap ∧ va_D (fun _ => True) ws ∧ Env_ G (va_A ws sz) U U.heap ∧ ∀ y ∈ L, bx (va_A ws sz) U U.heap y (val y))
/-- .. its end, the world behind it told by wf -/
def Bw {S : Type} (G : gT) (A : Nat → Prop) (wf : S → va_W) (u : S) (t : State) : Prop := va_P G.1 clz (wf u) t.heap ∧ va_D A (wf u)
theorem Pw.pre {G : gT} {val : Nat → Int32} {L : List Nat} {As : List Value} {A : Nat → Prop} {s : State} {H : Heap} {wc : va_W} (c : Cut G A s H wc) (hB : ∀ y ∈ L, bx (va_A wc H.size) s H y (val y)) : PreS s H (Pw G val L As H.size wc) As := by
  refine ⟨fun a U g mk q => ?_, fun U hU hW => ?_⟩
  · obtain ⟨q0, q1, qP, qD, qE, qB⟩ := q
    exact ⟨q0, q1, qP, qD, Env_.moved (u := U) (U := U.calling g mk a) (Vm.Alike.refl U.vm) qE, fun y hy => bx.moved (u := U) (U := U.calling g mk a) (Vm.Alike.refl U.vm) (qB y hy)⟩
  · refine ⟨rfl, by rw [hU], by rw [hU]; exact c.1, c.2.1, ?_, fun y hy => ?_⟩
    · rw [hU]
      exact c.2.2.1.moved hW.alike
    · rw [hU]
      exact (hB y hy).moved hW.alike
theorem no_bx {A : Nat → Prop} {s : State} {H : Heap} {val : Nat → Int32} : ∀ y ∈ ([] : List Nat), bx A s H y (val y) := fun y h => absurd h List.not_mem_nil
theorem Pw.preV {G : gT} {val : Nat → Int32} {L : List Nat} {As : List Value} {A : Nat → Prop} {s : State} {H : Heap} {wc : va_W} {b : Nat} {C : String} (c : Cut G A s H wc) (hB : ∀ y ∈ L, bx (va_A wc H.size) s H y (val y)) (hr : ∃ cell : Cell, H[b]? = some cell ∧ cell.vm.isStatics = false ∧ s.vm.findClass C = some cell.cls) : PreV s H C b (Pw G val L (.ref b :: As) H.size wc) As := by
  have h := Pw.pre (As := .ref b :: As) c hB
  exact ⟨h.1, hr, h.2⟩
/-- a contract of a method that only reads, and may be called on any cells: a box and another -/
def Pb (av : List Value) (L : List (Nat × Int32)) : Array Value → State → Prop := va_Pc av (fun U => ∀ q ∈ L, bx0 U U.heap q.1 q.2)
theorem Pb.pre {As : List Value} {s : State} {H : Heap} {L : List (Nat × Int32)} (hB : ∀ q ∈ L, bx0 s H q.1 q.2) : PreS s H (Pb As L) As := by
  refine ⟨fun a U g mk q => ?_, fun U hU hW => ⟨rfl, fun q hq => ?_⟩⟩
  · obtain ⟨q0, qB⟩ := q
    exact ⟨q0, fun y hy => bx.moved (u := U) (U := U.calling g mk a) (Vm.Alike.refl U.vm) (qB y hy)⟩
  · rw [hU]
    exact (hB q hq).moved hW.alike
theorem Pb.preV {As : List Value} {s : State} {H : Heap} {L : List (Nat × Int32)} {b : Nat} {C : String} (hB : ∀ q ∈ L, bx0 s H q.1 q.2) (hr : ∃ cell : Cell, H[b]? = some cell ∧ cell.vm.isStatics = false ∧ s.vm.findClass C = some cell.cls) : PreV s H C b (Pb (.ref b :: As) L) As := by
  have h := Pb.pre (As := .ref b :: As) hB
  exact ⟨h.1, hr, h.2⟩
theorem two_bx {s : State} {H : Heap} {a b : Nat} {v w : Int32} (h1 : bx0 s H a v) (h2 : bx0 s H b w) : ∀ q ∈ [(a, v), (b, w)], bx0 s H q.1 q.2 := by
  intro q hq
  simp only [List.mem_cons, List.not_mem_nil, or_false] at hq
  rcases hq with rfl | rfl
  · exact h1
  · exact h2
theorem one_bx {s : State} {H : Heap} {a : Nat} {v : Int32} (h1 : bx0 s H a v) : ∀ q ∈ [(a, v)], bx0 s H q.1 q.2 := by
  intro q hq
  simp only [List.mem_cons, List.not_mem_nil, or_false] at hq
  rcases hq with rfl
  exact h1
section FRC
variable {p : Program} {l : Launch} {e : Env} {R : Room} {s : State} {m : MethodId} {args : Array Value} {below : List Frame} {meth : Method} {c : Code} {H : Heap} {locs : List Loc} {cells slots : Nat} {Q : State → Prop}
variable {pc : Nat} {ls : Array Slot} {rest st0 : List Value} {a : Array Value} {A : Nat → Prop} {mc ms : Nat} {G : gT} {ws wc wr : va_W} {cc : ByteArray}
theorem cv_ {S : Type} {post : S → Prop} {wf : S → va_W} (hr : va_Run p l e R s m args below meth c H locs cells slots mc ms (F0 m pc ls st0) rest (va_Qv post (Bw G (va_A wc H.size) wf) (va_A wc H.size) a) (va_A wc H.size)) (hP : va_P G.1 clz ws H) (hD : va_D A ws) (hS : va_S A s.heap H locs) (hc : Cut G A s H wc) (hp : ws.Perm (wc ++ wr))
    (kk : ∀ (u : S) (H1 : Heap) (locs1 : List Loc), post u → va_P G.1 clz (wf u ++ wr) H1 → va_D A (wf u ++ wr) → va_S A s.heap H1 locs1 → W p l e R s m args below meth c H1 locs1 (cells + mc) (slots + ms) Q (F0 m (pc + 3) ls rest)) : W p l e R s m args below meth c H locs cells slots Q (F0 m pc ls st0) := by
  refine va_callv hr hS (fun q _ h => hc.2.2.2 q h) hc.2.2.2 (fun u t H1 locs1 ht hvm hq hB hz hk hS1 => ?_)
  obtain ⟨hP1, hD1⟩ := hB
  rw [ht] at hP1
  obtain ⟨hP2, hD2⟩ := jn_ hP hD hp hk hc.2.2.2 hP1 hD1 (List.Perm.refl _)
  exact kk u H1 locs1 hq hP2 hD2 hS1
theorem ci_ {S : Type} {post : Int32 → S → Prop} {wf : S → va_W} (hr : va_Run p l e R s m args below meth c H locs cells slots mc ms (F0 m pc ls st0) rest (va_Qi post (Bw G (va_A wc H.size) wf) (va_A wc H.size) a) (va_A wc H.size)) (hP : va_P G.1 clz ws H) (hD : va_D A ws) (hS : va_S A s.heap H locs) (hc : Cut G A s H wc) (hp : ws.Perm (wc ++ wr))
    (kk : ∀ (r : Int32) (u : S) (H1 : Heap) (locs1 : List Loc), post r u → va_P G.1 clz (wf u ++ wr) H1 → va_D A (wf u ++ wr) → va_S A s.heap H1 locs1 → W p l e R s m args below meth c H1 locs1 (cells + mc) (slots + ms) Q (F0 m (pc + 3) ls (.int r :: rest))) : W p l e R s m args below meth c H locs cells slots Q (F0 m pc ls st0) := by
  refine va_calli hr hS (fun q _ h => hc.2.2.2 q h) hc.2.2.2 (fun r u t H1 locs1 ht hvm hq hB hz hk hS1 => ?_)
  obtain ⟨hP1, hD1⟩ := hB
  rw [ht] at hP1
  obtain ⟨hP2, hD2⟩ := jn_ hP hD hp hk hc.2.2.2 hP1 hD1 (List.Perm.refl _)
  exact kk r u H1 locs1 hq hP2 hD2 hS1
theorem cr_ {S : Type} {post : S → Prop} {wf : S → Nat → va_W} (hr : va_Run p l e R s m args below meth c H locs cells slots mc ms (F0 m pc ls st0) rest (va_Qr post (fun u q t => Bw G (va_A wc H.size) (fun u : S => wf u q) u t) (va_A wc H.size) a) (va_A wc H.size)) (hP : va_P G.1 clz ws H) (hD : va_D A ws) (hS : va_S A s.heap H locs) (hc : Cut G A s H wc) (hp : ws.Perm (wc ++ wr))
    (kk : ∀ (u : S) (q : Nat) (H1 : Heap) (locs1 : List Loc), post u → va_P G.1 clz (wf u q ++ wr) H1 → va_D A (wf u q ++ wr) → va_S A s.heap H1 locs1 → W p l e R s m args below meth c H1 locs1 (cells + mc) (slots + ms) Q (F0 m (pc + 3) ls (.ref q :: rest))) : W p l e R s m args below meth c H locs cells slots Q (F0 m pc ls st0) := by
  refine va_callr hr hS (fun q _ h => hc.2.2.2 q h) hc.2.2.2 (fun u q t H1 locs1 ht hvm hq hB hz hk hS1 => ?_)
  obtain ⟨hP1, hD1⟩ := hB
  rw [ht] at hP1
  obtain ⟨hP2, hD2⟩ := jn_ hP hD hp hk hc.2.2.2 hP1 hD1 (List.Perm.refl _)
  exact kk u q H1 locs1 hq hP2 hD2 hS1
/-- a callee that makes cells and has none: an Integer, say -/
theorem cb_ {post : va_W → Prop} {pb : va_W → Nat → Prop} (hr : va_Run p l e R s m args below meth c H locs cells slots mc ms (F0 m pc ls st0) rest (va_Qr post (fun (u : va_W) (q : Nat) (t : State) => (va_P G.1 clz u t.heap ∧ va_D (va_A [] H.size) u) ∧ pb u q) (va_A [] H.size) a) (va_A [] H.size)) (hP : va_P G.1 clz ws H) (hD : va_D A ws) (hS : va_S A s.heap H locs) (hc : Cut G A s H [])
    (kk : ∀ (u : va_W) (q : Nat) (H1 : Heap) (locs1 : List Loc), post u → pb u q → va_P G.1 clz (ws ++ u) H1 → va_D A (ws ++ u) → va_S A s.heap H1 locs1 → W p l e R s m args below meth c H1 locs1 (cells + mc) (slots + ms) Q (F0 m (pc + 3) ls (.ref q :: rest))) : W p l e R s m args below meth c H locs cells slots Q (F0 m pc ls st0) := by
  refine va_callr hr hS (fun q _ h => hc.2.2.2 q h) hc.2.2.2 (fun u q t H1 locs1 ht hvm hq hB hz hk hS1 => ?_)
  obtain ⟨⟨hP1, hD1⟩, hpb⟩ := hB
  rw [ht] at hP1
  obtain ⟨hP2, hD2⟩ := jn_ (wc := []) (wr := ws) hP hD (List.Perm.refl _) hk hc.2.2.2 hP1 hD1 List.perm_append_comm
  exact kk u q H1 locs1 hq hpb hP2 hD2 hS1
/-- a value on the stack under a better name -/
theorem lt_i {x y : Int32} (h : x = y) (k : W p l e R s m args below meth c H locs cells slots Q (F0 m pc ls (.int y :: rest))) : W p l e R s m args below meth c H locs cells slots Q (F0 m pc ls (.int x :: rest)) := h ▸ k
theorem lt_q {x y : Value} (h : x = y) (k : W p l e R s m args below meth c H locs cells slots Q (F0 m pc ls (y :: rest))) : W p l e R s m args below meth c H locs cells slots Q (F0 m pc ls (x :: rest)) := h ▸ k
theorem ql_aload_n (hexec : p.tables.exec = Jvm.exec) (hb : c.code = cc) {k : Fin 4} {i : Nat} {r : Option Nat} (hdg : decode cc pc = .ok (.aload_n k, 1)) (hi : (k : Nat) = i) (hl : ls[i]? = some (.val (va_rf r)))
    (kk : W p l e R s m args below meth c H locs cells slots Q (F0 m (pc + 1) ls (va_rf r :: rest))) : W p l e R s m args below meth c H locs cells slots Q (F0 m pc ls rest) := by
  cases r with
  | none => exact lv_aload_nN hexec hb hdg hi hl kk
  | some x => exact lv_aload_n hexec hb hdg hi hl kk
/-- a call through an interface, the receiver's class known by its name alone -/
theorem runF_ {x y : MethodName} {bytes : ByteArray} {maxL nL n index count : Nat} {ret : Option FieldType} {wds : List Cond} {rm : Room} {Pc : Array Value → State → Prop} {Qc : Array Value → State → Outcome → State → Prop} {free : Addr → Prop} {Ts : List Cond} {own C : String} {b : Addr} {As : List Value} {g : JFrame}
    (S : CallFix p m c cc nL s args Ts own) (hM : Met l y wds rm Pc Qc mc ms free) (cw : va_CI R s args own C index x y bytes maxL ret wds rm mc ms n) (hp : PreV s H C b Pc As)
    (hg : g.method = m) (hn : As.length = n) (hsize : g.locals.size = nL) (hstack : g.stack = As.reverse ++ .ref b :: rest) (hW : 2 * g.monitorRoom + (rest.map fun v => v.category).sum ≤ 8) (hdg : decode cc g.pc = .ok (.invokeinterface index count, 5)) (hf : cells + mc ≤ R.cells ∧ slots + ms ≤ R.slots) :
    va_Run5 p l e R s m args below meth c H locs cells slots mc ms g rest (Qc (Value.ref b :: As).toArray) free := by
  obtain ⟨hrc, hrs, hfr, hlo, hws, hcw⟩ := cw.back
  have hini := cw.init
  have hK : Back l R p e below s args y 5 8 (PreOf R mc ms Pc) (PostOf Qc mc ms free) := back_of (bytes := bytes) (maxL := maxL) (ret := ret) hM hp.1 hrc hrs hfr hlo hws hcw (fun a' U hW => word_at hW (Or.inl (by first | rfl | simp [Cond.onTables, Cond.keeps, Cond.steady])) hini)
  obtain ⟨hx, hb, hml, ho, -⟩ := S
  obtain ⟨-, ⟨cellB, hcB, hoB, hclB⟩, hPc⟩ := hp
  obtain ⟨kB, hkB, -⟩ := Vm.findClass_spec hclB
  intro T hT X
  obtain ⟨v, vm₁, ⟨U', l2, c2, s2⟩, hW₁, X', ⟨g', mk, t, L, e1, e2, hq, h1, hL, h2, h3⟩, st⟩ := va_callIF X hx (C := C) (bytes := bytes) (maxL := maxL) (ret := ret) ho cw.link cw.decl cw.face cw.sel cw.inst cw.pub cw.unh cw.cast cw.code cw.notMH hK (by rw [hT]; exact hcB) hoB hclB hkB hg (hsize.trans hml.symm) (argsL := As) (rest := rest) (fun sig h => hn.trans (cw.len sig h)) hstack hW (by rw [hb]; exact hdg)
    (fun vm₁ hW₁ => ⟨hf.1, hf.2, hPc (T.setVm vm₁) hT hW₁⟩)
  dsimp only [Pt.U, Pt.locs, Pt.cells, Pt.slots] at X' e1 e2 h1 h2 h3 st
  subst h1; subst h2; subst h3
  exact ⟨v, (T.setVm vm₁).calling g' mk (Value.ref b :: As).toArray, t, U', L, hT, X', hL, e1, e2, hq, st⟩
end FRC
/-- what a call of an inherited or overriding method asks -/
theorem lw_U {own : String} {idx : Nat} {C owner : String} {x y : MethodName} {b : ByteArray} {L : Nat} {r : Option FieldType} (h1 : Cond.methodLink own idx x ∈ lw_all) (h2 : Cond.sameMethod x.cls owner x.name x.desc ∈ lw_all) (h3 : Cond.selects C x y ∈ lw_all) (h4 : Cond.instanceMethod y ∈ lw_all) (h5 : Cond.initialized y.cls ∈ lw_all) (h6 : Cond.code y b L r ∈ lw_all) : GoodIn lw_all (va_wsU own idx C owner x y (ws_ y b L r)) := by
  refine lw_app ?_ (lw_meth h6)
  intro w hw
  simp only [List.mem_cons, List.not_mem_nil, or_false] at hw
  rcases hw with e | e | e | e | e
  · rw [e]; exact h1
  · rw [e]; exact h2
  · rw [e]; exact h3
  · rw [e]; exact h4
  · rw [e]; exact h5
theorem lw_F {own : String} {idx : Nat} {C : String} {x y : MethodName} {b : ByteArray} {L : Nat} {r : Option FieldType} (h1 : Cond.methodLink own idx x ∈ lw_all) (h3 : Cond.selects C x y ∈ lw_all) (h4 : Cond.instanceMethod y ∈ lw_all) (h5 : Cond.initialized y.cls ∈ lw_all) (h6 : Cond.code y b L r ∈ lw_all) : GoodIn lw_all (va_wsF own idx C x y (ws_ y b L r)) := by
  refine lw_app ?_ (lw_meth h6)
  intro w hw
  simp only [List.mem_cons, List.not_mem_nil, or_false] at hw
  rcases hw with e | e | e | e
  · rw [e]; exact h1
  · rw [e]; exact h3
  · rw [e]; exact h4
  · rw [e]; exact h5
/-- arrays of one type have one class -/
theorem RA_uniq {U : State} {c1 c2 : ClassId} {ty : FieldType} (h1 : va_RA U c1 ty) (h2 : va_RA U c2 ty) : c1 = c2 := by
  cases ty with
  | object C =>
    obtain ⟨_, _, -, -, -, h1⟩ := h1
    obtain ⟨_, _, -, -, -, h2⟩ := h2
    exact Option.some.inj (h1.symm.trans h2)
  | _ => exact Option.some.inj (Eq.symm (show U.vm.findClass _ = some c1 from h1) |>.trans (show U.vm.findClass _ = some c2 from h2))
end
section
/-! LEAVES: Integer, Number, the two orders -/
set_option maxRecDepth 100000
abbrev rm_ (f c s n : Nat) : Room := { frames := f, cells := c, slots := s, locals := n }
theorem od_1 {x y : Int32} (h : ¬ y ≤ x) : ((-1 : Int32) ≤ 0 ↔ wt_ false x ≤ wt_ false y) := by
  rw [Int32.le_iff_toInt_le] at h
  refine ⟨fun _ => ?_, fun _ => by decide⟩
  show x.toInt ≤ y.toInt
  omega
theorem od_2 {x y : Int32} (h : ¬ x ≤ y) : ((1 : Int32) ≤ 0 ↔ wt_ false x ≤ wt_ false y) := by
  rw [Int32.le_iff_toInt_le] at h
  exact ⟨fun q => absurd q (by decide), fun q => absurd (show x.toInt ≤ y.toInt from q) h⟩
theorem od_3 {x y : Int32} (h : x ≤ y) : ((0 : Int32) ≤ 0 ↔ wt_ false x ≤ wt_ false y) := by
  rw [Int32.le_iff_toInt_le] at h
  exact ⟨fun _ => h, fun _ => by decide⟩
theorem od_4 {x y : Int32} (h : ¬ y ≤ x) : ((1 : Int32) ≤ 0 ↔ wt_ true x ≤ wt_ true y) := by
  rw [Int32.le_iff_toInt_le] at h
  refine ⟨fun q => absurd q (by decide), fun q => ?_⟩
  have q : -x.toInt ≤ -y.toInt := q
  omega
theorem od_5 {x y : Int32} (h : ¬ x ≤ y) : ((-1 : Int32) ≤ 0 ↔ wt_ true x ≤ wt_ true y) := by
  rw [Int32.le_iff_toInt_le] at h
  refine ⟨fun _ => ?_, fun _ => by decide⟩
  show -x.toInt ≤ -y.toInt
  omega
theorem od_6 {x y : Int32} (h : y ≤ x) : ((0 : Int32) ≤ 0 ↔ wt_ true x ≤ wt_ true y) := by
  rw [Int32.le_iff_toInt_le] at h
  refine ⟨fun _ => ?_, fun _ => by decide⟩
  show -x.toInt ≤ -y.toInt
  omega
theorem no_loc {A : Nat → Prop} : ∀ q ∈ ([] : List Loc), A q.base := fun q h => absurd h List.not_mem_nil
set_option maxHeartbeats 4000000 in
set_option maxRecDepth 100000 in
/-- Integer.intValue() -/
theorem mJ7_intValue (l : Launch) (y : Nat) (v : Int32) : Met l yJ7_intValue (ws_ yJ7_intValue cJ7_intValue 1 (some .int)) (rm_ 0 0 0 0) (Pb [.ref y] [(y, v)]) (vp_Si (fun r => r = v)) 0 0 (fun _ => False) := by
  refine Met.ofW (cc := cJ7_intValue) (maxL := 1) (ret := some .int) (by decide) rfl ?_
  intro p e s m args below meth c s₁ B hml hv
  obtain ⟨rfl, hv⟩ := hv
  have hv0 : bx0 s s.heap y v := hv (y, v) List.mem_cons_self
  have hx := B.exec
  have hb := B.bytes
  have hr := B.returns
  have hts := atoms_spec (ws := ws_ yJ7_intValue cJ7_intValue 1 (some .int)) B.pre
  have hts : ∀ w ∈ lw_all, w.before _ s = true := fun w h => hts w (List.mem_cons_of_mem _ h)
  have hown : s.vm.findClass RJ7 = some m.cls := findClass_of_methodNamed B.named
  have hlocks := B.notSynchronized
  have hl := lv_entry ([.ref y]) (n := 1) (Nat.le_of_ble_eq_true rfl)
  rw [lg_entry_eq]
  generalize (lg_sl ([.ref y]) ++ List.replicate (1 - (lg_sl ([.ref y])).length) Slot.unset).toArray = ls at hl ⊢
  have hl : lv_has ls 1 [(0, .ref y)] := hl
  refine lv_aload_n hx hb dJ7_intValue_0 rfl (lv_at hl 0 rfl) ?_
  refine vk_getf hx hb hv0.2 (va_S.rf (A := fun _ => False)) hown (hts _ q203) (fun _ h9 => h9) dJ7_intValue_1 ?_
  exact W.iret (v := v) hx hb hr (fun t ht hW => ⟨v, rfl, rfl, ht⟩) no_loc dJ7_intValue_4
set_option maxHeartbeats 4000000 in
set_option maxRecDepth 100000 in
/-- the natural order of two boxes -/
theorem mX1_order (l : Launch) (a b : Nat) (va vb : Int32) : Met l yX1_order (ws_ yX1_order cX1_order 4 (some .int)) (rm_ 1 0 0 20) (Pb [.ref a, .ref b] [(a, va), (b, vb)]) (vp_Si (fun r => r ≤ 0 ↔ wt_ false va ≤ wt_ false vb)) 0 0 (fun _ => False) := by
  refine Met.ofW (cc := cX1_order) (maxL := 4) (ret := some .int) (by decide) rfl ?_
  intro p e s m args below meth c s₁ B hml hv
  obtain ⟨rfl, hv⟩ := hv
  have hva : bx0 s s.heap a va := hv (a, va) List.mem_cons_self
  have hvb : bx0 s s.heap b vb := hv (b, vb) (List.mem_cons_of_mem _ List.mem_cons_self)
  have hx := B.exec
  have hb := B.bytes
  have hr := B.returns
  have hts := atoms_spec (ws := ws_ yX1_order cX1_order 4 (some .int)) B.pre
  have hts : ∀ w ∈ lw_all, w.before _ s = true := fun w h => hts w (List.mem_cons_of_mem _ h)
  have hown : s.vm.findClass RX1 = some m.cls := findClass_of_methodNamed B.named
  have hlocks := B.notSynchronized
  have hl := lv_entry ([.ref a, .ref b]) (n := 4) (Nat.le_of_ble_eq_true rfl)
  rw [lg_entry_eq]
  generalize (lg_sl ([.ref a, .ref b]) ++ List.replicate (4 - (lg_sl ([.ref a, .ref b])).length) Slot.unset).toArray = ls at hl ⊢
  have hl : lv_has ls 4 [(0, .ref a), (1, .ref b)] := hl
  refine lv_aload_n hx hb dX1_order_0 rfl (lv_at hl 0 rfl) ?_
  refine va_castE hx hb hown (hts _ q255) (bx.recv hva) dX1_order_1 ?_
  refine vp_callSi (va_Run.run (va_runV (As := []) (rest := []) ⟨hx, hb, hml, hown, hts⟩ (mJ7_intValue l a va) (cwV 0 hts (lw_V q256 q257 q258 q14 q259) rfl rfl rfl (by decide +kernel) ⟨Nat.le_of_ble_eq_true rfl, Nat.le_of_ble_eq_true rfl⟩) (Pb.preV (one_bx hva) (bx.recv hva)) rfl rfl hl.1 rfl (lv_room (Nat.le_of_ble_eq_true rfl)) dX1_order_4 ⟨Nat.le_refl _, Nat.le_refl _⟩)) (fun r1 e_r1 => ?_)
  subst r1
  refine lv_istore_n (lv' := [(2, .int va), (0, .ref a), (1, .ref b)]) hx hb dX1_order_7 rfl hl (by decide) rfl (fun ls hl => ?_)
  refine lv_aload_n hx hb dX1_order_8 rfl (lv_at hl 2 rfl) ?_
  refine va_castE hx hb hown (hts _ q255) (bx.recv hvb) dX1_order_9 ?_
  refine vp_callSi (va_Run.run (va_runV (As := []) (rest := []) ⟨hx, hb, hml, hown, hts⟩ (mJ7_intValue l b vb) (cwV 0 hts (lw_V q256 q257 q258 q14 q259) rfl rfl rfl (by decide +kernel) ⟨Nat.le_of_ble_eq_true rfl, Nat.le_of_ble_eq_true rfl⟩) (Pb.preV (one_bx hvb) (bx.recv hvb)) rfl rfl hl.1 rfl (lv_room (Nat.le_of_ble_eq_true rfl)) dX1_order_12 ⟨Nat.le_refl _, Nat.le_refl _⟩)) (fun r2 e_r2 => ?_)
  subst r2
  refine lv_istore_n (lv' := [(3, .int vb), (2, .int va), (0, .ref a), (1, .ref b)]) hx hb dX1_order_15 rfl hl (by decide) rfl (fun ls hl => ?_)
  refine lv_iload_n hx hb dX1_order_16 rfl (lv_at hl 1 rfl) ?_
  refine lv_iload_n hx hb dX1_order_17 rfl (lv_at hl 0 rfl) ?_
  refine lv_icmp_ge (tgt := 25) hx hb dX1_order_18 (by decide) (fun c1 => ?_) (fun c1 => ?_)
  · refine lv_iload_n hx hb dX1_order_25 rfl (lv_at hl 1 rfl) ?_
    refine lv_iload_n hx hb dX1_order_26 rfl (lv_at hl 0 rfl) ?_
    refine lv_icmp_le (tgt := 34) hx hb dX1_order_27 (by decide) (fun c2 => ?_) (fun c2 => ?_)
    · refine lv_iconst (v := 0) hx hb dX1_order_34 (by decide) ?_
      exact W.iret (v := 0) hx hb hr (fun t ht hW => ⟨0, rfl, od_3 c2, ht⟩) no_loc dX1_order_35
    · refine lv_iconst (v := 1) hx hb dX1_order_30 (by decide) ?_
      refine lv_goto (tgt := 35) hx hb dX1_order_31 (by decide) ?_
      exact W.iret (v := 1) hx hb hr (fun t ht hW => ⟨1, rfl, od_2 c2, ht⟩) no_loc dX1_order_35
  · refine lv_iconst (v := (-1)) hx hb dX1_order_21 (by decide) ?_
    refine lv_goto (tgt := 35) hx hb dX1_order_22 (by decide) ?_
    exact W.iret (v := -1) hx hb hr (fun t ht hW => ⟨-1, rfl, od_1 c1, ht⟩) no_loc dX1_order_35
set_option maxHeartbeats 4000000 in
set_option maxRecDepth 100000 in
/-- the opposite order, of Integers -/
theorem mX5_compare_2 (l : Launch) (o a b : Nat) (va vb : Int32) : Met l yX5_compare_2 (ws_ yX5_compare_2 cX5_compare_2 5 (some .int)) (rm_ 1 0 0 20) (Pb [.ref o, .ref a, .ref b] [(a, va), (b, vb)]) (vp_Si (fun r => r ≤ 0 ↔ wt_ true va ≤ wt_ true vb)) 0 0 (fun _ => False) := by
  refine Met.ofW (cc := cX5_compare_2) (maxL := 5) (ret := some .int) (by decide) rfl ?_
  intro p e s m args below meth c s₁ B hml hv
  obtain ⟨rfl, hv⟩ := hv
  have hva : bx0 s s.heap a va := hv (a, va) List.mem_cons_self
  have hvb : bx0 s s.heap b vb := hv (b, vb) (List.mem_cons_of_mem _ List.mem_cons_self)
  have hx := B.exec
  have hb := B.bytes
  have hr := B.returns
  have hts := atoms_spec (ws := ws_ yX5_compare_2 cX5_compare_2 5 (some .int)) B.pre
  have hts : ∀ w ∈ lw_all, w.before _ s = true := fun w h => hts w (List.mem_cons_of_mem _ h)
  have hown : s.vm.findClass RX5 = some m.cls := findClass_of_methodNamed B.named
  have hlocks := B.notSynchronized
  have hl := lv_entry ([.ref o, .ref a, .ref b]) (n := 5) (Nat.le_of_ble_eq_true rfl)
  rw [lg_entry_eq]
  generalize (lg_sl ([.ref o, .ref a, .ref b]) ++ List.replicate (5 - (lg_sl ([.ref o, .ref a, .ref b])).length) Slot.unset).toArray = ls at hl ⊢
  have hl : lv_has ls 5 [(0, .ref o), (1, .ref a), (2, .ref b)] := hl
  refine lv_aload_n hx hb dX5_compare_2_0 rfl (lv_at hl 1 rfl) ?_
  refine vp_callSi (va_Run.run (va_runV (As := []) (rest := []) ⟨hx, hb, hml, hown, hts⟩ (mJ7_intValue l a va) (cwV 0 hts (lw_V q281 q257 q258 q14 q259) rfl rfl rfl (by decide +kernel) ⟨Nat.le_of_ble_eq_true rfl, Nat.le_of_ble_eq_true rfl⟩) (Pb.preV (one_bx hva) (bx.recv hva)) rfl rfl hl.1 rfl (lv_room (Nat.le_of_ble_eq_true rfl)) dX5_compare_2_1 ⟨Nat.le_refl _, Nat.le_refl _⟩)) (fun r1 e_r1 => ?_)
  subst r1
  refine lv_istore_n (lv' := [(3, .int va), (0, .ref o), (1, .ref a), (2, .ref b)]) hx hb dX5_compare_2_4 rfl hl (by decide) rfl (fun ls hl => ?_)
  refine lv_aload_n hx hb dX5_compare_2_5 rfl (lv_at hl 3 rfl) ?_
  refine vp_callSi (va_Run.run (va_runV (As := []) (rest := []) ⟨hx, hb, hml, hown, hts⟩ (mJ7_intValue l b vb) (cwV 0 hts (lw_V q281 q257 q258 q14 q259) rfl rfl rfl (by decide +kernel) ⟨Nat.le_of_ble_eq_true rfl, Nat.le_of_ble_eq_true rfl⟩) (Pb.preV (one_bx hvb) (bx.recv hvb)) rfl rfl hl.1 rfl (lv_room (Nat.le_of_ble_eq_true rfl)) dX5_compare_2_6 ⟨Nat.le_refl _, Nat.le_refl _⟩)) (fun r2 e_r2 => ?_)
  subst r2
  refine lv_istore (lv' := [(4, .int vb), (3, .int va), (0, .ref o), (1, .ref a), (2, .ref b)]) hx hb dX5_compare_2_9 hl (by decide) rfl (fun ls hl => ?_)
  refine lv_iload_n hx hb dX5_compare_2_11 rfl (lv_at hl 1 rfl) ?_
  refine lv_iload hx hb dX5_compare_2_12 (lv_at hl 0 rfl) ?_
  refine lv_icmp_ge (tgt := 21) hx hb dX5_compare_2_14 (by decide) (fun c1 => ?_) (fun c1 => ?_)
  · refine lv_iload_n hx hb dX5_compare_2_21 rfl (lv_at hl 1 rfl) ?_
    refine lv_iload hx hb dX5_compare_2_22 (lv_at hl 0 rfl) ?_
    refine lv_icmp_le (tgt := 31) hx hb dX5_compare_2_24 (by decide) (fun c2 => ?_) (fun c2 => ?_)
    · refine lv_iconst (v := 0) hx hb dX5_compare_2_31 (by decide) ?_
      exact W.iret (v := 0) hx hb hr (fun t ht hW => ⟨0, rfl, od_6 c1, ht⟩) no_loc dX5_compare_2_32
    · refine lv_iconst (v := (-1)) hx hb dX5_compare_2_27 (by decide) ?_
      refine lv_goto (tgt := 32) hx hb dX5_compare_2_28 (by decide) ?_
      exact W.iret (v := -1) hx hb hr (fun t ht hW => ⟨-1, rfl, od_5 c2, ht⟩) no_loc dX5_compare_2_32
  · refine lv_iconst (v := 1) hx hb dX5_compare_2_17 (by decide) ?_
    refine lv_goto (tgt := 32) hx hb dX5_compare_2_18 (by decide) ?_
    exact W.iret (v := 1) hx hb hr (fun t ht hW => ⟨1, rfl, od_4 c1, ht⟩) no_loc dX5_compare_2_32
/-- a contract's start for the comparator: it is what it is, and two boxes -/
def Pd (o a b : Nat) (va vb : Int32) : Array Value → State → Prop := va_Pc [.ref o, .ref a, .ref b] (fun U => va_O RX5 o (fun _ => False) U U.heap ∧ ∀ q ∈ [(a, va), (b, vb)], bx0 U U.heap q.1 q.2)
theorem Pd.preV {s : State} {H : Heap} {o a b : Nat} {va vb : Int32} (ho : va_O RX5 o (fun _ => False) s H) (hB : ∀ q ∈ [(a, va), (b, vb)], bx0 s H q.1 q.2) : PreV s H RX5 o (Pd o a b va vb) [.ref a, .ref b] := by
  refine ⟨fun a U g mk q => ?_, ?_, fun U hU hW => ⟨rfl, ?_, fun q hq => ?_⟩⟩
  · obtain ⟨q0, q1, qB⟩ := q
    exact ⟨q0, va_O.moved (u := U) (U := U.calling g mk a) (Vm.Alike.refl U.vm) q1, fun y hy => bx.moved (u := U) (U := U.calling g mk a) (Vm.Alike.refl U.vm) (qB y hy)⟩
  · obtain ⟨cell, h1, h2, h3, -⟩ := ho
    exact ⟨cell, h1, h2, h3⟩
  · rw [hU]
    exact va_O.moved hW.alike ho
  · rw [hU]
    exact (hB q hq).moved hW.alike
set_option maxHeartbeats 4000000 in
set_option maxRecDepth 100000 in
/-- the opposite order, as the comparator -/
theorem mX5_compare (l : Launch) (o a b : Nat) (va vb : Int32) : Met l yX5_compare (ws_ yX5_compare cX5_compare 3 (some .int)) (rm_ 2 0 0 44) (Pd o a b va vb) (vp_Si (fun r => r ≤ 0 ↔ wt_ true va ≤ wt_ true vb)) 0 0 (fun _ => False) := by
  refine Met.ofW (cc := cX5_compare) (maxL := 3) (ret := some .int) (by decide) rfl ?_
  intro p e s m args below meth c s₁ B hml hv
  obtain ⟨rfl, ho, hv⟩ := hv
  have hva : bx0 s s.heap a va := hv (a, va) List.mem_cons_self
  have hvb : bx0 s s.heap b vb := hv (b, vb) (List.mem_cons_of_mem _ List.mem_cons_self)
  have hro : ∃ cell : Cell, s.heap[o]? = some cell ∧ cell.vm.isStatics = false ∧ s.vm.findClass RX5 = some cell.cls := by
    obtain ⟨cell, h1, h2, h3, -⟩ := ho
    exact ⟨cell, h1, h2, h3⟩
  have hx := B.exec
  have hb := B.bytes
  have hr := B.returns
  have hts := atoms_spec (ws := ws_ yX5_compare cX5_compare 3 (some .int)) B.pre
  have hts : ∀ w ∈ lw_all, w.before _ s = true := fun w h => hts w (List.mem_cons_of_mem _ h)
  have hown : s.vm.findClass RX5 = some m.cls := findClass_of_methodNamed B.named
  have hlocks := B.notSynchronized
  have hl := lv_entry ([.ref o, .ref a, .ref b]) (n := 3) (Nat.le_of_ble_eq_true rfl)
  rw [lg_entry_eq]
  generalize (lg_sl ([.ref o, .ref a, .ref b]) ++ List.replicate (3 - (lg_sl ([.ref o, .ref a, .ref b])).length) Slot.unset).toArray = ls at hl ⊢
  have hl : lv_has ls 3 [(0, .ref o), (1, .ref a), (2, .ref b)] := hl
  refine lv_aload_n hx hb dX5_compare_0 rfl (lv_at hl 0 rfl) ?_
  refine lv_aload_n hx hb dX5_compare_1 rfl (lv_at hl 1 rfl) ?_
  refine va_castE hx hb hown (hts _ q276) (bx.recv hva) dX5_compare_2 ?_
  refine lv_aload_n hx hb dX5_compare_5 rfl (lv_at hl 2 rfl) ?_
  refine va_castE hx hb hown (hts _ q276) (bx.recv hvb) dX5_compare_6 ?_
  refine vp_callSi (va_Run.run (va_runV (As := [.ref a, .ref b]) (rest := []) ⟨hx, hb, hml, hown, hts⟩ (mX5_compare_2 l o a b va vb) (cwV 2 hts (lw_V q277 q278 q279 q410 q280) rfl rfl rfl (by decide +kernel) ⟨Nat.le_of_ble_eq_true rfl, Nat.le_of_ble_eq_true rfl⟩) (Pb.preV (two_bx hva hvb) hro) rfl rfl hl.1 rfl (lv_room (Nat.le_of_ble_eq_true rfl)) dX5_compare_9 ⟨Nat.le_refl _, Nat.le_refl _⟩)) (fun r1 e_r1 => ?_)
  exact W.iret (v := r1) hx hb hr (fun t ht hW => ⟨r1, rfl, e_r1, ht⟩) no_loc dX5_compare_12
set_option maxHeartbeats 4000000 in
set_option maxRecDepth 100000 in
/-- Number() -/
theorem mJ6_init (l : Launch) (q : Nat) : Met l yJ6_init (ws_ yJ6_init cJ6_init 1 none) (rm_ 1 0 0 12) (va_Pc [.ref q] (fun _ => True)) (va_Sv (fun _ => True)) 0 0 (fun _ => False) := by
  refine Met.ofW (cc := cJ6_init) (maxL := 1) (ret := none) (by decide) rfl ?_
  intro p e s m args below meth c s₁ B hml hv
  obtain ⟨rfl, -⟩ := hv
  have hx := B.exec
  have hb := B.bytes
  have hr := B.returns
  have hts := atoms_spec (ws := ws_ yJ6_init cJ6_init 1 none) B.pre
  have hts : ∀ w ∈ lw_all, w.before _ s = true := fun w h => hts w (List.mem_cons_of_mem _ h)
  have hown : s.vm.findClass RJ6 = some m.cls := findClass_of_methodNamed B.named
  have hlocks := B.notSynchronized
  have hl := lv_entry ([.ref q]) (n := 1) (Nat.le_of_ble_eq_true rfl)
  rw [lg_entry_eq]
  generalize (lg_sl ([.ref q]) ++ List.replicate (1 - (lg_sl ([.ref q])).length) Slot.unset).toArray = ls at hl ⊢
  have hl : lv_has ls 1 [(0, .ref q)] := hl
  refine lv_aload_n hx hb dJ6_init_0 rfl (lv_at hl 0 rfl) ?_
  refine W.objInit hx hb hown (hts _ q202) (hts _ q24) (hts _ q25) rfl (by rw [hml]; exact hl.1) rfl dJ6_init_1 (Nat.le_of_ble_eq_true rfl) (Nat.le_of_ble_eq_true rfl) ?_
  refine W.eq (g2 := F0 m 4 ls []) rfl ?_
  exact W.vret hx hb hr (fun t ht hW => ⟨rfl, trivial, ht⟩) no_loc dJ6_init_4
theorem pre_any {s : State} {H : Heap} {As : List Value} : PreS s H (va_Pc As (fun _ => True)) As := ⟨fun _ _ _ _ q => q, fun _ _ _ => ⟨rfl, trivial⟩⟩
theorem pre_anyV {s : State} {H : Heap} {As : List Value} {C : String} {b : Nat} (hr : ∃ cell : Cell, H[b]? = some cell ∧ cell.vm.isStatics = false ∧ s.vm.findClass C = some cell.cls) : PreV s H C b (va_Pc (.ref b :: As) (fun _ => True)) As := ⟨fun _ _ _ _ q => q, hr, fun _ _ _ => ⟨rfl, trivial⟩⟩
set_option maxHeartbeats 4000000 in
set_option maxRecDepth 100000 in
/-- Integer(v) -/
theorem mJ7_init (l : Launch) (G : gT) (q sz : Nat) (v : Int32) : Met l yJ7_init (ws_ yJ7_init cJ7_init 2 none) (rm_ 2 0 0 32) (Pw G (fun _ => 0) [] [.ref q, .int v] sz [(q, .inr (2, [.int 0]))]) (va_Qv (fun _ : Unit => True) (Bw G (va_A [(q, .inr (2, [.int 0]))] sz) (fun _ => [(q, .inr (2, [.int v]))])) (va_A [(q, .inr (2, [.int 0]))] sz)) 0 0 (va_A [(q, .inr (2, [.int 0]))] sz) := by
  refine Met.ofW (cc := cJ7_init) (maxL := 2) (ret := none) (by decide) rfl ?_
  intro p e s m args below meth c s₁ B hml hv
  obtain ⟨rfl, hsz, hP, hD0, hE, hB⟩ := hv
  have hx := B.exec
  have hb := B.bytes
  have hr := B.returns
  have hts := atoms_spec (ws := ws_ yJ7_init cJ7_init 2 none) B.pre
  have hts : ∀ w ∈ lw_all, w.before _ s = true := fun w h => hts w (List.mem_cons_of_mem _ h)
  have hin : meth.name = "<init>" := (name_of_methodNamed B.named B.method).1
  have hown : s.vm.findClass RJ7 = some m.cls := findClass_of_methodNamed B.named
  have hlocks := B.notSynchronized
  subst hsz
  have hD := hD0.self (sz := s.heap.size)
  generalize hAe : va_A ([(q, .inr (2, [.int 0]))]) s.heap.size = A at hD hE hB ⊢
  have hA : ∀ q : Nat, s.heap.size ≤ q → A q := fun q h => by rw [← hAe]; exact Or.inr h
  have hS : va_S A s.heap s.heap [] := va_S.rf
  have hl := lv_entry ([.ref q, .int v]) (n := 2) (Nat.le_of_ble_eq_true rfl)
  rw [lg_entry_eq]
  generalize (lg_sl ([.ref q, .int v]) ++ List.replicate (2 - (lg_sl ([.ref q, .int v])).length) Slot.unset).toArray = ls at hl ⊢
  have hl : lv_has ls 2 [(0, .ref q), (1, .int v)] := hl
  have hP : va_P G.1 clz ([(q, .inr (2, [.int 0]))]) _ := hP
  have hD : va_D A ([(q, .inr (2, [.int 0]))]) := hD
  refine lv_aload_n hx hb dJ7_init_0 rfl (lv_at hl 0 rfl) ?_
  refine va_csv (va_Run.run (va_runI (As := []) (rest := []) ⟨hx, hb, hml, hown, hts⟩ (mJ6_init l q) (cwI 0 hts (lw_meth q201) rfl rfl rfl (hts _ q13) (hts _ q199) (hts _ q200) rfl (by decide +kernel) ⟨Nat.le_of_ble_eq_true rfl, Nat.le_of_ble_eq_true rfl⟩) pre_any rfl rfl hl.1 rfl (lv_room (Nat.le_of_ble_eq_true rfl)) dJ7_init_1 ⟨Nat.le_refl _, Nat.le_refl _⟩)) (fun _ => ?_)
  refine lv_aload_n hx hb dJ7_init_4 rfl (lv_at hl 0 rfl) ?_
  refine lv_iload_n hx hb dJ7_init_5 rfl (lv_at hl 1 rfl) ?_
  refine va_putF (D := G.1) (ci := 2) (v := .int v) (ty := .int) (C := RJ7) (T := TJ7) (N := 1) hx hb hts in_J7 tyJ7 tyJ7_ok nmJ7 hown hE.1 hP hD hS 0 rfl rfl 0 (by decide) (hts _ q203) (fun _ h9 => h9) rfl hin rfl (by decide +kernel) (rfl) (rfl) (Nat.le_of_ble_eq_true rfl) dJ7_init_6 (fun H locs hP hD hS => ?_)
  have hP : va_P G.1 clz ([(q, .inr (2, [.int v]))]) _ := hP
  have hD : va_D A ([(q, .inr (2, [.int v]))]) := hD
  exact W.vret hx hb hr (fun t ht hW => ⟨⟨(), rfl, trivial, by rw [ht]; exact hP, hD⟩, hS.F ht⟩) hS.2.2 dJ7_init_9
set_option maxHeartbeats 4000000 in
set_option maxRecDepth 100000 in
/-- Integer.valueOf(v): a box of v, made or from the cache -/
theorem mJ7_valueOf (l : Launch) (G : gT) (sz : Nat) (v : Int32) : Met l yJ7_valueOf (ws_ yJ7_valueOf cJ7_valueOf 1 (some (.object "java/lang/Integer"))) (rm_ 3 1 1 53) (Pw G (fun _ => 0) [] [.int v] sz []) (va_Qr (fun _ : va_W => True) (fun (u : va_W) (q : Nat) (t : State) => (va_P G.1 clz u t.heap ∧ va_D (va_A [] sz) u) ∧ isbox G u q v) (va_A [] sz)) 1 1 (va_A [] sz) := by
  refine Met.ofW (cc := cJ7_valueOf) (maxL := 1) (ret := some (.object "java/lang/Integer")) (by decide) rfl ?_
  intro p e s m args below meth c s₁ B hml hv
  obtain ⟨rfl, hsz, hP, hD0, hE, hB⟩ := hv
  have hx := B.exec
  have hb := B.bytes
  have hr := B.returns
  have hts := atoms_spec (ws := ws_ yJ7_valueOf cJ7_valueOf 1 (some (.object "java/lang/Integer"))) B.pre
  have hts : ∀ w ∈ lw_all, w.before _ s = true := fun w h => hts w (List.mem_cons_of_mem _ h)
  have hown : s.vm.findClass RJ7 = some m.cls := findClass_of_methodNamed B.named
  have hlocks := B.notSynchronized
  subst hsz
  have hD := hD0.self (sz := s.heap.size)
  generalize hAe : va_A ([]) s.heap.size = A at hD hE hB ⊢
  have hA : ∀ q : Nat, s.heap.size ≤ q → A q := fun q h => by rw [← hAe]; exact Or.inr h
  have hS : va_S A s.heap s.heap [] := va_S.rf
  have hl := lv_entry ([.int v]) (n := 1) (Nat.le_of_ble_eq_true rfl)
  rw [lg_entry_eq]
  generalize (lg_sl ([.int v]) ++ List.replicate (1 - (lg_sl ([.int v])).length) Slot.unset).toArray = ls at hl ⊢
  have hl : lv_has ls 1 [(0, .int v)] := hl
  have hP : va_P G.1 clz ([]) _ := hP
  have hD : va_D A ([]) := hD
  refine lv_iload_n hx hb dJ7_valueOf_0 rfl (lv_at hl 0 rfl) ?_
  refine lv_bipush (v := (-128)) hx hb dJ7_valueOf_1 (by decide) ?_
  refine lv_icmp_lt (tgt := 23) hx hb dJ7_valueOf_3 (by decide) (fun c1 => ?_) (fun c1 => ?_)
  · refine va_new (ci := 2) (fs := [.int 0]) (C := RJ7) (T := TJ7) (N := 1) hx hb hts in_J7 tyJ7 tyJ7_ok hown (hts _ q194) (hts _ q195) (hts _ q14) hE.1 hP hD hS hA rfl (fun j hj => by rcases (show j = 0 by omega) with rfl <;> rfl) (Nat.le_of_ble_eq_true rfl) (Nat.le_of_ble_eq_true rfl) dJ7_valueOf_23 (fun q H hP hD hS => ?_)
    have hP : va_P G.1 clz ([(q, .inr (2, [.int 0]))]) _ := hP
    have hD : va_D A ([(q, .inr (2, [.int 0]))]) := hD
    refine lv_dup hx hb dJ7_valueOf_26 rfl ?_
    refine lv_iload_n hx hb dJ7_valueOf_27 rfl (lv_at hl 0 rfl) ?_
    have hc := cut_ (wc := [(q, .inr (2, [.int 0]))]) (wr := []) hE hP hD hS hA (List.Perm.refl _)
    refine cv_ (va_runI (As := [.int v]) (rest := [.ref q]) ⟨hx, hb, hml, hown, hts⟩ (mJ7_init l G q H.size v) (cwI 1 hts (lw_meth q198) rfl rfl rfl (hts _ q14) (hts _ q196) (hts _ q197) rfl (by decide +kernel) ⟨Nat.le_of_ble_eq_true rfl, Nat.le_of_ble_eq_true rfl⟩) (Pw.pre hc no_bx) rfl rfl hl.1 rfl (lv_room (Nat.le_of_ble_eq_true rfl)) dJ7_valueOf_28 ⟨Nat.le_of_ble_eq_true rfl, Nat.le_of_ble_eq_true rfl⟩) hP hD hS hc (List.Perm.refl _) (fun _ H locs _ hP hD hS => ?_)
    have hP : va_P G.1 clz ([(q, .inr (2, [.int v]))]) _ := hP
    have hD : va_D A ([(q, .inr (2, [.int v]))]) := hD
    exact W.aret hx hb hr (Or.inl ⟨_, rfl⟩) (Or.inr ⟨q, rfl⟩) (fun t ht hW => ⟨⟨[(q, .inr (2, [.int v]))], q, rfl, trivial, ⟨by rw [ht]; exact hP, hD⟩, Or.inl List.mem_cons_self⟩, hS.F ht⟩) hS.2.2 dJ7_valueOf_31
  · refine lv_iload_n hx hb dJ7_valueOf_6 rfl (lv_at hl 0 rfl) ?_
    refine va_gets hx hb hE.2.2.1 hS hown (hts _ q190) (fun _ h9 => h9) dJ7_valueOf_7 ?_
    refine lv_icmp_gt (tgt := 23) hx hb dJ7_valueOf_10 (by decide) (fun c2 => ?_) (fun c2 => ?_)
    · refine va_new (ci := 2) (fs := [.int 0]) (C := RJ7) (T := TJ7) (N := 1) hx hb hts in_J7 tyJ7 tyJ7_ok hown (hts _ q194) (hts _ q195) (hts _ q14) hE.1 hP hD hS hA rfl (fun j hj => by rcases (show j = 0 by omega) with rfl <;> rfl) (Nat.le_of_ble_eq_true rfl) (Nat.le_of_ble_eq_true rfl) dJ7_valueOf_23 (fun q H hP hD hS => ?_)
      have hP : va_P G.1 clz ([(q, .inr (2, [.int 0]))]) _ := hP
      have hD : va_D A ([(q, .inr (2, [.int 0]))]) := hD
      refine lv_dup hx hb dJ7_valueOf_26 rfl ?_
      refine lv_iload_n hx hb dJ7_valueOf_27 rfl (lv_at hl 0 rfl) ?_
      have hc := cut_ (wc := [(q, .inr (2, [.int 0]))]) (wr := []) hE hP hD hS hA (List.Perm.refl _)
      refine cv_ (va_runI (As := [.int v]) (rest := [.ref q]) ⟨hx, hb, hml, hown, hts⟩ (mJ7_init l G q H.size v) (cwI 1 hts (lw_meth q198) rfl rfl rfl (hts _ q14) (hts _ q196) (hts _ q197) rfl (by decide +kernel) ⟨Nat.le_of_ble_eq_true rfl, Nat.le_of_ble_eq_true rfl⟩) (Pw.pre hc no_bx) rfl rfl hl.1 rfl (lv_room (Nat.le_of_ble_eq_true rfl)) dJ7_valueOf_28 ⟨Nat.le_of_ble_eq_true rfl, Nat.le_of_ble_eq_true rfl⟩) hP hD hS hc (List.Perm.refl _) (fun _ H locs _ hP hD hS => ?_)
      have hP : va_P G.1 clz ([(q, .inr (2, [.int v]))]) _ := hP
      have hD : va_D A ([(q, .inr (2, [.int v]))]) := hD
      exact W.aret hx hb hr (Or.inl ⟨_, rfl⟩) (Or.inr ⟨q, rfl⟩) (fun t ht hW => ⟨⟨[(q, .inr (2, [.int v]))], q, rfl, trivial, ⟨by rw [ht]; exact hP, hD⟩, Or.inl List.mem_cons_self⟩, hS.F ht⟩) hS.2.2 dJ7_valueOf_31
    · refine va_gets hx hb hE.2.2.2.1 hS hown (hts _ q192) (fun _ h9 => h9) dJ7_valueOf_13 ?_
      refine lv_iload_n hx hb dJ7_valueOf_16 rfl (lv_at hl 0 rfl) ?_
      refine lv_sipush (v := 128) hx hb dJ7_valueOf_17 (by decide) ?_
      refine lv_iadd hx hb dJ7_valueOf_20 ?_
      obtain ⟨j, hj, ej, ev⟩ := bx_small c1 c2
      refine lt_i (y := nI j) (ej) ?_
      have hT : va_T (.object "java/lang/Integer") (gC G) 256 (fun k => .ref (gA G k)) A s s.heap := hE.2.2.2.2.1
      refine vb_tq hx hb hT hS (vp_in_nI hj (by omega)) (v := .ref (gA G j)) (by rw [nI_clamp (by omega)]) dJ7_valueOf_21 ?_
      refine W.widen (k := 1) (n := 1) (Nat.zero_le 1) (Nat.zero_le 1) ?_
      exact W.aret hx hb hr (Or.inl ⟨_, rfl⟩) (Or.inr ⟨gA G j, rfl⟩) (fun t ht hW => ⟨⟨[], gA G j, rfl, trivial, ⟨by rw [ht]; exact hP, hD⟩, Or.inr ⟨j, hj, rfl, ev⟩⟩, hS.F ht⟩) hS.2.2 dJ7_valueOf_22
end
section
/-! A HEAP: its constructors, what is asked of it, a new array -/
set_option maxRecDepth 100000
abbrev ho_ (h : Nat) (r : Option Nat) (ar n : Nat) : Nat × va_E := (h, .inr (0, [va_rf r, .ref ar, .int (nI n), .int 16]))
abbrev oa_ (G : gT) (ar cap : Nat) (f : Nat → Option Nat) : Nat × va_E := (ar, .inl (gO G, cap + 1, .inr (.inr (.inr (.inr f)))))
/-- a heap's two cells: the object with comparator r, array ar, n keys; the array of cap + 1 places -/
abbrev hw_ (G : gT) (h : Nat) (r : Option Nat) (ar n cap : Nat) (f : Nat → Option Nat) : va_W := [ho_ h r ar n, oa_ G ar cap f]
theorem z_iff {n : Nat} (h : n < 2 ^ 31) : nI n = 0 ↔ n = 0 := by rw [← nI_0]; exact nI_eq h (by decide)
theorem nn_s1 {n : Nat} (h : 1 ≤ n) : nI n - 1 = nI (n - 1) := by
  rw [show (1 : Int32) = nI 1 from rfl]
  exact pk_sub h
theorem nn_ge {n : Nat} (h : n < 2 ^ 31) : (0 : Int32) ≤ nI n := nI_pos' h
theorem cl_1 : (1 : Int32).toNatClampNeg = 1 := by decide
theorem rf_or (r : Option Nat) : va_rf r = .null ∨ ∃ a, va_rf r = .ref a := va_rf_or r
theorem cpy_1 {f g : Nat → Option Nat} {n i : Nat} (h1 : 1 ≤ i) (h2 : i ≤ n) : va_cpy f g 1 1 n i = f i := by rw [pk_cpy_in (by omega) (by omega), show 1 + (i - 1) = i by omega]
theorem max16 {k : Nat} (hk : k ≤ 16) : (if nI k < 16 then (16 : Int32) else nI k) = 16 := by
  rcases Nat.lt_or_ge k 16 with h9 | h9
  · exact if_pos (by rw [show (16 : Int32) = nI 16 from rfl]; exact nI_lt h9 (by omega))
  · rw [if_neg (by rw [show (16 : Int32) = nI 16 from rfl]; exact nI_nlt h9 (by omega)), show k = 16 by omega]
    rfl
theorem fit_cmp (r : Option Nat) : narrow (.object "java/util/Comparator") (va_rf r) = va_rf r := by cases r <;> rfl
theorem fit_cmp2 (r : Option Nat) : fits (.object "java/util/Comparator") (va_rf r) = true := by cases r <;> rfl
set_option maxHeartbeats 4000000 in
set_option maxRecDepth 100000 in
/-- checkCapacity(k): nothing -/
theorem mX2_checkCapacity (l : Launch) (h k : Nat) (hk : k ≤ 1000000) : Met l yX2_checkCapacity (ws_ yX2_checkCapacity cX2_checkCapacity 2 none) (rm_ 0 0 0 0) (va_Pc [.ref h, .int (nI k)] (fun _ => True)) (va_Sv (fun _ => True)) 0 0 (fun _ => False) := by
  refine Met.ofW (cc := cX2_checkCapacity) (maxL := 2) (ret := none) (by decide) rfl ?_
  intro p e s m args below meth c s₁ B hml hv
  obtain ⟨rfl, -⟩ := hv
  have hx := B.exec
  have hb := B.bytes
  have hr := B.returns
  have hts := atoms_spec (ws := ws_ yX2_checkCapacity cX2_checkCapacity 2 none) B.pre
  have hts : ∀ w ∈ lw_all, w.before _ s = true := fun w h => hts w (List.mem_cons_of_mem _ h)
  have hown : s.vm.findClass RX2 = some m.cls := findClass_of_methodNamed B.named
  have hlocks := B.notSynchronized
  have hl := lv_entry ([.ref h, .int (nI k)]) (n := 2) (Nat.le_of_ble_eq_true rfl)
  rw [lg_entry_eq]
  generalize (lg_sl ([.ref h, .int (nI k)]) ++ List.replicate (2 - (lg_sl ([.ref h, .int (nI k)])).length) Slot.unset).toArray = ls at hl ⊢
  have hl : lv_has ls 2 [(0, .ref h), (1, .int (nI k))] := hl
  refine lv_iload_n hx hb dX2_checkCapacity_0 rfl (lv_at hl 1 rfl) ?_
  refine lv_if_ge (tgt := 14) hx hb dX2_checkCapacity_1 (by decide) (fun c1 => ?_) (fun c1 => ?_)
  · refine lv_iload_n hx hb dX2_checkCapacity_14 rfl (lv_at hl 1 rfl) ?_
    refine lv_ldc (v := 2147483638) hx hb hown (hts _ q131) dX2_checkCapacity_15 ?_
    refine lv_icmp_le (tgt := 30) hx hb dX2_checkCapacity_17 (by decide) (fun c2 => ?_) (fun c2 => ?_)
    · exact W.vret hx hb hr (fun t ht hW => ⟨rfl, trivial, ht⟩) no_loc dX2_checkCapacity_30
    · exact absurd (by rw [show (2147483638 : Int32) = nI 2147483638 from rfl]; exact nI_le (by omega) (by omega)) c2
  · exact absurd (nn_ge (by omega)) c1
set_option maxHeartbeats 4000000 in
set_option maxRecDepth 100000 in
/-- initCapacity(16): an array of 17 -/
theorem mX3_initCapacity (l : Launch) (G : gT) (h sz : Nat) (r : Option Nat) : Met l yX3_initCapacity (ws_ yX3_initCapacity cX3_initCapacity 2 none) (rm_ 0 1 17 0) (Pw G (fun _ => 0) [] [.ref h, .int 16] sz [(h, .inr (0, [va_rf r, .null, .int (nI 0), .int 16]))]) (va_Qv (fun _ : Nat => True) (Bw G (va_A [(h, .inr (0, [va_rf r, .null, .int (nI 0), .int 16]))] sz) (fun ar => hw_ G h r ar 0 16 (fun _ => none))) (va_A [(h, .inr (0, [va_rf r, .null, .int (nI 0), .int 16]))] sz)) 1 17 (va_A [(h, .inr (0, [va_rf r, .null, .int (nI 0), .int 16]))] sz) := by
  refine Met.ofW (cc := cX3_initCapacity) (maxL := 2) (ret := none) (by decide) rfl ?_
  intro p e s m args below meth c s₁ B hml hv
  obtain ⟨rfl, hsz, hP, hD0, hE, hB⟩ := hv
  have hx := B.exec
  have hb := B.bytes
  have hr := B.returns
  have hts := atoms_spec (ws := ws_ yX3_initCapacity cX3_initCapacity 2 none) B.pre
  have hts : ∀ w ∈ lw_all, w.before _ s = true := fun w h => hts w (List.mem_cons_of_mem _ h)
  have hown : s.vm.findClass RX3 = some m.cls := findClass_of_methodNamed B.named
  have hlocks := B.notSynchronized
  subst hsz
  have hD := hD0.self (sz := s.heap.size)
  generalize hAe : va_A ([(h, .inr (0, [va_rf r, .null, .int (nI 0), .int 16]))]) s.heap.size = A at hD hE hB ⊢
  have hA : ∀ q : Nat, s.heap.size ≤ q → A q := fun q h => by rw [← hAe]; exact Or.inr h
  have hS : va_S A s.heap s.heap [] := va_S.rf
  have hl := lv_entry ([.ref h, .int 16]) (n := 2) (Nat.le_of_ble_eq_true rfl)
  rw [lg_entry_eq]
  generalize (lg_sl ([.ref h, .int 16]) ++ List.replicate (2 - (lg_sl ([.ref h, .int 16])).length) Slot.unset).toArray = ls at hl ⊢
  have hl : lv_has ls 2 [(0, .ref h), (1, .int 16)] := hl
  have hP : va_P G.1 clz ([(h, .inr (0, [va_rf r, .null, .int (nI 0), .int 16]))]) _ := hP
  have hD : va_D A ([(h, .inr (0, [va_rf r, .null, .int (nI 0), .int 16]))]) := hD
  refine lv_aload_n hx hb dX3_initCapacity_0 rfl (lv_at hl 0 rfl) ?_
  refine lv_iload_n hx hb dX3_initCapacity_1 rfl (lv_at hl 1 rfl) ?_
  refine lv_iconst (v := 1) hx hb dX3_initCapacity_2 (by decide) ?_
  refine lv_iadd hx hb dX3_initCapacity_3 ?_
  refine lt_i (y := 17) (by decide) ?_
  refine va_newq hx hb hown (hts _ q142) hE.2.1.1.1 hE.1 hP hD hS hA (N' := 17) (by decide) (by decide) (Nat.le_of_ble_eq_true rfl) (Nat.le_of_ble_eq_true rfl) (Nat.le_of_ble_eq_true rfl) dX3_initCapacity_4 (fun ar cA H hK9 hP hD hS => ?_)
  have ecA : cA = gO G := RA_uniq (hK9.2 5 (cA, .object "java/lang/Object") rfl).2 (hE.1.2 0 (gO G, .object "java/lang/Object") rfl).2
  subst ecA
  have hP : va_P G.1 clz ([(h, .inr (0, [va_rf r, .null, .int (nI 0), .int 16])), (ar, .inl (gO G, 17, .inr (.inr (.inr (.inr (fun _ => none))))))]) _ := hP
  have hD : va_D A ([(h, .inr (0, [va_rf r, .null, .int (nI 0), .int 16])), (ar, .inl (gO G, 17, .inr (.inr (.inr (.inr (fun _ => none))))))]) := hD
  refine va_put (D := G.1) (ci := 0) (v := .ref ar) (ty := .array (.object "java/lang/Object")) (C := RX4) (T := TX4) (N := 4) hx hb hts in_X4 tyX4 tyX4_ok nmX4 hown hE.1 hP hD hS 0 rfl rfl 1 (by decide) (hts _ q149) (fun x9 h9 => u_same (hts _ q150) x9 h9) rfl (by decide +kernel) (rfl) (rfl) (Nat.le_of_ble_eq_true rfl) dX3_initCapacity_7 (fun H locs hP hD hS => ?_)
  have hP : va_P G.1 clz (hw_ G h r ar 0 16 (fun _ => none)) _ := hP
  have hD : va_D A (hw_ G h r ar 0 16 (fun _ => none)) := hD
  exact W.vret hx hb hr (fun t ht hW => ⟨⟨ar, rfl, trivial, by rw [ht]; exact hP, hD⟩, hS.F ht⟩) hS.2.2 dX3_initCapacity_10
set_option maxHeartbeats 4000000 in
set_option maxRecDepth 100000 in
/-- AbstractArrayWeakHeap(r, k) -/
theorem mX2_init (l : Launch) (G : gT) (h sz k : Nat) (r : Option Nat) (hk : k ≤ 16) : Met l yX2_init (ws_ yX2_init cX2_init 3 none) (rm_ 1 1 17 21) (Pw G (fun _ => 0) [] [.ref h, va_rf r, .int (nI k)] sz [(h, .inr (0, [.null, .null, .int 0, .int 0]))]) (va_Qv (fun _ : Nat => True) (Bw G (va_A [(h, .inr (0, [.null, .null, .int 0, .int 0]))] sz) (fun ar => hw_ G h r ar 0 16 (fun _ => none))) (va_A [(h, .inr (0, [.null, .null, .int 0, .int 0]))] sz)) 1 17 (va_A [(h, .inr (0, [.null, .null, .int 0, .int 0]))] sz) := by
  refine Met.ofW (cc := cX2_init) (maxL := 3) (ret := none) (by decide) rfl ?_
  intro p e s m args below meth c s₁ B hml hv
  obtain ⟨rfl, hsz, hP, hD0, hE, hB⟩ := hv
  have hx := B.exec
  have hb := B.bytes
  have hr := B.returns
  have hts := atoms_spec (ws := ws_ yX2_init cX2_init 3 none) B.pre
  have hts : ∀ w ∈ lw_all, w.before _ s = true := fun w h => hts w (List.mem_cons_of_mem _ h)
  have hin : meth.name = "<init>" := (name_of_methodNamed B.named B.method).1
  have hown : s.vm.findClass RX2 = some m.cls := findClass_of_methodNamed B.named
  have hlocks := B.notSynchronized
  subst hsz
  have hD := hD0.self (sz := s.heap.size)
  generalize hAe : va_A ([(h, .inr (0, [.null, .null, .int 0, .int 0]))]) s.heap.size = A at hD hE hB ⊢
  have hA : ∀ q : Nat, s.heap.size ≤ q → A q := fun q h => by rw [← hAe]; exact Or.inr h
  have hS : va_S A s.heap s.heap [] := va_S.rf
  have hl : lv_has (lg_sl ([.ref h, va_rf r, .int (nI k)]) ++ List.replicate (3 - (lg_sl ([.ref h, va_rf r, .int (nI k)])).length) Slot.unset).toArray 3 [(0, .ref h), (1, va_rf r), (2, .int (nI k))] := by cases r <;> exact lv_entry (n := 3) _ (Nat.le_of_ble_eq_true rfl)
  rw [lg_entry_eq]
  generalize (lg_sl ([.ref h, va_rf r, .int (nI k)]) ++ List.replicate (3 - (lg_sl ([.ref h, va_rf r, .int (nI k)])).length) Slot.unset).toArray = ls at hl ⊢
  have hP : va_P G.1 clz ([(h, .inr (0, [.null, .null, .int 0, .int 0]))]) _ := hP
  have hD : va_D A ([(h, .inr (0, [.null, .null, .int 0, .int 0]))]) := hD
  refine lv_aload_n hx hb dX2_init_0 rfl (lv_at hl 0 rfl) ?_
  refine W.objInit hx hb hown (hts _ q44) (hts _ q24) (hts _ q25) rfl (by rw [hml]; exact hl.1) rfl dX2_init_1 (Nat.le_of_ble_eq_true rfl) (Nat.le_of_ble_eq_true rfl) ?_
  refine W.eq (g2 := F0 m 4 ls []) rfl ?_
  refine lv_aload_n hx hb dX2_init_4 rfl (lv_at hl 0 rfl) ?_
  refine lv_iload_n hx hb dX2_init_5 rfl (lv_at hl 2 rfl) ?_
  refine va_csv (va_Run.run (va_runU (C := RX4) (As := [.int (nI k)]) (rest := []) ⟨hx, hb, hml, hown, hts⟩ (mX2_checkCapacity l h k (by omega)) (va_cwU 1 hts (lw_U q45 q47 q48 q46 q4 q49) rfl rfl rfl rfl (by decide +kernel) ⟨Nat.le_of_ble_eq_true rfl, Nat.le_of_ble_eq_true rfl⟩) (pre_anyV (va_recv hE.1 hP (ci := 0) (q0 := 0) rfl rfl)) rfl rfl hl.1 rfl (lv_room (Nat.le_of_ble_eq_true rfl)) dX2_init_6 ⟨Nat.le_of_ble_eq_true rfl, Nat.le_of_ble_eq_true rfl⟩)) (fun _ => ?_)
  refine lv_aload_n hx hb dX2_init_9 rfl (lv_at hl 0 rfl) ?_
  refine lv_iconst (v := 0) hx hb dX2_init_10 (by decide) ?_
  refine lt_i (y := nI 0) (nI_0.symm) ?_
  refine va_put (D := G.1) (ci := 0) (v := .int (nI 0)) (ty := .int) (C := RX4) (T := TX4) (N := 4) hx hb hts in_X4 tyX4 tyX4_ok nmX4 hown hE.1 hP hD hS 0 rfl rfl 2 (by decide) (hts _ q153) (fun _ h9 => h9) rfl (by decide +kernel) (rfl) (rfl) (Nat.le_of_ble_eq_true rfl) dX2_init_11 (fun H locs hP hD hS => ?_)
  have hP : va_P G.1 clz ([(h, .inr (0, [.null, .null, .int (nI 0), .int 0]))]) _ := hP
  have hD : va_D A ([(h, .inr (0, [.null, .null, .int (nI 0), .int 0]))]) := hD
  refine lv_aload_n hx hb dX2_init_14 rfl (lv_at hl 0 rfl) ?_
  refine ql_aload_n hx hb dX2_init_15 rfl (lv_at hl 1 rfl) ?_
  refine va_putF (D := G.1) (ci := 0) (v := va_rf r) (ty := .object "java/util/Comparator") (C := RX4) (T := TX4) (N := 4) hx hb hts in_X4 tyX4 tyX4_ok nmX4 hown hE.1 hP hD hS 0 rfl rfl 0 (by decide) (hts _ q144) (fun _ h9 => h9) rfl hin rfl (by decide +kernel) (fit_cmp r) (fit_cmp2 r) (Nat.le_of_ble_eq_true rfl) dX2_init_16 (fun H locs hP hD hS => ?_)
  have hP : va_P G.1 clz ([(h, .inr (0, [va_rf r, .null, .int (nI 0), .int 0]))]) _ := hP
  have hD : va_D A ([(h, .inr (0, [va_rf r, .null, .int (nI 0), .int 0]))]) := hD
  refine lv_aload_n hx hb dX2_init_19 rfl (lv_at hl 0 rfl) ?_
  refine lv_iload_n hx hb dX2_init_20 rfl (lv_at hl 2 rfl) ?_
  refine lv_bipush (v := 16) hx hb dX2_init_21 (by decide) ?_
  refine va_mmax hx hb (hml.trans hl.1.symm) hown (hts _ q133) (hts _ q134) (hts _ q11) (hts _ q135) (Nat.le_of_ble_eq_true rfl) (Nat.le_of_ble_eq_true rfl) (Nat.le_of_ble_eq_true rfl) (Nat.le_of_ble_eq_true rfl) dX2_init_23 ?_
  refine lt_i (y := 16) (max16 hk) ?_
  refine va_putF (D := G.1) (ci := 0) (v := .int 16) (ty := .int) (C := RX4) (T := TX4) (N := 4) hx hb hts in_X4 tyX4 tyX4_ok nmX4 hown hE.1 hP hD hS 0 rfl rfl 3 (by decide) (hts _ q158) (fun _ h9 => h9) rfl hin rfl (by decide +kernel) (rfl) (rfl) (Nat.le_of_ble_eq_true rfl) dX2_init_26 (fun H locs hP hD hS => ?_)
  have hP : va_P G.1 clz ([(h, .inr (0, [va_rf r, .null, .int (nI 0), .int 16]))]) _ := hP
  have hD : va_D A ([(h, .inr (0, [va_rf r, .null, .int (nI 0), .int 16]))]) := hD
  refine lv_aload_n hx hb dX2_init_29 rfl (lv_at hl 0 rfl) ?_
  refine lv_aload_n hx hb dX2_init_30 rfl (lv_at hl 0 rfl) ?_
  refine va_get (D := G.1) (ci := 0) (v := .int 16) (C := RX4) (T := TX4) (N := 4) hx hb hts in_X4 hown hE.1 hP 0 rfl rfl 3 (by decide) (hts _ q158) (fun _ h9 => h9) rfl dX2_init_31 ?_
  have hc := cut_ (wc := [(h, .inr (0, [va_rf r, .null, .int (nI 0), .int 16]))]) (wr := []) hE hP hD hS hA (List.Perm.refl _)
  refine cv_ (va_runU (C := RX4) (As := [.int 16]) (rest := []) ⟨hx, hb, hml, hown, hts⟩ (mX3_initCapacity l G h H.size r) (va_cwA 1 hts (lw_U q136 q138 q139 q140 q5 q141) rfl rfl rfl (hE.dc 0 rfl) (by decide +kernel) ⟨Nat.le_of_ble_eq_true rfl, Nat.le_of_ble_eq_true rfl⟩) (Pw.preV hc no_bx (va_recv hE.1 hP (ci := 0) (q0 := 0) rfl rfl)) rfl rfl hl.1 rfl (lv_room (Nat.le_of_ble_eq_true rfl)) dX2_init_34 ⟨Nat.le_of_ble_eq_true rfl, Nat.le_of_ble_eq_true rfl⟩) hP hD hS hc (List.Perm.refl _) (fun ar H locs _ hP hD hS => ?_)
  have hP : va_P G.1 clz (hw_ G h r ar 0 16 (fun _ => none)) _ := hP
  have hD : va_D A (hw_ G h r ar 0 16 (fun _ => none)) := hD
  exact W.vret hx hb hr (fun t ht hW => ⟨⟨ar, rfl, trivial, by rw [ht]; exact hP, hD⟩, hS.F ht⟩) hS.2.2 dX2_init_37
set_option maxHeartbeats 4000000 in
set_option maxRecDepth 100000 in
/-- AbstractArrayHeap(r, k) -/
theorem mX3_init (l : Launch) (G : gT) (h sz k : Nat) (r : Option Nat) (hk : k ≤ 16) : Met l yX3_init (ws_ yX3_init cX3_init 3 none) (rm_ 2 1 17 43) (Pw G (fun _ => 0) [] [.ref h, va_rf r, .int (nI k)] sz [(h, .inr (0, [.null, .null, .int 0, .int 0]))]) (va_Qv (fun _ : Nat => True) (Bw G (va_A [(h, .inr (0, [.null, .null, .int 0, .int 0]))] sz) (fun ar => hw_ G h r ar 0 16 (fun _ => none))) (va_A [(h, .inr (0, [.null, .null, .int 0, .int 0]))] sz)) 1 17 (va_A [(h, .inr (0, [.null, .null, .int 0, .int 0]))] sz) := by
  refine Met.ofW (cc := cX3_init) (maxL := 3) (ret := none) (by decide) rfl ?_
  intro p e s m args below meth c s₁ B hml hv
  obtain ⟨rfl, hsz, hP, hD0, hE, hB⟩ := hv
  have hx := B.exec
  have hb := B.bytes
  have hr := B.returns
  have hts := atoms_spec (ws := ws_ yX3_init cX3_init 3 none) B.pre
  have hts : ∀ w ∈ lw_all, w.before _ s = true := fun w h => hts w (List.mem_cons_of_mem _ h)
  have hown : s.vm.findClass RX3 = some m.cls := findClass_of_methodNamed B.named
  have hlocks := B.notSynchronized
  subst hsz
  have hD := hD0.self (sz := s.heap.size)
  generalize hAe : va_A ([(h, .inr (0, [.null, .null, .int 0, .int 0]))]) s.heap.size = A at hD hE hB ⊢
  have hA : ∀ q : Nat, s.heap.size ≤ q → A q := fun q h => by rw [← hAe]; exact Or.inr h
  have hS : va_S A s.heap s.heap [] := va_S.rf
  have hl : lv_has (lg_sl ([.ref h, va_rf r, .int (nI k)]) ++ List.replicate (3 - (lg_sl ([.ref h, va_rf r, .int (nI k)])).length) Slot.unset).toArray 3 [(0, .ref h), (1, va_rf r), (2, .int (nI k))] := by cases r <;> exact lv_entry (n := 3) _ (Nat.le_of_ble_eq_true rfl)
  rw [lg_entry_eq]
  generalize (lg_sl ([.ref h, va_rf r, .int (nI k)]) ++ List.replicate (3 - (lg_sl ([.ref h, va_rf r, .int (nI k)])).length) Slot.unset).toArray = ls at hl ⊢
  have hP : va_P G.1 clz ([(h, .inr (0, [.null, .null, .int 0, .int 0]))]) _ := hP
  have hD : va_D A ([(h, .inr (0, [.null, .null, .int 0, .int 0]))]) := hD
  refine lv_aload_n hx hb dX3_init_0 rfl (lv_at hl 0 rfl) ?_
  refine ql_aload_n hx hb dX3_init_1 rfl (lv_at hl 1 rfl) ?_
  refine lv_iload_n hx hb dX3_init_2 rfl (lv_at hl 2 rfl) ?_
  have hc := cut_ (wc := [(h, .inr (0, [.null, .null, .int 0, .int 0]))]) (wr := []) hE hP hD hS hA (List.Perm.refl _)
  refine cv_ (va_runI (As := [va_rf r, .int (nI k)]) (rest := []) ⟨hx, hb, hml, hown, hts⟩ (mX2_init l G h _ k r hk) (cwI 2 hts (lw_meth q43) rfl rfl rfl (hts _ q4) (hts _ q41) (hts _ q42) rfl (by decide +kernel) ⟨Nat.le_of_ble_eq_true rfl, Nat.le_of_ble_eq_true rfl⟩) (Pw.pre hc no_bx) rfl rfl hl.1 rfl (lv_room (Nat.le_of_ble_eq_true rfl)) dX3_init_3 ⟨Nat.le_of_ble_eq_true rfl, Nat.le_of_ble_eq_true rfl⟩) hP hD hS hc (List.Perm.refl _) (fun ar H locs _ hP hD hS => ?_)
  have hP : va_P G.1 clz (hw_ G h r ar 0 16 (fun _ => none)) _ := hP
  have hD : va_D A (hw_ G h r ar 0 16 (fun _ => none)) := hD
  exact W.vret hx hb hr (fun t ht hW => ⟨⟨ar, rfl, trivial, by rw [ht]; exact hP, hD⟩, hS.F ht⟩) hS.2.2 dX3_init_6
set_option maxHeartbeats 4000000 in
set_option maxRecDepth 100000 in
/-- BinaryArrayHeap() -/
theorem mX4_init (l : Launch) (G : gT) (h sz : Nat) : Met l yX4_init (ws_ yX4_init cX4_init 1 none) (rm_ 3 1 17 65) (Pw G (fun _ => 0) [] [.ref h] sz [(h, .inr (0, [.null, .null, .int 0, .int 0]))]) (va_Qv (fun _ : Nat => True) (Bw G (va_A [(h, .inr (0, [.null, .null, .int 0, .int 0]))] sz) (fun ar => hw_ G h none ar 0 16 (fun _ => none))) (va_A [(h, .inr (0, [.null, .null, .int 0, .int 0]))] sz)) 1 17 (va_A [(h, .inr (0, [.null, .null, .int 0, .int 0]))] sz) := by
  refine Met.ofW (cc := cX4_init) (maxL := 1) (ret := none) (by decide) rfl ?_
  intro p e s m args below meth c s₁ B hml hv
  obtain ⟨rfl, hsz, hP, hD0, hE, hB⟩ := hv
  have hx := B.exec
  have hb := B.bytes
  have hr := B.returns
  have hts := atoms_spec (ws := ws_ yX4_init cX4_init 1 none) B.pre
  have hts : ∀ w ∈ lw_all, w.before _ s = true := fun w h => hts w (List.mem_cons_of_mem _ h)
  have hown : s.vm.findClass RX4 = some m.cls := findClass_of_methodNamed B.named
  have hlocks := B.notSynchronized
  subst hsz
  have hD := hD0.self (sz := s.heap.size)
  generalize hAe : va_A ([(h, .inr (0, [.null, .null, .int 0, .int 0]))]) s.heap.size = A at hD hE hB ⊢
  have hA : ∀ q : Nat, s.heap.size ≤ q → A q := fun q h => by rw [← hAe]; exact Or.inr h
  have hS : va_S A s.heap s.heap [] := va_S.rf
  have hl := lv_entry ([.ref h]) (n := 1) (Nat.le_of_ble_eq_true rfl)
  rw [lg_entry_eq]
  generalize (lg_sl ([.ref h]) ++ List.replicate (1 - (lg_sl ([.ref h])).length) Slot.unset).toArray = ls at hl ⊢
  have hl : lv_has ls 1 [(0, .ref h)] := hl
  have hP : va_P G.1 clz ([(h, .inr (0, [.null, .null, .int 0, .int 0]))]) _ := hP
  have hD : va_D A ([(h, .inr (0, [.null, .null, .int 0, .int 0]))]) := hD
  refine lv_aload_n hx hb dX4_init_0 rfl (lv_at hl 0 rfl) ?_
  refine lv_null hx hb dX4_init_1 ?_
  refine lt_q (y := va_rf none) (rfl) ?_
  refine lv_bipush (v := 16) hx hb dX4_init_2 (by decide) ?_
  refine lt_i (y := nI 16) (rfl) ?_
  have hc := cut_ (wc := [(h, .inr (0, [.null, .null, .int 0, .int 0]))]) (wr := []) hE hP hD hS hA (List.Perm.refl _)
  refine cv_ (va_runI (As := [va_rf none, .int (nI 16)]) (rest := []) ⟨hx, hb, hml, hown, hts⟩ (mX3_init l G h _ 16 none (by decide)) (cwI 2 hts (lw_meth q40) rfl rfl rfl (hts _ q5) (hts _ q38) (hts _ q39) rfl (by decide +kernel) ⟨Nat.le_of_ble_eq_true rfl, Nat.le_of_ble_eq_true rfl⟩) (Pw.pre hc no_bx) rfl rfl hl.1 rfl (lv_room (Nat.le_of_ble_eq_true rfl)) dX4_init_4 ⟨Nat.le_of_ble_eq_true rfl, Nat.le_of_ble_eq_true rfl⟩) hP hD hS hc (List.Perm.refl _) (fun ar H locs _ hP hD hS => ?_)
  have hP : va_P G.1 clz (hw_ G h none ar 0 16 (fun _ => none)) _ := hP
  have hD : va_D A (hw_ G h none ar 0 16 (fun _ => none)) := hD
  exact W.vret hx hb hr (fun t ht hW => ⟨⟨ar, rfl, trivial, by rw [ht]; exact hP, hD⟩, hS.F ht⟩) hS.2.2 dX4_init_7
set_option maxHeartbeats 4000000 in
set_option maxRecDepth 100000 in
/-- BinaryArrayHeap(r) -/
theorem mX4_init_2 (l : Launch) (G : gT) (h sz : Nat) (r : Option Nat) : Met l yX4_init_2 (ws_ yX4_init_2 cX4_init_2 2 none) (rm_ 3 1 17 65) (Pw G (fun _ => 0) [] [.ref h, va_rf r] sz [(h, .inr (0, [.null, .null, .int 0, .int 0]))]) (va_Qv (fun _ : Nat => True) (Bw G (va_A [(h, .inr (0, [.null, .null, .int 0, .int 0]))] sz) (fun ar => hw_ G h r ar 0 16 (fun _ => none))) (va_A [(h, .inr (0, [.null, .null, .int 0, .int 0]))] sz)) 1 17 (va_A [(h, .inr (0, [.null, .null, .int 0, .int 0]))] sz) := by
  refine Met.ofW (cc := cX4_init_2) (maxL := 2) (ret := none) (by decide) rfl ?_
  intro p e s m args below meth c s₁ B hml hv
  obtain ⟨rfl, hsz, hP, hD0, hE, hB⟩ := hv
  have hx := B.exec
  have hb := B.bytes
  have hr := B.returns
  have hts := atoms_spec (ws := ws_ yX4_init_2 cX4_init_2 2 none) B.pre
  have hts : ∀ w ∈ lw_all, w.before _ s = true := fun w h => hts w (List.mem_cons_of_mem _ h)
  have hown : s.vm.findClass RX4 = some m.cls := findClass_of_methodNamed B.named
  have hlocks := B.notSynchronized
  subst hsz
  have hD := hD0.self (sz := s.heap.size)
  generalize hAe : va_A ([(h, .inr (0, [.null, .null, .int 0, .int 0]))]) s.heap.size = A at hD hE hB ⊢
  have hA : ∀ q : Nat, s.heap.size ≤ q → A q := fun q h => by rw [← hAe]; exact Or.inr h
  have hS : va_S A s.heap s.heap [] := va_S.rf
  have hl : lv_has (lg_sl ([.ref h, va_rf r]) ++ List.replicate (2 - (lg_sl ([.ref h, va_rf r])).length) Slot.unset).toArray 2 [(0, .ref h), (1, va_rf r)] := by cases r <;> exact lv_entry (n := 2) _ (Nat.le_of_ble_eq_true rfl)
  rw [lg_entry_eq]
  generalize (lg_sl ([.ref h, va_rf r]) ++ List.replicate (2 - (lg_sl ([.ref h, va_rf r])).length) Slot.unset).toArray = ls at hl ⊢
  have hP : va_P G.1 clz ([(h, .inr (0, [.null, .null, .int 0, .int 0]))]) _ := hP
  have hD : va_D A ([(h, .inr (0, [.null, .null, .int 0, .int 0]))]) := hD
  refine lv_aload_n hx hb dX4_init_2_0 rfl (lv_at hl 0 rfl) ?_
  refine ql_aload_n hx hb dX4_init_2_1 rfl (lv_at hl 1 rfl) ?_
  refine lv_bipush (v := 16) hx hb dX4_init_2_2 (by decide) ?_
  refine lt_i (y := nI 16) (rfl) ?_
  have hc := cut_ (wc := [(h, .inr (0, [.null, .null, .int 0, .int 0]))]) (wr := []) hE hP hD hS hA (List.Perm.refl _)
  refine cv_ (va_runI (As := [va_rf r, .int (nI 16)]) (rest := []) ⟨hx, hb, hml, hown, hts⟩ (mX3_init l G h _ 16 r (by decide)) (cwI 2 hts (lw_meth q40) rfl rfl rfl (hts _ q5) (hts _ q38) (hts _ q39) rfl (by decide +kernel) ⟨Nat.le_of_ble_eq_true rfl, Nat.le_of_ble_eq_true rfl⟩) (Pw.pre hc no_bx) rfl rfl hl.1 rfl (lv_room (Nat.le_of_ble_eq_true rfl)) dX4_init_2_4 ⟨Nat.le_of_ble_eq_true rfl, Nat.le_of_ble_eq_true rfl⟩) hP hD hS hc (List.Perm.refl _) (fun ar H locs _ hP hD hS => ?_)
  have hP : va_P G.1 clz (hw_ G h r ar 0 16 (fun _ => none)) _ := hP
  have hD : va_D A (hw_ G h r ar 0 16 (fun _ => none)) := hD
  exact W.vret hx hb hr (fun t ht hW => ⟨⟨ar, rfl, trivial, by rw [ht]; exact hP, hD⟩, hS.F ht⟩) hS.2.2 dX4_init_2_7
set_option maxHeartbeats 4000000 in
set_option maxRecDepth 100000 in
/-- BinaryArrayHeap(k) -/
theorem mX4_init_3 (l : Launch) (G : gT) (h sz k : Nat) (hk : k ≤ 16) : Met l yX4_init_3 (ws_ yX4_init_3 cX4_init_3 2 none) (rm_ 3 1 17 65) (Pw G (fun _ => 0) [] [.ref h, .int (nI k)] sz [(h, .inr (0, [.null, .null, .int 0, .int 0]))]) (va_Qv (fun _ : Nat => True) (Bw G (va_A [(h, .inr (0, [.null, .null, .int 0, .int 0]))] sz) (fun ar => hw_ G h none ar 0 16 (fun _ => none))) (va_A [(h, .inr (0, [.null, .null, .int 0, .int 0]))] sz)) 1 17 (va_A [(h, .inr (0, [.null, .null, .int 0, .int 0]))] sz) := by
  refine Met.ofW (cc := cX4_init_3) (maxL := 2) (ret := none) (by decide) rfl ?_
  intro p e s m args below meth c s₁ B hml hv
  obtain ⟨rfl, hsz, hP, hD0, hE, hB⟩ := hv
  have hx := B.exec
  have hb := B.bytes
  have hr := B.returns
  have hts := atoms_spec (ws := ws_ yX4_init_3 cX4_init_3 2 none) B.pre
  have hts : ∀ w ∈ lw_all, w.before _ s = true := fun w h => hts w (List.mem_cons_of_mem _ h)
  have hown : s.vm.findClass RX4 = some m.cls := findClass_of_methodNamed B.named
  have hlocks := B.notSynchronized
  subst hsz
  have hD := hD0.self (sz := s.heap.size)
  generalize hAe : va_A ([(h, .inr (0, [.null, .null, .int 0, .int 0]))]) s.heap.size = A at hD hE hB ⊢
  have hA : ∀ q : Nat, s.heap.size ≤ q → A q := fun q h => by rw [← hAe]; exact Or.inr h
  have hS : va_S A s.heap s.heap [] := va_S.rf
  have hl := lv_entry ([.ref h, .int (nI k)]) (n := 2) (Nat.le_of_ble_eq_true rfl)
  rw [lg_entry_eq]
  generalize (lg_sl ([.ref h, .int (nI k)]) ++ List.replicate (2 - (lg_sl ([.ref h, .int (nI k)])).length) Slot.unset).toArray = ls at hl ⊢
  have hl : lv_has ls 2 [(0, .ref h), (1, .int (nI k))] := hl
  have hP : va_P G.1 clz ([(h, .inr (0, [.null, .null, .int 0, .int 0]))]) _ := hP
  have hD : va_D A ([(h, .inr (0, [.null, .null, .int 0, .int 0]))]) := hD
  refine lv_aload_n hx hb dX4_init_3_0 rfl (lv_at hl 0 rfl) ?_
  refine lv_null hx hb dX4_init_3_1 ?_
  refine lt_q (y := va_rf none) (rfl) ?_
  refine lv_iload_n hx hb dX4_init_3_2 rfl (lv_at hl 1 rfl) ?_
  have hc := cut_ (wc := [(h, .inr (0, [.null, .null, .int 0, .int 0]))]) (wr := []) hE hP hD hS hA (List.Perm.refl _)
  refine cv_ (va_runI (As := [va_rf none, .int (nI k)]) (rest := []) ⟨hx, hb, hml, hown, hts⟩ (mX3_init l G h _ k none hk) (cwI 2 hts (lw_meth q40) rfl rfl rfl (hts _ q5) (hts _ q38) (hts _ q39) rfl (by decide +kernel) ⟨Nat.le_of_ble_eq_true rfl, Nat.le_of_ble_eq_true rfl⟩) (Pw.pre hc no_bx) rfl rfl hl.1 rfl (lv_room (Nat.le_of_ble_eq_true rfl)) dX4_init_3_3 ⟨Nat.le_of_ble_eq_true rfl, Nat.le_of_ble_eq_true rfl⟩) hP hD hS hc (List.Perm.refl _) (fun ar H locs _ hP hD hS => ?_)
  have hP : va_P G.1 clz (hw_ G h none ar 0 16 (fun _ => none)) _ := hP
  have hD : va_D A (hw_ G h none ar 0 16 (fun _ => none)) := hD
  exact W.vret hx hb hr (fun t ht hW => ⟨⟨ar, rfl, trivial, by rw [ht]; exact hP, hD⟩, hS.F ht⟩) hS.2.2 dX4_init_3_6
set_option maxHeartbeats 4000000 in
set_option maxRecDepth 100000 in
/-- BinaryArrayHeap(r, k) -/
theorem mX4_init_4 (l : Launch) (G : gT) (h sz k : Nat) (r : Option Nat) (hk : k ≤ 16) : Met l yX4_init_4 (ws_ yX4_init_4 cX4_init_4 3 none) (rm_ 3 1 17 65) (Pw G (fun _ => 0) [] [.ref h, va_rf r, .int (nI k)] sz [(h, .inr (0, [.null, .null, .int 0, .int 0]))]) (va_Qv (fun _ : Nat => True) (Bw G (va_A [(h, .inr (0, [.null, .null, .int 0, .int 0]))] sz) (fun ar => hw_ G h r ar 0 16 (fun _ => none))) (va_A [(h, .inr (0, [.null, .null, .int 0, .int 0]))] sz)) 1 17 (va_A [(h, .inr (0, [.null, .null, .int 0, .int 0]))] sz) := by
  refine Met.ofW (cc := cX4_init_4) (maxL := 3) (ret := none) (by decide) rfl ?_
  intro p e s m args below meth c s₁ B hml hv
  obtain ⟨rfl, hsz, hP, hD0, hE, hB⟩ := hv
  have hx := B.exec
  have hb := B.bytes
  have hr := B.returns
  have hts := atoms_spec (ws := ws_ yX4_init_4 cX4_init_4 3 none) B.pre
  have hts : ∀ w ∈ lw_all, w.before _ s = true := fun w h => hts w (List.mem_cons_of_mem _ h)
  have hown : s.vm.findClass RX4 = some m.cls := findClass_of_methodNamed B.named
  have hlocks := B.notSynchronized
  subst hsz
  have hD := hD0.self (sz := s.heap.size)
  generalize hAe : va_A ([(h, .inr (0, [.null, .null, .int 0, .int 0]))]) s.heap.size = A at hD hE hB ⊢
  have hA : ∀ q : Nat, s.heap.size ≤ q → A q := fun q h => by rw [← hAe]; exact Or.inr h
  have hS : va_S A s.heap s.heap [] := va_S.rf
  have hl : lv_has (lg_sl ([.ref h, va_rf r, .int (nI k)]) ++ List.replicate (3 - (lg_sl ([.ref h, va_rf r, .int (nI k)])).length) Slot.unset).toArray 3 [(0, .ref h), (1, va_rf r), (2, .int (nI k))] := by cases r <;> exact lv_entry (n := 3) _ (Nat.le_of_ble_eq_true rfl)
  rw [lg_entry_eq]
  generalize (lg_sl ([.ref h, va_rf r, .int (nI k)]) ++ List.replicate (3 - (lg_sl ([.ref h, va_rf r, .int (nI k)])).length) Slot.unset).toArray = ls at hl ⊢
  have hP : va_P G.1 clz ([(h, .inr (0, [.null, .null, .int 0, .int 0]))]) _ := hP
  have hD : va_D A ([(h, .inr (0, [.null, .null, .int 0, .int 0]))]) := hD
  refine lv_aload_n hx hb dX4_init_4_0 rfl (lv_at hl 0 rfl) ?_
  refine ql_aload_n hx hb dX4_init_4_1 rfl (lv_at hl 1 rfl) ?_
  refine lv_iload_n hx hb dX4_init_4_2 rfl (lv_at hl 2 rfl) ?_
  have hc := cut_ (wc := [(h, .inr (0, [.null, .null, .int 0, .int 0]))]) (wr := []) hE hP hD hS hA (List.Perm.refl _)
  refine cv_ (va_runI (As := [va_rf r, .int (nI k)]) (rest := []) ⟨hx, hb, hml, hown, hts⟩ (mX3_init l G h _ k r hk) (cwI 2 hts (lw_meth q40) rfl rfl rfl (hts _ q5) (hts _ q38) (hts _ q39) rfl (by decide +kernel) ⟨Nat.le_of_ble_eq_true rfl, Nat.le_of_ble_eq_true rfl⟩) (Pw.pre hc no_bx) rfl rfl hl.1 rfl (lv_room (Nat.le_of_ble_eq_true rfl)) dX4_init_4_3 ⟨Nat.le_of_ble_eq_true rfl, Nat.le_of_ble_eq_true rfl⟩) hP hD hS hc (List.Perm.refl _) (fun ar H locs _ hP hD hS => ?_)
  have hP : va_P G.1 clz (hw_ G h r ar 0 16 (fun _ => none)) _ := hP
  have hD : va_D A (hw_ G h r ar 0 16 (fun _ => none)) := hD
  exact W.vret hx hb hr (fun t ht hW => ⟨⟨ar, rfl, trivial, by rw [ht]; exact hP, hD⟩, hS.F ht⟩) hS.2.2 dX4_init_4_6
set_option maxHeartbeats 4000000 in
set_option maxRecDepth 100000 in
/-- isEmpty() -/
theorem mX2_isEmpty (l : Launch) (G : gT) (h ar n sz : Nat) (r : Option Nat) (hn : n < 2 ^ 31) : Met l yX2_isEmpty (ws_ yX2_isEmpty cX2_isEmpty 1 (some .boolean)) (rm_ 0 0 0 0) (Pw G (fun _ => 0) [] [.ref h] sz [ho_ h r ar n]) (vp_Si (fun x => x = if n = 0 then 1 else 0)) 0 0 (fun _ => False) := by
  refine Met.ofW (cc := cX2_isEmpty) (maxL := 1) (ret := some .boolean) (by decide) rfl ?_
  intro p e s m args below meth c s₁ B hml hv
  obtain ⟨rfl, hsz, hP, hD0, hE, hB⟩ := hv
  have hx := B.exec
  have hb := B.bytes
  have hr := B.returns
  have hts := atoms_spec (ws := ws_ yX2_isEmpty cX2_isEmpty 1 (some .boolean)) B.pre
  have hts : ∀ w ∈ lw_all, w.before _ s = true := fun w h => hts w (List.mem_cons_of_mem _ h)
  have hown : s.vm.findClass RX2 = some m.cls := findClass_of_methodNamed B.named
  have hlocks := B.notSynchronized
  subst hsz
  have hD := hD0.self (sz := s.heap.size)
  generalize hAe : va_A ([ho_ h r ar n]) s.heap.size = A at hD hE hB ⊢
  have hA : ∀ q : Nat, s.heap.size ≤ q → A q := fun q h => by rw [← hAe]; exact Or.inr h
  have hS : va_S A s.heap s.heap [] := va_S.rf
  have hl := lv_entry ([.ref h]) (n := 1) (Nat.le_of_ble_eq_true rfl)
  rw [lg_entry_eq]
  generalize (lg_sl ([.ref h]) ++ List.replicate (1 - (lg_sl ([.ref h])).length) Slot.unset).toArray = ls at hl ⊢
  have hl : lv_has ls 1 [(0, .ref h)] := hl
  have hP : va_P G.1 clz ([ho_ h r ar n]) _ := hP
  have hD : va_D A ([ho_ h r ar n]) := hD
  refine lv_aload_n hx hb dX2_isEmpty_0 rfl (lv_at hl 0 rfl) ?_
  refine va_get (D := G.1) (ci := 0) (v := .int (nI n)) (C := RX4) (T := TX4) (N := 4) hx hb hts in_X4 hown hE.1 hP 0 rfl rfl 2 (by decide) (hts _ q153) (fun _ h9 => h9) rfl dX2_isEmpty_1 ?_
  refine lv_if_ne (tgt := 11) hx hb dX2_isEmpty_4 (by decide) (fun c1 => ?_) (fun c1 => ?_)
  · refine lv_iconst (v := 0) hx hb dX2_isEmpty_11 (by decide) ?_
    exact W.zret (v := 0) hx hb hr rfl (fun t ht hW => ⟨0, rfl, (if_neg (fun h9 => c1 ((z_iff hn).mpr h9))).symm, ht⟩) no_loc dX2_isEmpty_12
  · refine lv_iconst (v := 1) hx hb dX2_isEmpty_7 (by decide) ?_
    refine lv_goto (tgt := 12) hx hb dX2_isEmpty_8 (by decide) ?_
    exact W.zret (v := 1) hx hb hr rfl (fun t ht hW => ⟨1, rfl, (if_pos ((z_iff hn).mp c1)).symm, ht⟩) no_loc dX2_isEmpty_12
set_option maxHeartbeats 4000000 in
set_option maxRecDepth 100000 in
/-- size() -/
theorem mX2_size (l : Launch) (G : gT) (h ar n sz : Nat) (r : Option Nat) (hn : n < 2 ^ 31) : Met l yX2_size (ws_ yX2_size cX2_size 1 (some .long)) (rm_ 0 0 0 0) (Pw G (fun _ => 0) [] [.ref h] sz [ho_ h r ar n]) (vp_Sl (fun x => x = lN n)) 0 0 (fun _ => False) := by
  refine Met.ofW (cc := cX2_size) (maxL := 1) (ret := some .long) (by decide) rfl ?_
  intro p e s m args below meth c s₁ B hml hv
  obtain ⟨rfl, hsz, hP, hD0, hE, hB⟩ := hv
  have hx := B.exec
  have hb := B.bytes
  have hr := B.returns
  have hts := atoms_spec (ws := ws_ yX2_size cX2_size 1 (some .long)) B.pre
  have hts : ∀ w ∈ lw_all, w.before _ s = true := fun w h => hts w (List.mem_cons_of_mem _ h)
  have hown : s.vm.findClass RX2 = some m.cls := findClass_of_methodNamed B.named
  have hlocks := B.notSynchronized
  subst hsz
  have hD := hD0.self (sz := s.heap.size)
  generalize hAe : va_A ([ho_ h r ar n]) s.heap.size = A at hD hE hB ⊢
  have hA : ∀ q : Nat, s.heap.size ≤ q → A q := fun q h => by rw [← hAe]; exact Or.inr h
  have hS : va_S A s.heap s.heap [] := va_S.rf
  have hl := lv_entry ([.ref h]) (n := 1) (Nat.le_of_ble_eq_true rfl)
  rw [lg_entry_eq]
  generalize (lg_sl ([.ref h]) ++ List.replicate (1 - (lg_sl ([.ref h])).length) Slot.unset).toArray = ls at hl ⊢
  have hl : lv_has ls 1 [(0, .ref h)] := hl
  have hP : va_P G.1 clz ([ho_ h r ar n]) _ := hP
  have hD : va_D A ([ho_ h r ar n]) := hD
  refine lv_aload_n hx hb dX2_size_0 rfl (lv_at hl 0 rfl) ?_
  refine va_get (D := G.1) (ci := 0) (v := .int (nI n)) (C := RX4) (T := TX4) (N := 4) hx hb hts in_X4 hown hE.1 hP 0 rfl rfl 2 (by decide) (hts _ q153) (fun _ h9 => h9) rfl dX2_size_1 ?_
  refine lv_i2l (v := lN n) hx hb dX2_size_4 (nI_l hn) ?_
  exact W.lret (v := lN n) hx hb hr (fun t ht hW => ⟨lN n, rfl, rfl, ht⟩) no_loc dX2_size_5
set_option maxHeartbeats 4000000 in
set_option maxRecDepth 100000 in
/-- clear() -/
theorem mX2_clear (l : Launch) (G : gT) (h ar n sz : Nat) (r : Option Nat) : Met l yX2_clear (ws_ yX2_clear cX2_clear 1 none) (rm_ 0 0 0 0) (Pw G (fun _ => 0) [] [.ref h] sz [ho_ h r ar n]) (va_Qv (fun _ : Unit => True) (Bw G (va_A [ho_ h r ar n] sz) (fun _ => [ho_ h r ar 0])) (va_A [ho_ h r ar n] sz)) 0 0 (va_A [ho_ h r ar n] sz) := by
  refine Met.ofW (cc := cX2_clear) (maxL := 1) (ret := none) (by decide) rfl ?_
  intro p e s m args below meth c s₁ B hml hv
  obtain ⟨rfl, hsz, hP, hD0, hE, hB⟩ := hv
  have hx := B.exec
  have hb := B.bytes
  have hr := B.returns
  have hts := atoms_spec (ws := ws_ yX2_clear cX2_clear 1 none) B.pre
  have hts : ∀ w ∈ lw_all, w.before _ s = true := fun w h => hts w (List.mem_cons_of_mem _ h)
  have hown : s.vm.findClass RX2 = some m.cls := findClass_of_methodNamed B.named
  have hlocks := B.notSynchronized
  subst hsz
  have hD := hD0.self (sz := s.heap.size)
  generalize hAe : va_A ([ho_ h r ar n]) s.heap.size = A at hD hE hB ⊢
  have hA : ∀ q : Nat, s.heap.size ≤ q → A q := fun q h => by rw [← hAe]; exact Or.inr h
  have hS : va_S A s.heap s.heap [] := va_S.rf
  have hl := lv_entry ([.ref h]) (n := 1) (Nat.le_of_ble_eq_true rfl)
  rw [lg_entry_eq]
  generalize (lg_sl ([.ref h]) ++ List.replicate (1 - (lg_sl ([.ref h])).length) Slot.unset).toArray = ls at hl ⊢
  have hl : lv_has ls 1 [(0, .ref h)] := hl
  have hP : va_P G.1 clz ([ho_ h r ar n]) _ := hP
  have hD : va_D A ([ho_ h r ar n]) := hD
  refine lv_aload_n hx hb dX2_clear_0 rfl (lv_at hl 0 rfl) ?_
  refine lv_iconst (v := 0) hx hb dX2_clear_1 (by decide) ?_
  refine lt_i (y := nI 0) (nI_0.symm) ?_
  refine va_put (D := G.1) (ci := 0) (v := .int (nI 0)) (ty := .int) (C := RX4) (T := TX4) (N := 4) hx hb hts in_X4 tyX4 tyX4_ok nmX4 hown hE.1 hP hD hS 0 rfl rfl 2 (by decide) (hts _ q153) (fun _ h9 => h9) rfl (by decide +kernel) (rfl) (rfl) (Nat.le_of_ble_eq_true rfl) dX2_clear_2 (fun H locs hP hD hS => ?_)
  have hP : va_P G.1 clz ([ho_ h r ar 0]) _ := hP
  have hD : va_D A ([ho_ h r ar 0]) := hD
  exact W.vret hx hb hr (fun t ht hW => ⟨⟨(), rfl, trivial, by rw [ht]; exact hP, hD⟩, hS.F ht⟩) hS.2.2 dX2_clear_5
set_option maxHeartbeats 4000000 in
set_option maxRecDepth 100000 in
/-- findMin(): the first place -/
theorem mX3_findMin (l : Launch) (G : gT) (h ar n cap sz : Nat) (r : Option Nat) (f : Nat → Option Nat) (h0 : 1 ≤ n) (hn : n ≤ cap) (hc9 : cap ≤ 1000) : Met l yX3_findMin (ws_ yX3_findMin cX3_findMin 1 (some (.object "java/lang/Object"))) (rm_ 0 0 0 0) (Pw G (fun _ => 0) [] [.ref h] sz (hw_ G h r ar n cap f)) (va_Sq (fun x => x = f 1)) 0 0 (fun _ => False) := by
  refine Met.ofW (cc := cX3_findMin) (maxL := 1) (ret := some (.object "java/lang/Object")) (by decide) rfl ?_
  intro p e s m args below meth c s₁ B hml hv
  obtain ⟨rfl, hsz, hP, hD0, hE, hB⟩ := hv
  have hx := B.exec
  have hb := B.bytes
  have hr := B.returns
  have hts := atoms_spec (ws := ws_ yX3_findMin cX3_findMin 1 (some (.object "java/lang/Object"))) B.pre
  have hts : ∀ w ∈ lw_all, w.before _ s = true := fun w h => hts w (List.mem_cons_of_mem _ h)
  have hown : s.vm.findClass RX3 = some m.cls := findClass_of_methodNamed B.named
  have hlocks := B.notSynchronized
  subst hsz
  have hD := hD0.self (sz := s.heap.size)
  generalize hAe : va_A (hw_ G h r ar n cap f) s.heap.size = A at hD hE hB ⊢
  have hA : ∀ q : Nat, s.heap.size ≤ q → A q := fun q h => by rw [← hAe]; exact Or.inr h
  have hS : va_S A s.heap s.heap [] := va_S.rf
  have hl := lv_entry ([.ref h]) (n := 1) (Nat.le_of_ble_eq_true rfl)
  rw [lg_entry_eq]
  generalize (lg_sl ([.ref h]) ++ List.replicate (1 - (lg_sl ([.ref h])).length) Slot.unset).toArray = ls at hl ⊢
  have hl : lv_has ls 1 [(0, .ref h)] := hl
  have hP : va_P G.1 clz (hw_ G h r ar n cap f) _ := hP
  have hD : va_D A (hw_ G h r ar n cap f) := hD
  refine lv_aload_n hx hb dX3_findMin_0 rfl (lv_at hl 0 rfl) ?_
  refine va_get (D := G.1) (ci := 0) (v := .int (nI n)) (C := RX4) (T := TX4) (N := 4) hx hb hts in_X4 hown hE.1 hP 0 rfl rfl 2 (by decide) (hts _ q154) (fun x9 h9 => u_same (hts _ q155) x9 h9) rfl dX3_findMin_1 ?_
  refine lv_if_ne (tgt := 15) hx hb dX3_findMin_4 (by decide) (fun c1 => ?_) (fun c1 => ?_)
  · refine lv_aload_n hx hb dX3_findMin_15 rfl (lv_at hl 0 rfl) ?_
    refine va_get (D := G.1) (ci := 0) (v := .ref ar) (C := RX4) (T := TX4) (N := 4) hx hb hts in_X4 hown hE.1 hP 0 rfl rfl 1 (by decide) (hts _ q149) (fun x9 h9 => u_same (hts _ q150) x9 h9) rfl dX3_findMin_16 ?_
    refine lv_iconst (v := 1) hx hb dX3_findMin_19 (by decide) ?_
    refine va_aldq hx hb hE.1 hP 1 0 rfl rfl (vp_in_nI (n := 1) (by omega) (by omega)) dX3_findMin_20 ?_
    refine lt_q (y := va_rf (f 1)) (by rw [cl_1]) ?_
    exact W.aret hx hb hr (Or.inl ⟨_, rfl⟩) (rf_or (f 1)) (fun t ht hW => ⟨f 1, rfl, rfl, ht⟩) no_loc dX3_findMin_21
  · exact absurd ((z_iff (by omega)).mp c1) (by omega)
set_option maxHeartbeats 4000000 in
set_option maxRecDepth 100000 in
/-- ensureCapacity(k): another array, the same keys -/
theorem mX4_ensureCapacity (l : Launch) (G : gT) (val : Nat → Int32) (L : List Nat) (h ar n cap k sz : Nat) (r : Option Nat) (f : Nat → Option Nat) (hn : n ≤ cap) (hc9 : cap ≤ 1000) (hk : k ≤ 128) (hnk : n ≤ k) (hm : ∀ i, 1 ≤ i → i ≤ n → ∃ y, y ∈ L ∧ f i = some y) : Met l yX4_ensureCapacity (ws_ yX4_ensureCapacity cX4_ensureCapacity 3 none) (rm_ 1 1 129 64) (Pw G val L [.ref h, .int (nI k)] sz (hw_ G h r ar n cap f)) (va_Qv (fun u : Nat × (Nat → Option Nat) => ∀ i, 1 ≤ i → i ≤ n → u.2 i = f i) (Bw G (va_A (hw_ G h r ar n cap f) sz) (fun u => hw_ G h r u.1 n k u.2)) (va_A (hw_ G h r ar n cap f) sz)) 1 129 (va_A (hw_ G h r ar n cap f) sz) := by
  refine Met.ofW (cc := cX4_ensureCapacity) (maxL := 3) (ret := none) (by decide) rfl ?_
  intro p e s m args below meth c s₁ B hml hv
  obtain ⟨rfl, hsz, hP, hD0, hE, hB⟩ := hv
  have hx := B.exec
  have hb := B.bytes
  have hr := B.returns
  have hts := atoms_spec (ws := ws_ yX4_ensureCapacity cX4_ensureCapacity 3 none) B.pre
  have hts : ∀ w ∈ lw_all, w.before _ s = true := fun w h => hts w (List.mem_cons_of_mem _ h)
  have hown : s.vm.findClass RX4 = some m.cls := findClass_of_methodNamed B.named
  have hlocks := B.notSynchronized
  subst hsz
  have hD := hD0.self (sz := s.heap.size)
  generalize hAe : va_A (hw_ G h r ar n cap f) s.heap.size = A at hD hE hB ⊢
  have hA : ∀ q : Nat, s.heap.size ≤ q → A q := fun q h => by rw [← hAe]; exact Or.inr h
  have hS : va_S A s.heap s.heap [] := va_S.rf
  have hl := lv_entry ([.ref h, .int (nI k)]) (n := 3) (Nat.le_of_ble_eq_true rfl)
  rw [lg_entry_eq]
  generalize (lg_sl ([.ref h, .int (nI k)]) ++ List.replicate (3 - (lg_sl ([.ref h, .int (nI k)])).length) Slot.unset).toArray = ls at hl ⊢
  have hl : lv_has ls 3 [(0, .ref h), (1, .int (nI k))] := hl
  have hP : va_P G.1 clz (hw_ G h r ar n cap f) _ := hP
  have hD : va_D A (hw_ G h r ar n cap f) := hD
  refine lv_aload_n hx hb dX4_ensureCapacity_0 rfl (lv_at hl 0 rfl) ?_
  refine lv_iload_n hx hb dX4_ensureCapacity_1 rfl (lv_at hl 1 rfl) ?_
  refine va_csv (va_Run.run (va_runU (C := RX4) (As := [.int (nI k)]) (rest := []) ⟨hx, hb, hml, hown, hts⟩ (mX2_checkCapacity l h k (by omega)) (va_cwU 1 hts (lw_U q237 q238 q240 q46 q4 q49) rfl rfl rfl rfl (by decide +kernel) ⟨Nat.le_of_ble_eq_true rfl, Nat.le_of_ble_eq_true rfl⟩) (pre_anyV (va_recv hE.1 hP (ci := 0) (q0 := 0) rfl rfl)) rfl rfl hl.1 rfl (lv_room (Nat.le_of_ble_eq_true rfl)) dX4_ensureCapacity_2 ⟨Nat.le_of_ble_eq_true rfl, Nat.le_of_ble_eq_true rfl⟩)) (fun _ => ?_)
  refine lv_iload_n hx hb dX4_ensureCapacity_5 rfl (lv_at hl 1 rfl) ?_
  refine lv_iconst (v := 1) hx hb dX4_ensureCapacity_6 (by decide) ?_
  refine lv_iadd hx hb dX4_ensureCapacity_7 ?_
  refine lt_i (y := nI (k + 1)) (nI_1 k) ?_
  refine va_newq hx hb hown (hts _ q241) hE.2.1.1.1 hE.1 hP hD hS hA (N' := k + 1) (nI_pos (by omega)) (nI_clamp (by omega)) (by omega) (Nat.le_of_ble_eq_true rfl) (by show 0 + (k + 1) ≤ 129; omega) dX4_ensureCapacity_8 (fun br cA H hK9 hP hD hS => ?_)
  have ecA : cA = gO G := RA_uniq (hK9.2 5 (cA, .object "java/lang/Object") rfl).2 (hE.1.2 0 (gO G, .object "java/lang/Object") rfl).2
  subst ecA
  refine W.widen (k := 1) (n := 129) (Nat.le_of_ble_eq_true rfl) (by omega) ?_
  have hP : va_P G.1 clz ([ho_ h r ar n, oa_ G ar cap f, oa_ G br k (fun _ => none)]) _ := hP
  have hD : va_D A ([ho_ h r ar n, oa_ G ar cap f, oa_ G br k (fun _ => none)]) := hD
  refine lv_astore_n (lv' := [(2, .ref br), (0, .ref h), (1, .int (nI k))]) hx hb dX4_ensureCapacity_11 rfl hl (by decide) rfl (fun ls hl => ?_)
  refine lv_aload_n hx hb dX4_ensureCapacity_12 rfl (lv_at hl 1 rfl) ?_
  refine va_get (D := G.1) (ci := 0) (v := .ref ar) (C := RX4) (T := TX4) (N := 4) hx hb hts in_X4 hown hE.1 hP 0 rfl rfl 1 (by decide) (hts _ q151) (fun x9 h9 => u_same (hts _ q152) x9 h9) rfl dX4_ensureCapacity_13 ?_
  refine lv_iconst (v := 1) hx hb dX4_ensureCapacity_16 (by decide) ?_
  refine lv_aload_n hx hb dX4_ensureCapacity_17 rfl (lv_at hl 0 rfl) ?_
  refine lv_iconst (v := 1) hx hb dX4_ensureCapacity_18 (by decide) ?_
  refine lv_aload_n hx hb dX4_ensureCapacity_19 rfl (lv_at hl 1 rfl) ?_
  refine va_get (D := G.1) (ci := 0) (v := .int (nI n)) (C := RX4) (T := TX4) (N := 4) hx hb hts in_X4 hown hE.1 hP 0 rfl rfl 2 (by decide) (hts _ q156) (fun x9 h9 => u_same (hts _ q157) x9 h9) rfl dX4_ensureCapacity_20 ?_
  refine va_copyq (C := "java/lang/Integer") hx hb (hml.trans hl.1.symm) hown (hts _ q242) (hts _ q244) (hts _ q243) (hts _ q17) hE.1 hP hD hS 1 2 0 0 rfl rfl rfl rfl (by decide) (by decide) (nI_pos (by omega)) (by rw [nI_clamp (by omega), cl_1]; omega) (by rw [nI_clamp (by omega), cl_1]; omega) (fun i hi y hy => ?_) (fun c1 c2 => vb_asgC hE.2.1.2.1.2 c1 c2) (Nat.le_of_ble_eq_true rfl) (Nat.le_of_ble_eq_true rfl) dX4_ensureCapacity_23 (fun H locs hP hD hS => ?_)
  · rw [nI_clamp (by omega)] at hi
    rw [cl_1] at hy
    obtain ⟨y9, hy9, ey⟩ := hm (1 + i) (by omega) (by omega)
    rw [ey] at hy
    have e9 := Option.some.inj hy
    subst e9
    exact ((hB y9 hy9).now hS).recv
  · have e9 : va_cpy f (fun _ => none) (1 : Int32).toNatClampNeg (1 : Int32).toNatClampNeg (nI n).toNatClampNeg = va_cpy f (fun _ => none) 1 1 n := by rw [nI_clamp (by omega), cl_1]
    rw [e9] at hP hD
    have hP : va_P G.1 clz ([ho_ h r ar n, oa_ G ar cap f, oa_ G br k (va_cpy f (fun _ => none) 1 1 n)]) _ := hP
    have hD : va_D A ([ho_ h r ar n, oa_ G ar cap f, oa_ G br k (va_cpy f (fun _ => none) 1 1 n)]) := hD
    refine lv_aload_n hx hb dX4_ensureCapacity_26 rfl (lv_at hl 1 rfl) ?_
    refine lv_aload_n hx hb dX4_ensureCapacity_27 rfl (lv_at hl 0 rfl) ?_
    refine va_put (D := G.1) (ci := 0) (v := .ref br) (ty := .array (.object "java/lang/Object")) (C := RX4) (T := TX4) (N := 4) hx hb hts in_X4 tyX4 tyX4_ok nmX4 hown hE.1 hP hD hS 0 rfl rfl 1 (by decide) (hts _ q151) (fun x9 h9 => u_same (hts _ q152) x9 h9) rfl (by decide +kernel) (rfl) (rfl) (Nat.le_of_ble_eq_true rfl) dX4_ensureCapacity_28 (fun H locs hP hD hS => ?_)
    have hP : va_P G.1 clz ([ho_ h r br n, oa_ G ar cap f, oa_ G br k (va_cpy f (fun _ => none) 1 1 n)]) _ := hP
    have hD : va_D A ([ho_ h r br n, oa_ G ar cap f, oa_ G br k (va_cpy f (fun _ => none) 1 1 n)]) := hD
    have hP := hP.sub (ws' := hw_ G h r br n k (va_cpy f (fun _ => none) 1 1 n)) [0, 2] rfl
    have hD := hD.sub (ws' := hw_ G h r br n k (va_cpy f (fun _ => none) 1 1 n)) [0, 2] (by decide) rfl
    exact W.vret hx hb hr (fun t ht hW => ⟨⟨(br, va_cpy f (fun _ => none) 1 1 n), rfl, fun i h1 h2 => cpy_1 (f := f) (g := fun _ => none) h1 h2, by rw [ht]; exact hP, hD⟩, hS.F ht⟩) hS.2.2 dX4_ensureCapacity_31
end
section
/-! A HEAP: moving up and down, in both orders -/
set_option maxRecDepth 100000
/-- the weight of a reference: that of the box's int -/
def wq_ (d : Bool) (val : Nat → Int32) (r : Option Nat) : Int := wt_ d (val (r.getD 0))
theorem sh_1 {n : Nat} (h : n < 2 ^ 31) : nI n >>> ((1 : Int32) &&& 31) = nI (n / 2) := by
  have := pk_shrN h ((1 : Int32) &&& 31) 1 (by decide)
  simpa using this
theorem ml_2 (j : Nat) : (2 : Int32) * nI j = nI (2 * j) := pk_mul 2 j
theorem up_step {w : Option Nat → Int} {g : Nat → Option Nat} {j n kx px : Nat} (h : hq_up w (va_up g j (some kx)) j n) (hj : 2 ≤ j) (hn : j ≤ n) (e : g (j / 2) = some px) (hw : w (some kx) ≤ w (some px)) :
    hq_up w (va_up (va_up g j (some px)) (j / 2) (some kx)) (j / 2) n ∧ (hq_seg (va_up (va_up g j (some px)) (j / 2) (some kx)) n).Perm (hq_seg (va_up g j (some kx)) n) := by
  have d : j / 2 ≠ j := by omega
  have e1 : va_up g j (some kx) j = some kx := va_up_self _ _ _
  have e2 : va_up g j (some kx) (j / 2) = some px := by rw [va_up_ne _ _ d, e]
  have e3 : va_up (va_up g j (some px)) (j / 2) (some kx) j = some px := by rw [va_up_ne _ _ (Ne.symm d), va_up_self]
  have e4 : va_up (va_up g j (some px)) (j / 2) (some kx) (j / 2) = some kx := va_up_self _ _ _
  have e5 : ∀ i, i ≠ j → i ≠ j / 2 → va_up (va_up g j (some px)) (j / 2) (some kx) i = va_up g j (some kx) i := fun i h1 h2 => by rw [va_up_ne _ _ h2, va_up_ne _ _ h1, va_up_ne _ _ h1]
  exact ⟨hq_up_step h hj hn (by rw [e1, e2]; exact hw) (by rw [e3, e2]) (by rw [e4, e1]) e5, hq_swap (j := j) (k := j / 2) (by omega) hn (by omega) (by omega) (Ne.symm d) (by rw [e3, e2]) (by rw [e4, e1]) e5⟩
theorem up_end {w : Option Nat → Int} {g : Nat → Option Nat} {j n kx : Nat} (h : hq_up w (va_up g j (some kx)) j n) (e : j ≤ 1 ∨ ∃ px, 2 ≤ j ∧ g (j / 2) = some px ∧ w (some px) ≤ w (some kx)) : hq_hp w 1 (va_up g j (some kx)) n := by
  refine hq_up_end h ?_
  rcases e with e | ⟨px, e1, e2, e3⟩
  · exact Or.inl e
  · exact Or.inr (by rw [va_up_ne _ _ (by omega), va_up_self, e2]; exact e3)
theorem up_in {g : Nat → Option Nat} {L : List Nat} {j n px : Nat} (hg : ∀ i, 1 ≤ i → i ≤ n → ∃ y, y ∈ L ∧ g i = some y) (hp : px ∈ L) : ∀ i, 1 ≤ i → i ≤ n → ∃ y, y ∈ L ∧ va_up g j (some px) i = some y := by
  intro i h1 h2
  by_cases e : i = j
  · subst e
    exact ⟨px, hp, va_up_self _ _ _⟩
  · rw [va_up_ne _ _ e]
    exact hg i h1 h2
theorem up_same {g : Nat → Option Nat} {j kx : Nat} (e : g j = some kx) : va_up g j (some kx) = g := by
  funext i
  by_cases h : i = j
  · subst h
    rw [va_up_self, e]
  · exact va_up_ne _ _ h
theorem dn_step {w : Option Nat → Int} {g : Nat → Option Nat} {k0 j n c kx cx : Nat} (h : hq_dn w k0 (va_up g j (some kx)) j n) (hk : k0 ≤ j) (h0 : 1 ≤ j) (hc : c / 2 = j) (hn : c ≤ n) (hm : ∀ i, 2 ≤ i → i ≤ n → i / 2 = j → w (g c) ≤ w (g i)) (e : g c = some cx) (hw : w (some cx) ≤ w (some kx)) :
    hq_dn w k0 (va_up (va_up g j (some cx)) c (some kx)) c n ∧ (hq_seg (va_up (va_up g j (some cx)) c (some kx)) n).Perm (hq_seg (va_up g j (some kx)) n) := by
  have d : c ≠ j := by omega
  have e1 : va_up g j (some kx) j = some kx := va_up_self _ _ _
  have e2 : va_up g j (some kx) c = some cx := by rw [va_up_ne _ _ d, e]
  have e3 : va_up (va_up g j (some cx)) c (some kx) j = some cx := by rw [va_up_ne _ _ (Ne.symm d), va_up_self]
  have e4 : va_up (va_up g j (some cx)) c (some kx) c = some kx := va_up_self _ _ _
  have e5 : ∀ i, i ≠ j → i ≠ c → va_up (va_up g j (some cx)) c (some kx) i = va_up g j (some kx) i := fun i h1 h2 => by rw [va_up_ne _ _ h2, va_up_ne _ _ h1, va_up_ne _ _ h1]
  refine ⟨hq_dn_step h hk h0 hc hn (fun i a1 a2 a3 => ?_) (by rw [e1, e2]; exact hw) (by rw [e3, e2]) (by rw [e4, e1]) e5, hq_swap (j := j) (k := c) (by omega) (by omega) (by omega) hn (Ne.symm d) (by rw [e3, e2]) (by rw [e4, e1]) e5⟩
  rw [va_up_ne _ _ d, va_up_ne _ _ (by omega)]
  exact hm i a1 a2 a3
theorem dn_end {w : Option Nat → Int} {g : Nat → Option Nat} {k0 j n kx : Nat} (h : hq_dn w k0 (va_up g j (some kx)) j n) (h0 : 1 ≤ j) (e : n < 2 * j ∨ ∀ i, 2 ≤ i → i ≤ n → i / 2 = j → w (some kx) ≤ w (g i)) : hq_hp w k0 (va_up g j (some kx)) n := by
  refine hq_dn_end h ?_
  rcases e with e | e
  · exact Or.inl e
  · refine Or.inr fun i a1 a2 a3 => ?_
    rw [va_up_self, va_up_ne _ _ (by omega)]
    exact e i a1 a2 a3
theorem Env_.down {G : gT} {A : Nat → Prop} {s : State} {H : Heap} {locs : List Loc} (hE : Env_ G A s s.heap) (hS : va_S A s.heap H locs) : va_O RX5 (gW G) (fun _ => False) s H := ((hE.2.2.2.2.2.2.2).kept hS.2.1).narrow (fun _ z => False.elim z)
theorem wt_of {a b : Int} {x : Int32} (e : x ≤ 0 ↔ a ≤ b) (c : ¬ x ≤ 0) : b ≤ a := by
  have h : ¬ a ≤ b := fun z => c (e.mpr z)
  omega
theorem two_kids {w : Option Nat → Int} {g : Nat → Option Nat} {j n c : Nat} (h1 : w (g c) ≤ w (g (2 * j))) (h2 : 2 * j + 1 ≤ n → w (g c) ≤ w (g (2 * j + 1))) : ∀ i, 2 ≤ i → i ≤ n → i / 2 = j → w (g c) ≤ w (g i) := by
  intro i a1 a2 a3
  rcases (show i = 2 * j ∨ i = 2 * j + 1 by omega) with e | e
  · rw [e]; exact h1
  · rw [e]; exact h2 (by omega)
set_option maxHeartbeats 4000000 in
set_option maxRecDepth 100000 in
/-- fixup(k): all but k is in order -/
theorem mX4_fixup (l : Launch) (G : gT) (val : Nat → Int32) (L : List Nat) (h ar n cap k sz : Nat) (r : Option Nat) (f : Nat → Option Nat) (hk : 1 ≤ k) (hkn : k ≤ n) (hn : n ≤ cap) (hc9 : cap ≤ 1000) (hm : ∀ i, 1 ≤ i → i ≤ n → ∃ y, y ∈ L ∧ f i = some y) (hu : hq_up (wq_ false val) f k n) : Met l yX4_fixup (ws_ yX4_fixup cX4_fixup 3 none) (rm_ 2 0 0 43) (Pw G val L [.ref h, .int (nI k)] sz (hw_ G h r ar n cap f)) (va_Qv (fun f2 : Nat → Option Nat => hq_hp (wq_ false val) 1 f2 n ∧ (hq_seg f2 n).Perm (hq_seg f n)) (Bw G (va_A (hw_ G h r ar n cap f) sz) (fun f2 => hw_ G h r ar n cap f2)) (va_A (hw_ G h r ar n cap f) sz)) 0 0 (va_A (hw_ G h r ar n cap f) sz) := by
  refine Met.ofW (cc := cX4_fixup) (maxL := 3) (ret := none) (by decide) rfl ?_
  intro p e s m args below meth c s₁ B hml hv
  obtain ⟨rfl, hsz, hP, hD0, hE, hB⟩ := hv
  have hx := B.exec
  have hb := B.bytes
  have hr := B.returns
  have hts := atoms_spec (ws := ws_ yX4_fixup cX4_fixup 3 none) B.pre
  have hts : ∀ w ∈ lw_all, w.before _ s = true := fun w h => hts w (List.mem_cons_of_mem _ h)
  have hown : s.vm.findClass RX4 = some m.cls := findClass_of_methodNamed B.named
  have hlocks := B.notSynchronized
  subst hsz
  have hD := hD0.self (sz := s.heap.size)
  generalize hAe : va_A (hw_ G h r ar n cap f) s.heap.size = A at hD hE hB ⊢
  have hA : ∀ q : Nat, s.heap.size ≤ q → A q := fun q h => by rw [← hAe]; exact Or.inr h
  have hS : va_S A s.heap s.heap [] := va_S.rf
  have hl := lv_entry ([.ref h, .int (nI k)]) (n := 3) (Nat.le_of_ble_eq_true rfl)
  rw [lg_entry_eq]
  generalize (lg_sl ([.ref h, .int (nI k)]) ++ List.replicate (3 - (lg_sl ([.ref h, .int (nI k)])).length) Slot.unset).toArray = ls at hl ⊢
  have hl : lv_has ls 3 [(0, .ref h), (1, .int (nI k))] := hl
  have hP : va_P G.1 clz (hw_ G h r ar n cap f) _ := hP
  have hD : va_D A (hw_ G h r ar n cap f) := hD
  refine lv_aload_n hx hb dX4_fixup_0 rfl (lv_at hl 0 rfl) ?_
  refine va_get (D := G.1) (ci := 0) (v := .ref ar) (C := RX4) (T := TX4) (N := 4) hx hb hts in_X4 hown hE.1 hP 0 rfl rfl 1 (by decide) (hts _ q151) (fun x9 h9 => u_same (hts _ q152) x9 h9) rfl dX4_fixup_1 ?_
  refine lv_iload_n hx hb dX4_fixup_4 rfl (lv_at hl 1 rfl) ?_
  obtain ⟨kx, hkx, ek⟩ := hm k hk hkn
  refine va_aldq hx hb hE.1 hP 1 0 rfl rfl (vp_in_nI (n := k) (by omega) (by omega)) dX4_fixup_5 ?_
  refine lt_q (y := .ref kx) (by rw [nI_clamp (by omega), ek]; rfl) ?_
  refine lv_astore_n (lv' := [(2, .ref kx), (0, .ref h), (1, .int (nI k))]) hx hb dX4_fixup_6 rfl hl (by decide) rfl (fun ls hl => ?_)
  have loop : ∀ (N j : Nat) (g : Nat → Option Nat) (H : Heap) (locs : List Loc) (ls : Array Slot), j ≤ N → 1 ≤ j → j ≤ n → hq_up (wq_ false val) (va_up g j (some kx)) j n → (hq_seg (va_up g j (some kx)) n).Perm (hq_seg f n) → (∀ i, 1 ≤ i → i ≤ n → ∃ y, y ∈ L ∧ g i = some y) → va_P G.1 clz (hw_ G h r ar n cap g) H → va_D A (hw_ G h r ar n cap g) → va_S A s.heap H locs → lv_has ls 3 [(0, .ref h), (1, .int (nI j)), (2, .ref kx)] → W p l e (headSpec (ws_ yX4_fixup cX4_fixup 3 none) (rm_ 2 0 0 43)).room s m ([.ref h, .int (nI k)] : List Value).toArray below meth c H locs 0 0 (MQ below (va_Qv (fun f2 : Nat → Option Nat => hq_hp (wq_ false val) 1 f2 n ∧ (hq_seg f2 n).Perm (hq_seg f n)) (Bw G A (fun f2 => hw_ G h r ar n cap f2)) A) ([.ref h, .int (nI k)] : List Value).toArray s 0 0 A) (F0 m 7 ls []) := by
    intro N
    induction N with
    | zero =>
      intro j g H locs ls h9 h1
      exact absurd h9 (by omega)
    | succ N ih =>
      intro j g H locs ls hjN h1 hjn hu hp hg hP hD hS hl
      refine lv_iload_n hx hb dX4_fixup_7 rfl (lv_at hl 1 rfl) ?_
      refine lv_iconst (v := 1) hx hb dX4_fixup_8 (by decide) ?_
      refine lv_icmp_le (tgt := 51) hx hb dX4_fixup_9 (by decide) (fun c1 => ?_) (fun c1 => ?_)
      · refine lv_aload_n hx hb dX4_fixup_51 rfl (lv_at hl 0 rfl) ?_
        refine va_get (D := G.1) (ci := 0) (v := .ref ar) (C := RX4) (T := TX4) (N := 4) hx hb hts in_X4 hown hE.1 hP 0 rfl rfl 1 (by decide) (hts _ q151) (fun x9 h9 => u_same (hts _ q152) x9 h9) rfl dX4_fixup_52 ?_
        refine lv_iload_n hx hb dX4_fixup_55 rfl (lv_at hl 1 rfl) ?_
        refine lv_aload_n hx hb dX4_fixup_56 rfl (lv_at hl 2 rfl) ?_
        refine vb_astq (E := "java/lang/Object") (C := "java/lang/Integer") hx hb hE.1 hP hD hS 1 0 rfl rfl (bx.recv ((hB kx hkx).now hS)) (fun c1 c2 => vb_asgC hE.2.1.2.1.2 c1 c2) (vp_in_nI (n := j) (by omega) (by omega)) dX4_fixup_57 (fun H locs hP hD hS => ?_)
        rw [nI_clamp (by omega)] at hP hD
        have hP : va_P G.1 clz (hw_ G h r ar n cap (va_up g j (some kx))) _ := hP
        have hD : va_D A (hw_ G h r ar n cap (va_up g j (some kx))) := hD
        exact W.vret hx hb hr (fun t ht hW => ⟨⟨va_up g j (some kx), rfl, ⟨up_end hu (Or.inl (by have := (nI_leI (b := 1) (by omega) (by omega)).mp c1; omega)), hp⟩, by rw [ht]; exact hP, hD⟩, hS.F ht⟩) hS.2.2 dX4_fixup_58
      · have hj2 : 2 ≤ j := by rcases Nat.lt_or_ge j 2 with h9 | h9; exact absurd (nI_le (b := 1) (by omega) (by omega)) c1; exact h9
        obtain ⟨px, hpx, ep⟩ := hg (j / 2) (by omega) (by omega)
        refine lv_aload_n hx hb dX4_fixup_12 rfl (lv_at hl 0 rfl) ?_
        refine va_get (D := G.1) (ci := 0) (v := .ref ar) (C := RX4) (T := TX4) (N := 4) hx hb hts in_X4 hown hE.1 hP 0 rfl rfl 1 (by decide) (hts _ q151) (fun x9 h9 => u_same (hts _ q152) x9 h9) rfl dX4_fixup_13 ?_
        refine lv_iload_n hx hb dX4_fixup_16 rfl (lv_at hl 1 rfl) ?_
        refine lv_iconst (v := 1) hx hb dX4_fixup_17 (by decide) ?_
        refine lv_ishr hx hb dX4_fixup_18 ?_
        refine lt_i (y := nI (j / 2)) (sh_1 (by omega)) ?_
        refine va_aldq hx hb hE.1 hP 1 0 rfl rfl (vp_in_nI (n := j / 2) (by omega) (by omega)) dX4_fixup_19 ?_
        refine lt_q (y := .ref px) (by rw [nI_clamp (by omega), ep]; rfl) ?_
        refine va_castY (C := "java/lang/Integer") hx hb hown (hts _ q251) hE.2.1.2.1.1 (bx.recv ((hB px hpx).now hS)) dX4_fixup_20 ?_
        refine lv_aload_n hx hb dX4_fixup_23 rfl (lv_at hl 2 rfl) ?_
        refine vp_callSi (va_Run.run (va_runS (As := [.ref px, .ref kx]) (rest := []) ⟨hx, hb, hml, hown, hts⟩ (mX1_order l px kx (val px) (val kx)) (va_cwS 2 hts (lw_S q252 q253 q3 q254) rfl rfl rfl (by decide +kernel) ⟨Nat.le_of_ble_eq_true rfl, Nat.le_of_ble_eq_true rfl⟩) (Pb.pre (two_bx ((hB px hpx).now hS) ((hB kx hkx).now hS))) rfl rfl hl.1 rfl (lv_room (Nat.le_of_ble_eq_true rfl)) dX4_fixup_24 ⟨Nat.le_of_ble_eq_true rfl, Nat.le_of_ble_eq_true rfl⟩)) (fun x e_x => ?_)
        refine lv_if_le (tgt := 51) hx hb dX4_fixup_27 (by decide) (fun c2 => ?_) (fun c2 => ?_)
        · refine lv_aload_n hx hb dX4_fixup_51 rfl (lv_at hl 0 rfl) ?_
          refine va_get (D := G.1) (ci := 0) (v := .ref ar) (C := RX4) (T := TX4) (N := 4) hx hb hts in_X4 hown hE.1 hP 0 rfl rfl 1 (by decide) (hts _ q151) (fun x9 h9 => u_same (hts _ q152) x9 h9) rfl dX4_fixup_52 ?_
          refine lv_iload_n hx hb dX4_fixup_55 rfl (lv_at hl 1 rfl) ?_
          refine lv_aload_n hx hb dX4_fixup_56 rfl (lv_at hl 2 rfl) ?_
          refine vb_astq (E := "java/lang/Object") (C := "java/lang/Integer") hx hb hE.1 hP hD hS 1 0 rfl rfl (bx.recv ((hB kx hkx).now hS)) (fun c1 c2 => vb_asgC hE.2.1.2.1.2 c1 c2) (vp_in_nI (n := j) (by omega) (by omega)) dX4_fixup_57 (fun H locs hP hD hS => ?_)
          rw [nI_clamp (by omega)] at hP hD
          have hP : va_P G.1 clz (hw_ G h r ar n cap (va_up g j (some kx))) _ := hP
          have hD : va_D A (hw_ G h r ar n cap (va_up g j (some kx))) := hD
          exact W.vret hx hb hr (fun t ht hW => ⟨⟨va_up g j (some kx), rfl, ⟨up_end hu (Or.inr ⟨px, hj2, ep, e_x.mp c2⟩), hp⟩, by rw [ht]; exact hP, hD⟩, hS.F ht⟩) hS.2.2 dX4_fixup_58
        · refine lv_aload_n hx hb dX4_fixup_30 rfl (lv_at hl 0 rfl) ?_
          refine va_get (D := G.1) (ci := 0) (v := .ref ar) (C := RX4) (T := TX4) (N := 4) hx hb hts in_X4 hown hE.1 hP 0 rfl rfl 1 (by decide) (hts _ q151) (fun x9 h9 => u_same (hts _ q152) x9 h9) rfl dX4_fixup_31 ?_
          refine lv_iload_n hx hb dX4_fixup_34 rfl (lv_at hl 1 rfl) ?_
          refine lv_aload_n hx hb dX4_fixup_35 rfl (lv_at hl 0 rfl) ?_
          refine va_get (D := G.1) (ci := 0) (v := .ref ar) (C := RX4) (T := TX4) (N := 4) hx hb hts in_X4 hown hE.1 hP 0 rfl rfl 1 (by decide) (hts _ q151) (fun x9 h9 => u_same (hts _ q152) x9 h9) rfl dX4_fixup_36 ?_
          refine lv_iload_n hx hb dX4_fixup_39 rfl (lv_at hl 1 rfl) ?_
          refine lv_iconst (v := 1) hx hb dX4_fixup_40 (by decide) ?_
          refine lv_ishr hx hb dX4_fixup_41 ?_
          refine lt_i (y := nI (j / 2)) (sh_1 (by omega)) ?_
          refine va_aldq hx hb hE.1 hP 1 0 rfl rfl (vp_in_nI (n := j / 2) (by omega) (by omega)) dX4_fixup_42 ?_
          refine lt_q (y := .ref px) (by rw [nI_clamp (by omega), ep]; rfl) ?_
          refine vb_astq (E := "java/lang/Object") (C := "java/lang/Integer") hx hb hE.1 hP hD hS 1 0 rfl rfl (bx.recv ((hB px hpx).now hS)) (fun c1 c2 => vb_asgC hE.2.1.2.1.2 c1 c2) (vp_in_nI (n := j) (by omega) (by omega)) dX4_fixup_43 (fun H locs hP hD hS => ?_)
          rw [nI_clamp (by omega)] at hP hD
          have hP : va_P G.1 clz (hw_ G h r ar n cap (va_up g j (some px))) _ := hP
          have hD : va_D A (hw_ G h r ar n cap (va_up g j (some px))) := hD
          refine lv_iload_n hx hb dX4_fixup_44 rfl (lv_at hl 1 rfl) ?_
          refine lv_iconst (v := 1) hx hb dX4_fixup_45 (by decide) ?_
          refine lv_ishr hx hb dX4_fixup_46 ?_
          refine lt_i (y := nI (j / 2)) (sh_1 (by omega)) ?_
          refine lv_istore_n (lv' := [(1, .int (nI (j / 2))), (0, .ref h), (2, .ref kx)]) hx hb dX4_fixup_47 rfl hl (by decide) rfl (fun ls hl => ?_)
          refine lv_goto (tgt := 7) hx hb dX4_fixup_48 (by decide) ?_
          have hw9 : wq_ false val (some kx) ≤ wq_ false val (some px) := wt_of e_x c2
          obtain ⟨hu2, hp2⟩ := up_step hu hj2 hjn ep hw9
          exact ih (j / 2) (va_up g j (some px)) H locs ls (by omega) (by omega) (by omega) hu2 (hp2.trans hp) (up_in hg hpx) hP hD hS (lv_sub hl [1, 0, 2] rfl)
  rw [← up_same ek] at hu
  exact loop k k f _ _ ls (Nat.le_refl k) hk hkn hu (by rw [up_same ek]) hm hP hD hS (lv_sub hl [1, 2, 0] rfl)
set_option maxHeartbeats 4000000 in
set_option maxRecDepth 100000 in
/-- fixupWithComparator(k): all but k is in order -/
theorem mX4_fixupWithComparator (l : Launch) (G : gT) (val : Nat → Int32) (L : List Nat) (h ar n cap k sz : Nat) (f : Nat → Option Nat) (hk : 1 ≤ k) (hkn : k ≤ n) (hn : n ≤ cap) (hc9 : cap ≤ 1000) (hm : ∀ i, 1 ≤ i → i ≤ n → ∃ y, y ∈ L ∧ f i = some y) (hu : hq_up (wq_ true val) f k n) : Met l yX4_fixupWithComparator (ws_ yX4_fixupWithComparator cX4_fixupWithComparator 3 none) (rm_ 3 0 0 66) (Pw G val L [.ref h, .int (nI k)] sz (hw_ G h (some (gW G)) ar n cap f)) (va_Qv (fun f2 : Nat → Option Nat => hq_hp (wq_ true val) 1 f2 n ∧ (hq_seg f2 n).Perm (hq_seg f n)) (Bw G (va_A (hw_ G h (some (gW G)) ar n cap f) sz) (fun f2 => hw_ G h (some (gW G)) ar n cap f2)) (va_A (hw_ G h (some (gW G)) ar n cap f) sz)) 0 0 (va_A (hw_ G h (some (gW G)) ar n cap f) sz) := by
  refine Met.ofW (cc := cX4_fixupWithComparator) (maxL := 3) (ret := none) (by decide) rfl ?_
  intro p e s m args below meth c s₁ B hml hv
  obtain ⟨rfl, hsz, hP, hD0, hE, hB⟩ := hv
  have hx := B.exec
  have hb := B.bytes
  have hr := B.returns
  have hts := atoms_spec (ws := ws_ yX4_fixupWithComparator cX4_fixupWithComparator 3 none) B.pre
  have hts : ∀ w ∈ lw_all, w.before _ s = true := fun w h => hts w (List.mem_cons_of_mem _ h)
  have hown : s.vm.findClass RX4 = some m.cls := findClass_of_methodNamed B.named
  have hlocks := B.notSynchronized
  subst hsz
  have hD := hD0.self (sz := s.heap.size)
  generalize hAe : va_A (hw_ G h (some (gW G)) ar n cap f) s.heap.size = A at hD hE hB ⊢
  have hA : ∀ q : Nat, s.heap.size ≤ q → A q := fun q h => by rw [← hAe]; exact Or.inr h
  have hS : va_S A s.heap s.heap [] := va_S.rf
  have hl := lv_entry ([.ref h, .int (nI k)]) (n := 3) (Nat.le_of_ble_eq_true rfl)
  rw [lg_entry_eq]
  generalize (lg_sl ([.ref h, .int (nI k)]) ++ List.replicate (3 - (lg_sl ([.ref h, .int (nI k)])).length) Slot.unset).toArray = ls at hl ⊢
  have hl : lv_has ls 3 [(0, .ref h), (1, .int (nI k))] := hl
  have hP : va_P G.1 clz (hw_ G h (some (gW G)) ar n cap f) _ := hP
  have hD : va_D A (hw_ G h (some (gW G)) ar n cap f) := hD
  refine lv_aload_n hx hb dX4_fixupWithComparator_0 rfl (lv_at hl 0 rfl) ?_
  refine va_get (D := G.1) (ci := 0) (v := .ref ar) (C := RX4) (T := TX4) (N := 4) hx hb hts in_X4 hown hE.1 hP 0 rfl rfl 1 (by decide) (hts _ q151) (fun x9 h9 => u_same (hts _ q152) x9 h9) rfl dX4_fixupWithComparator_1 ?_
  refine lv_iload_n hx hb dX4_fixupWithComparator_4 rfl (lv_at hl 1 rfl) ?_
  obtain ⟨kx, hkx, ek⟩ := hm k hk hkn
  refine va_aldq hx hb hE.1 hP 1 0 rfl rfl (vp_in_nI (n := k) (by omega) (by omega)) dX4_fixupWithComparator_5 ?_
  refine lt_q (y := .ref kx) (by rw [nI_clamp (by omega), ek]; rfl) ?_
  refine lv_astore_n (lv' := [(2, .ref kx), (0, .ref h), (1, .int (nI k))]) hx hb dX4_fixupWithComparator_6 rfl hl (by decide) rfl (fun ls hl => ?_)
  have loop : ∀ (N j : Nat) (g : Nat → Option Nat) (H : Heap) (locs : List Loc) (ls : Array Slot), j ≤ N → 1 ≤ j → j ≤ n → hq_up (wq_ true val) (va_up g j (some kx)) j n → (hq_seg (va_up g j (some kx)) n).Perm (hq_seg f n) → (∀ i, 1 ≤ i → i ≤ n → ∃ y, y ∈ L ∧ g i = some y) → va_P G.1 clz (hw_ G h (some (gW G)) ar n cap g) H → va_D A (hw_ G h (some (gW G)) ar n cap g) → va_S A s.heap H locs → lv_has ls 3 [(0, .ref h), (1, .int (nI j)), (2, .ref kx)] → W p l e (headSpec (ws_ yX4_fixupWithComparator cX4_fixupWithComparator 3 none) (rm_ 3 0 0 66)).room s m ([.ref h, .int (nI k)] : List Value).toArray below meth c H locs 0 0 (MQ below (va_Qv (fun f2 : Nat → Option Nat => hq_hp (wq_ true val) 1 f2 n ∧ (hq_seg f2 n).Perm (hq_seg f n)) (Bw G A (fun f2 => hw_ G h (some (gW G)) ar n cap f2)) A) ([.ref h, .int (nI k)] : List Value).toArray s 0 0 A) (F0 m 7 ls []) := by
    intro N
    induction N with
    | zero =>
      intro j g H locs ls h9 h1
      exact absurd h9 (by omega)
    | succ N ih =>
      intro j g H locs ls hjN h1 hjn hu hp hg hP hD hS hl
      refine lv_iload_n hx hb dX4_fixupWithComparator_7 rfl (lv_at hl 1 rfl) ?_
      refine lv_iconst (v := 1) hx hb dX4_fixupWithComparator_8 (by decide) ?_
      refine lv_icmp_le (tgt := 54) hx hb dX4_fixupWithComparator_9 (by decide) (fun c1 => ?_) (fun c1 => ?_)
      · refine lv_aload_n hx hb dX4_fixupWithComparator_54 rfl (lv_at hl 0 rfl) ?_
        refine va_get (D := G.1) (ci := 0) (v := .ref ar) (C := RX4) (T := TX4) (N := 4) hx hb hts in_X4 hown hE.1 hP 0 rfl rfl 1 (by decide) (hts _ q151) (fun x9 h9 => u_same (hts _ q152) x9 h9) rfl dX4_fixupWithComparator_55 ?_
        refine lv_iload_n hx hb dX4_fixupWithComparator_58 rfl (lv_at hl 1 rfl) ?_
        refine lv_aload_n hx hb dX4_fixupWithComparator_59 rfl (lv_at hl 2 rfl) ?_
        refine vb_astq (E := "java/lang/Object") (C := "java/lang/Integer") hx hb hE.1 hP hD hS 1 0 rfl rfl (bx.recv ((hB kx hkx).now hS)) (fun c1 c2 => vb_asgC hE.2.1.2.1.2 c1 c2) (vp_in_nI (n := j) (by omega) (by omega)) dX4_fixupWithComparator_60 (fun H locs hP hD hS => ?_)
        rw [nI_clamp (by omega)] at hP hD
        have hP : va_P G.1 clz (hw_ G h (some (gW G)) ar n cap (va_up g j (some kx))) _ := hP
        have hD : va_D A (hw_ G h (some (gW G)) ar n cap (va_up g j (some kx))) := hD
        exact W.vret hx hb hr (fun t ht hW => ⟨⟨va_up g j (some kx), rfl, ⟨up_end hu (Or.inl (by have := (nI_leI (b := 1) (by omega) (by omega)).mp c1; omega)), hp⟩, by rw [ht]; exact hP, hD⟩, hS.F ht⟩) hS.2.2 dX4_fixupWithComparator_61
      · have hj2 : 2 ≤ j := by rcases Nat.lt_or_ge j 2 with h9 | h9; exact absurd (nI_le (b := 1) (by omega) (by omega)) c1; exact h9
        obtain ⟨px, hpx, ep⟩ := hg (j / 2) (by omega) (by omega)
        refine lv_aload_n hx hb dX4_fixupWithComparator_12 rfl (lv_at hl 0 rfl) ?_
        refine va_get (D := G.1) (ci := 0) (v := .ref (gW G)) (C := RX4) (T := TX4) (N := 4) hx hb hts in_X4 hown hE.1 hP 0 rfl rfl 0 (by decide) (hts _ q147) (fun x9 h9 => u_same (hts _ q148) x9 h9) rfl dX4_fixupWithComparator_13 ?_
        refine lv_aload_n hx hb dX4_fixupWithComparator_16 rfl (lv_at hl 0 rfl) ?_
        refine va_get (D := G.1) (ci := 0) (v := .ref ar) (C := RX4) (T := TX4) (N := 4) hx hb hts in_X4 hown hE.1 hP 0 rfl rfl 1 (by decide) (hts _ q151) (fun x9 h9 => u_same (hts _ q152) x9 h9) rfl dX4_fixupWithComparator_17 ?_
        refine lv_iload_n hx hb dX4_fixupWithComparator_20 rfl (lv_at hl 1 rfl) ?_
        refine lv_iconst (v := 1) hx hb dX4_fixupWithComparator_21 (by decide) ?_
        refine lv_ishr hx hb dX4_fixupWithComparator_22 ?_
        refine lt_i (y := nI (j / 2)) (sh_1 (by omega)) ?_
        refine va_aldq hx hb hE.1 hP 1 0 rfl rfl (vp_in_nI (n := j / 2) (by omega) (by omega)) dX4_fixupWithComparator_23 ?_
        refine lt_q (y := .ref px) (by rw [nI_clamp (by omega), ep]; rfl) ?_
        refine lv_aload_n hx hb dX4_fixupWithComparator_24 rfl (lv_at hl 2 rfl) ?_
        refine va_csFi (runF_ (As := [.ref px, .ref kx]) (rest := []) ⟨hx, hb, hml, hown, hts⟩ (mX5_compare l (gW G) px kx (val px) (val kx)) (va_cwF 2 hts (lw_F q267 q271 q273 q410 q275) rfl rfl rfl hE.2.1.2.2.2 (by decide +kernel) ⟨Nat.le_of_ble_eq_true rfl, Nat.le_of_ble_eq_true rfl⟩) (Pd.preV (hE.down hS) (two_bx ((hB px hpx).now hS) ((hB kx hkx).now hS))) rfl rfl hl.1 rfl (lv_room (Nat.le_of_ble_eq_true rfl)) dX4_fixupWithComparator_25 ⟨Nat.le_of_ble_eq_true rfl, Nat.le_of_ble_eq_true rfl⟩) (fun x e_x => ?_)
        refine lv_if_le (tgt := 54) hx hb dX4_fixupWithComparator_30 (by decide) (fun c2 => ?_) (fun c2 => ?_)
        · refine lv_aload_n hx hb dX4_fixupWithComparator_54 rfl (lv_at hl 0 rfl) ?_
          refine va_get (D := G.1) (ci := 0) (v := .ref ar) (C := RX4) (T := TX4) (N := 4) hx hb hts in_X4 hown hE.1 hP 0 rfl rfl 1 (by decide) (hts _ q151) (fun x9 h9 => u_same (hts _ q152) x9 h9) rfl dX4_fixupWithComparator_55 ?_
          refine lv_iload_n hx hb dX4_fixupWithComparator_58 rfl (lv_at hl 1 rfl) ?_
          refine lv_aload_n hx hb dX4_fixupWithComparator_59 rfl (lv_at hl 2 rfl) ?_
          refine vb_astq (E := "java/lang/Object") (C := "java/lang/Integer") hx hb hE.1 hP hD hS 1 0 rfl rfl (bx.recv ((hB kx hkx).now hS)) (fun c1 c2 => vb_asgC hE.2.1.2.1.2 c1 c2) (vp_in_nI (n := j) (by omega) (by omega)) dX4_fixupWithComparator_60 (fun H locs hP hD hS => ?_)
          rw [nI_clamp (by omega)] at hP hD
          have hP : va_P G.1 clz (hw_ G h (some (gW G)) ar n cap (va_up g j (some kx))) _ := hP
          have hD : va_D A (hw_ G h (some (gW G)) ar n cap (va_up g j (some kx))) := hD
          exact W.vret hx hb hr (fun t ht hW => ⟨⟨va_up g j (some kx), rfl, ⟨up_end hu (Or.inr ⟨px, hj2, ep, e_x.mp c2⟩), hp⟩, by rw [ht]; exact hP, hD⟩, hS.F ht⟩) hS.2.2 dX4_fixupWithComparator_61
        · refine lv_aload_n hx hb dX4_fixupWithComparator_33 rfl (lv_at hl 0 rfl) ?_
          refine va_get (D := G.1) (ci := 0) (v := .ref ar) (C := RX4) (T := TX4) (N := 4) hx hb hts in_X4 hown hE.1 hP 0 rfl rfl 1 (by decide) (hts _ q151) (fun x9 h9 => u_same (hts _ q152) x9 h9) rfl dX4_fixupWithComparator_34 ?_
          refine lv_iload_n hx hb dX4_fixupWithComparator_37 rfl (lv_at hl 1 rfl) ?_
          refine lv_aload_n hx hb dX4_fixupWithComparator_38 rfl (lv_at hl 0 rfl) ?_
          refine va_get (D := G.1) (ci := 0) (v := .ref ar) (C := RX4) (T := TX4) (N := 4) hx hb hts in_X4 hown hE.1 hP 0 rfl rfl 1 (by decide) (hts _ q151) (fun x9 h9 => u_same (hts _ q152) x9 h9) rfl dX4_fixupWithComparator_39 ?_
          refine lv_iload_n hx hb dX4_fixupWithComparator_42 rfl (lv_at hl 1 rfl) ?_
          refine lv_iconst (v := 1) hx hb dX4_fixupWithComparator_43 (by decide) ?_
          refine lv_ishr hx hb dX4_fixupWithComparator_44 ?_
          refine lt_i (y := nI (j / 2)) (sh_1 (by omega)) ?_
          refine va_aldq hx hb hE.1 hP 1 0 rfl rfl (vp_in_nI (n := j / 2) (by omega) (by omega)) dX4_fixupWithComparator_45 ?_
          refine lt_q (y := .ref px) (by rw [nI_clamp (by omega), ep]; rfl) ?_
          refine vb_astq (E := "java/lang/Object") (C := "java/lang/Integer") hx hb hE.1 hP hD hS 1 0 rfl rfl (bx.recv ((hB px hpx).now hS)) (fun c1 c2 => vb_asgC hE.2.1.2.1.2 c1 c2) (vp_in_nI (n := j) (by omega) (by omega)) dX4_fixupWithComparator_46 (fun H locs hP hD hS => ?_)
          rw [nI_clamp (by omega)] at hP hD
          have hP : va_P G.1 clz (hw_ G h (some (gW G)) ar n cap (va_up g j (some px))) _ := hP
          have hD : va_D A (hw_ G h (some (gW G)) ar n cap (va_up g j (some px))) := hD
          refine lv_iload_n hx hb dX4_fixupWithComparator_47 rfl (lv_at hl 1 rfl) ?_
          refine lv_iconst (v := 1) hx hb dX4_fixupWithComparator_48 (by decide) ?_
          refine lv_ishr hx hb dX4_fixupWithComparator_49 ?_
          refine lt_i (y := nI (j / 2)) (sh_1 (by omega)) ?_
          refine lv_istore_n (lv' := [(1, .int (nI (j / 2))), (0, .ref h), (2, .ref kx)]) hx hb dX4_fixupWithComparator_50 rfl hl (by decide) rfl (fun ls hl => ?_)
          refine lv_goto (tgt := 7) hx hb dX4_fixupWithComparator_51 (by decide) ?_
          have hw9 : wq_ true val (some kx) ≤ wq_ true val (some px) := wt_of e_x c2
          obtain ⟨hu2, hp2⟩ := up_step hu hj2 hjn ep hw9
          exact ih (j / 2) (va_up g j (some px)) H locs ls (by omega) (by omega) (by omega) hu2 (hp2.trans hp) (up_in hg hpx) hP hD hS (lv_sub hl [1, 0, 2] rfl)
  rw [← up_same ek] at hu
  exact loop k k f _ _ ls (Nat.le_refl k) hk hkn hu (by rw [up_same ek]) hm hP hD hS (lv_sub hl [1, 2, 0] rfl)
set_option maxHeartbeats 4000000 in
set_option maxRecDepth 100000 in
/-- fixdown(k): all behind k is in order -/
theorem mX4_fixdown (l : Launch) (G : gT) (val : Nat → Int32) (L : List Nat) (h ar n cap k sz : Nat) (r : Option Nat) (f : Nat → Option Nat) (hk : 1 ≤ k) (hkn : k ≤ n) (hn : n ≤ cap) (hc9 : cap ≤ 1000) (hm : ∀ i, 1 ≤ i → i ≤ n → ∃ y, y ∈ L ∧ f i = some y) (hd : hq_hp (wq_ false val) (k + 1) f n) : Met l yX4_fixdown (ws_ yX4_fixdown cX4_fixdown 4 none) (rm_ 2 0 0 43) (Pw G val L [.ref h, .int (nI k)] sz (hw_ G h r ar n cap f)) (va_Qv (fun f2 : Nat → Option Nat => hq_hp (wq_ false val) k f2 n ∧ (hq_seg f2 n).Perm (hq_seg f n)) (Bw G (va_A (hw_ G h r ar n cap f) sz) (fun f2 => hw_ G h r ar n cap f2)) (va_A (hw_ G h r ar n cap f) sz)) 0 0 (va_A (hw_ G h r ar n cap f) sz) := by
  refine Met.ofW (cc := cX4_fixdown) (maxL := 4) (ret := none) (by decide) rfl ?_
  intro p e s m args below meth c s₁ B hml hv
  obtain ⟨rfl, hsz, hP, hD0, hE, hB⟩ := hv
  have hx := B.exec
  have hb := B.bytes
  have hr := B.returns
  have hts := atoms_spec (ws := ws_ yX4_fixdown cX4_fixdown 4 none) B.pre
  have hts : ∀ w ∈ lw_all, w.before _ s = true := fun w h => hts w (List.mem_cons_of_mem _ h)
  have hown : s.vm.findClass RX4 = some m.cls := findClass_of_methodNamed B.named
  have hlocks := B.notSynchronized
  subst hsz
  have hD := hD0.self (sz := s.heap.size)
  generalize hAe : va_A (hw_ G h r ar n cap f) s.heap.size = A at hD hE hB ⊢
  have hA : ∀ q : Nat, s.heap.size ≤ q → A q := fun q h => by rw [← hAe]; exact Or.inr h
  have hS : va_S A s.heap s.heap [] := va_S.rf
  have hl := lv_entry ([.ref h, .int (nI k)]) (n := 4) (Nat.le_of_ble_eq_true rfl)
  rw [lg_entry_eq]
  generalize (lg_sl ([.ref h, .int (nI k)]) ++ List.replicate (4 - (lg_sl ([.ref h, .int (nI k)])).length) Slot.unset).toArray = ls at hl ⊢
  have hl : lv_has ls 4 [(0, .ref h), (1, .int (nI k))] := hl
  have hP : va_P G.1 clz (hw_ G h r ar n cap f) _ := hP
  have hD : va_D A (hw_ G h r ar n cap f) := hD
  refine lv_aload_n hx hb dX4_fixdown_0 rfl (lv_at hl 0 rfl) ?_
  refine va_get (D := G.1) (ci := 0) (v := .ref ar) (C := RX4) (T := TX4) (N := 4) hx hb hts in_X4 hown hE.1 hP 0 rfl rfl 1 (by decide) (hts _ q151) (fun x9 h9 => u_same (hts _ q152) x9 h9) rfl dX4_fixdown_1 ?_
  refine lv_iload_n hx hb dX4_fixdown_4 rfl (lv_at hl 1 rfl) ?_
  obtain ⟨kx, hkx, ek⟩ := hm k hk hkn
  refine va_aldq hx hb hE.1 hP 1 0 rfl rfl (vp_in_nI (n := k) (by omega) (by omega)) dX4_fixdown_5 ?_
  refine lt_q (y := .ref kx) (by rw [nI_clamp (by omega), ek]; rfl) ?_
  refine lv_astore_n (lv' := [(2, .ref kx), (0, .ref h), (1, .int (nI k))]) hx hb dX4_fixdown_6 rfl hl (by decide) rfl (fun ls hl => ?_)
  have loop : ∀ (N j : Nat) (g : Nat → Option Nat) (H : Heap) (locs : List Loc) (ls : Array Slot), n < j + N → k ≤ j → j ≤ n → hq_dn (wq_ false val) k (va_up g j (some kx)) j n → (hq_seg (va_up g j (some kx)) n).Perm (hq_seg f n) → (∀ i, 1 ≤ i → i ≤ n → ∃ y, y ∈ L ∧ g i = some y) → va_P G.1 clz (hw_ G h r ar n cap g) H → va_D A (hw_ G h r ar n cap g) → va_S A s.heap H locs → lv_has ls 4 [(0, .ref h), (1, .int (nI j)), (2, .ref kx)] → W p l e (headSpec (ws_ yX4_fixdown cX4_fixdown 4 none) (rm_ 2 0 0 43)).room s m ([.ref h, .int (nI k)] : List Value).toArray below meth c H locs 0 0 (MQ below (va_Qv (fun f2 : Nat → Option Nat => hq_hp (wq_ false val) k f2 n ∧ (hq_seg f2 n).Perm (hq_seg f n)) (Bw G A (fun f2 => hw_ G h r ar n cap f2)) A) ([.ref h, .int (nI k)] : List Value).toArray s 0 0 A) (F0 m 7 ls []) := by
    intro N
    induction N with
    | zero =>
      intro j g H locs ls h9 h1 h2
      exact absurd h9 (by omega)
    | succ N ih =>
      intro j g H locs ls hjN hkj hjn hu hp hg hP hD hS hl
      refine lv_iconst (v := 2) hx hb dX4_fixdown_7 (by decide) ?_
      refine lv_iload_n hx hb dX4_fixdown_8 rfl (lv_at hl 1 rfl) ?_
      refine lv_imul hx hb dX4_fixdown_9 ?_
      refine lt_i (y := nI (2 * j)) (ml_2 j) ?_
      refine lv_aload_n hx hb dX4_fixdown_10 rfl (lv_at hl 0 rfl) ?_
      refine va_get (D := G.1) (ci := 0) (v := .int (nI n)) (C := RX4) (T := TX4) (N := 4) hx hb hts in_X4 hown hE.1 hP 0 rfl rfl 2 (by decide) (hts _ q156) (fun x9 h9 => u_same (hts _ q157) x9 h9) rfl dX4_fixdown_11 ?_
      refine lv_icmp_gt (tgt := 91) hx hb dX4_fixdown_14 (by decide) (fun c1 => ?_) (fun c1 => ?_)
      · refine lv_aload_n hx hb dX4_fixdown_91 rfl (lv_at hl 0 rfl) ?_
        refine va_get (D := G.1) (ci := 0) (v := .ref ar) (C := RX4) (T := TX4) (N := 4) hx hb hts in_X4 hown hE.1 hP 0 rfl rfl 1 (by decide) (hts _ q151) (fun x9 h9 => u_same (hts _ q152) x9 h9) rfl dX4_fixdown_92 ?_
        refine lv_iload_n hx hb dX4_fixdown_95 rfl (lv_at hl 1 rfl) ?_
        refine lv_aload_n hx hb dX4_fixdown_96 rfl (lv_at hl 2 rfl) ?_
        refine vb_astq (E := "java/lang/Object") (C := "java/lang/Integer") hx hb hE.1 hP hD hS 1 0 rfl rfl (bx.recv ((hB kx hkx).now hS)) (fun c1 c2 => vb_asgC hE.2.1.2.1.2 c1 c2) (vp_in_nI (n := j) (by omega) (by omega)) dX4_fixdown_97 (fun H locs hP hD hS => ?_)
        rw [nI_clamp (by omega)] at hP hD
        have hP : va_P G.1 clz (hw_ G h r ar n cap (va_up g j (some kx))) _ := hP
        have hD : va_D A (hw_ G h r ar n cap (va_up g j (some kx))) := hD
        exact W.vret hx hb hr (fun t ht hW => ⟨⟨va_up g j (some kx), rfl, ⟨dn_end hu (by omega) (Or.inl (by have := (nI_ltI (by omega) (by omega)).mp c1; omega)), hp⟩, by rw [ht]; exact hP, hD⟩, hS.F ht⟩) hS.2.2 dX4_fixdown_98
      · have h2j : 2 * j ≤ n := by rcases Nat.lt_or_ge n (2 * j) with h9 | h9; exact absurd (nI_lt h9 (by omega)) c1; exact h9
        have mid : ∀ (c9 : Nat) (ls : Array Slot), c9 / 2 = j → c9 ≤ n → (∀ i, 2 ≤ i → i ≤ n → i / 2 = j → wq_ false val (g c9) ≤ wq_ false val (g i)) → lv_has ls 4 [(3, .int (nI c9)), (0, .ref h), (1, .int (nI j)), (2, .ref kx)] → W p l e (headSpec (ws_ yX4_fixdown cX4_fixdown 4 none) (rm_ 2 0 0 43)).room s m ([.ref h, .int (nI k)] : List Value).toArray below meth c H locs 0 0 (MQ below (va_Qv (fun f2 : Nat → Option Nat => hq_hp (wq_ false val) k f2 n ∧ (hq_seg f2 n).Perm (hq_seg f n)) (Bw G A (fun f2 => hw_ G h r ar n cap f2)) A) ([.ref h, .int (nI k)] : List Value).toArray s 0 0 A) (F0 m 55 ls []) := by
          intro c9 ls hcj hcn hmin hl
          refine lv_aload_n hx hb dX4_fixdown_55 rfl (lv_at hl 3 rfl) ?_
          refine va_castY (C := "java/lang/Integer") hx hb hown (hts _ q251) hE.2.1.2.1.1 (bx.recv ((hB kx hkx).now hS)) dX4_fixdown_56 ?_
          refine lv_aload_n hx hb dX4_fixdown_59 rfl (lv_at hl 1 rfl) ?_
          refine va_get (D := G.1) (ci := 0) (v := .ref ar) (C := RX4) (T := TX4) (N := 4) hx hb hts in_X4 hown hE.1 hP 0 rfl rfl 1 (by decide) (hts _ q151) (fun x9 h9 => u_same (hts _ q152) x9 h9) rfl dX4_fixdown_60 ?_
          refine lv_iload_n hx hb dX4_fixdown_63 rfl (lv_at hl 0 rfl) ?_
          obtain ⟨cx, hcx, ec⟩ := hg c9 (by omega) (by omega)
          refine va_aldq hx hb hE.1 hP 1 0 rfl rfl (vp_in_nI (n := c9) (by omega) (by omega)) dX4_fixdown_64 ?_
          refine lt_q (y := .ref cx) (by rw [nI_clamp (by omega), ec]; rfl) ?_
          refine vp_callSi (va_Run.run (va_runS (As := [.ref kx, .ref cx]) (rest := []) ⟨hx, hb, hml, hown, hts⟩ (mX1_order l kx cx (val kx) (val cx)) (va_cwS 2 hts (lw_S q252 q253 q3 q254) rfl rfl rfl (by decide +kernel) ⟨Nat.le_of_ble_eq_true rfl, Nat.le_of_ble_eq_true rfl⟩) (Pb.pre (two_bx ((hB kx hkx).now hS) ((hB cx hcx).now hS))) rfl rfl hl.1 rfl (lv_room (Nat.le_of_ble_eq_true rfl)) dX4_fixdown_65 ⟨Nat.le_of_ble_eq_true rfl, Nat.le_of_ble_eq_true rfl⟩)) (fun x e_x => ?_)
          refine lv_if_gt (tgt := 74) hx hb dX4_fixdown_68 (by decide) (fun c2 => ?_) (fun c2 => ?_)
          · refine lv_aload_n hx hb dX4_fixdown_74 rfl (lv_at hl 1 rfl) ?_
            refine va_get (D := G.1) (ci := 0) (v := .ref ar) (C := RX4) (T := TX4) (N := 4) hx hb hts in_X4 hown hE.1 hP 0 rfl rfl 1 (by decide) (hts _ q151) (fun x9 h9 => u_same (hts _ q152) x9 h9) rfl dX4_fixdown_75 ?_
            refine lv_iload_n hx hb dX4_fixdown_78 rfl (lv_at hl 2 rfl) ?_
            refine lv_aload_n hx hb dX4_fixdown_79 rfl (lv_at hl 1 rfl) ?_
            refine va_get (D := G.1) (ci := 0) (v := .ref ar) (C := RX4) (T := TX4) (N := 4) hx hb hts in_X4 hown hE.1 hP 0 rfl rfl 1 (by decide) (hts _ q151) (fun x9 h9 => u_same (hts _ q152) x9 h9) rfl dX4_fixdown_80 ?_
            refine lv_iload_n hx hb dX4_fixdown_83 rfl (lv_at hl 0 rfl) ?_
            refine va_aldq hx hb hE.1 hP 1 0 rfl rfl (vp_in_nI (n := c9) (by omega) (by omega)) dX4_fixdown_84 ?_
            refine lt_q (y := .ref cx) (by rw [nI_clamp (by omega), ec]; rfl) ?_
            refine vb_astq (E := "java/lang/Object") (C := "java/lang/Integer") hx hb hE.1 hP hD hS 1 0 rfl rfl (bx.recv ((hB cx hcx).now hS)) (fun c1 c2 => vb_asgC hE.2.1.2.1.2 c1 c2) (vp_in_nI (n := j) (by omega) (by omega)) dX4_fixdown_85 (fun H locs hP hD hS => ?_)
            rw [nI_clamp (by omega)] at hP hD
            have hP : va_P G.1 clz (hw_ G h r ar n cap (va_up g j (some cx))) _ := hP
            have hD : va_D A (hw_ G h r ar n cap (va_up g j (some cx))) := hD
            refine lv_iload_n hx hb dX4_fixdown_86 rfl (lv_at hl 0 rfl) ?_
            refine lv_istore_n (lv' := [(1, .int (nI c9)), (3, .int (nI c9)), (0, .ref h), (2, .ref kx)]) hx hb dX4_fixdown_87 rfl hl (by decide) rfl (fun ls hl => ?_)
            refine lv_goto (tgt := 7) hx hb dX4_fixdown_88 (by decide) ?_
            have hw9 : wq_ false val (some cx) ≤ wq_ false val (some kx) := wt_of e_x (Int32.not_le.mpr c2)
            obtain ⟨hu2, hp2⟩ := dn_step hu hkj (by omega) hcj hcn hmin ec hw9
            exact ih c9 (va_up g j (some cx)) H locs ls (by omega) (by omega) hcn hu2 (hp2.trans hp) (up_in hg hcx) hP hD hS (lv_sub hl [2, 0, 3] rfl)
          · refine lv_goto (tgt := 91) hx hb dX4_fixdown_71 (by decide) ?_
            have h9 := e_x.mp (Int32.not_lt.mp c2)
            refine lv_aload_n hx hb dX4_fixdown_91 rfl (lv_at hl 1 rfl) ?_
            refine va_get (D := G.1) (ci := 0) (v := .ref ar) (C := RX4) (T := TX4) (N := 4) hx hb hts in_X4 hown hE.1 hP 0 rfl rfl 1 (by decide) (hts _ q151) (fun x9 h9 => u_same (hts _ q152) x9 h9) rfl dX4_fixdown_92 ?_
            refine lv_iload_n hx hb dX4_fixdown_95 rfl (lv_at hl 2 rfl) ?_
            refine lv_aload_n hx hb dX4_fixdown_96 rfl (lv_at hl 3 rfl) ?_
            refine vb_astq (E := "java/lang/Object") (C := "java/lang/Integer") hx hb hE.1 hP hD hS 1 0 rfl rfl (bx.recv ((hB kx hkx).now hS)) (fun c1 c2 => vb_asgC hE.2.1.2.1.2 c1 c2) (vp_in_nI (n := j) (by omega) (by omega)) dX4_fixdown_97 (fun H locs hP hD hS => ?_)
            rw [nI_clamp (by omega)] at hP hD
            have hP : va_P G.1 clz (hw_ G h r ar n cap (va_up g j (some kx))) _ := hP
            have hD : va_D A (hw_ G h r ar n cap (va_up g j (some kx))) := hD
            exact W.vret hx hb hr (fun t ht hW => ⟨⟨va_up g j (some kx), rfl, ⟨dn_end hu (by omega) (Or.inr fun i a1 a2 a3 => Int.le_trans (show wq_ false val (some kx) ≤ wq_ false val (g c9) by rw [ec]; exact h9) (hmin i a1 a2 a3)), hp⟩, by rw [ht]; exact hP, hD⟩, hS.F ht⟩) hS.2.2 dX4_fixdown_98
        refine lv_iconst (v := 2) hx hb dX4_fixdown_17 (by decide) ?_
        refine lv_iload_n hx hb dX4_fixdown_18 rfl (lv_at hl 1 rfl) ?_
        refine lv_imul hx hb dX4_fixdown_19 ?_
        refine lt_i (y := nI (2 * j)) (ml_2 j) ?_
        refine lv_istore_n (lv' := [(3, .int (nI (2 * j))), (0, .ref h), (1, .int (nI j)), (2, .ref kx)]) hx hb dX4_fixdown_20 rfl hl (by decide) rfl (fun ls hl => ?_)
        refine lv_iload_n hx hb dX4_fixdown_21 rfl (lv_at hl 0 rfl) ?_
        refine lv_aload_n hx hb dX4_fixdown_22 rfl (lv_at hl 1 rfl) ?_
        refine va_get (D := G.1) (ci := 0) (v := .int (nI n)) (C := RX4) (T := TX4) (N := 4) hx hb hts in_X4 hown hE.1 hP 0 rfl rfl 2 (by decide) (hts _ q156) (fun x9 h9 => u_same (hts _ q157) x9 h9) rfl dX4_fixdown_23 ?_
        refine lv_icmp_ge (tgt := 55) hx hb dX4_fixdown_26 (by decide) (fun c3 => ?_) (fun c3 => ?_)
        · exact mid (2 * j) ls (by omega) h2j (two_kids (Int.le_refl _) (fun h9 => absurd ((nI_leI (by omega) (by omega)).mp c3) (by omega))) (lv_sub hl [0, 1, 2, 3] rfl)
        · have h2k : 2 * j + 1 ≤ n := by rcases Nat.lt_or_ge (2 * j) n with h9 | h9; exact h9; exact absurd (nI_le h9 (by omega)) c3
          obtain ⟨y1, hy1, ey1⟩ := hg (2 * j) (by omega) (by omega)
          obtain ⟨y2, hy2, ey2⟩ := hg (2 * j + 1) (by omega) (by omega)
          refine lv_aload_n hx hb dX4_fixdown_29 rfl (lv_at hl 1 rfl) ?_
          refine va_get (D := G.1) (ci := 0) (v := .ref ar) (C := RX4) (T := TX4) (N := 4) hx hb hts in_X4 hown hE.1 hP 0 rfl rfl 1 (by decide) (hts _ q151) (fun x9 h9 => u_same (hts _ q152) x9 h9) rfl dX4_fixdown_30 ?_
          refine lv_iload_n hx hb dX4_fixdown_33 rfl (lv_at hl 0 rfl) ?_
          refine va_aldq hx hb hE.1 hP 1 0 rfl rfl (vp_in_nI (n := 2 * j) (by omega) (by omega)) dX4_fixdown_34 ?_
          refine lt_q (y := .ref y1) (by rw [nI_clamp (by omega), ey1]; rfl) ?_
          refine va_castY (C := "java/lang/Integer") hx hb hown (hts _ q251) hE.2.1.2.1.1 (bx.recv ((hB y1 hy1).now hS)) dX4_fixdown_35 ?_
          refine lv_aload_n hx hb dX4_fixdown_38 rfl (lv_at hl 1 rfl) ?_
          refine va_get (D := G.1) (ci := 0) (v := .ref ar) (C := RX4) (T := TX4) (N := 4) hx hb hts in_X4 hown hE.1 hP 0 rfl rfl 1 (by decide) (hts _ q151) (fun x9 h9 => u_same (hts _ q152) x9 h9) rfl dX4_fixdown_39 ?_
          refine lv_iload_n hx hb dX4_fixdown_42 rfl (lv_at hl 0 rfl) ?_
          refine lv_iconst (v := 1) hx hb dX4_fixdown_43 (by decide) ?_
          refine lv_iadd hx hb dX4_fixdown_44 ?_
          refine lt_i (y := nI (2 * j + 1)) (nI_1 _) ?_
          refine va_aldq hx hb hE.1 hP 1 0 rfl rfl (vp_in_nI (n := 2 * j + 1) (by omega) (by omega)) dX4_fixdown_45 ?_
          refine lt_q (y := .ref y2) (by rw [nI_clamp (by omega), ey2]; rfl) ?_
          refine vp_callSi (va_Run.run (va_runS (As := [.ref y1, .ref y2]) (rest := []) ⟨hx, hb, hml, hown, hts⟩ (mX1_order l y1 y2 (val y1) (val y2)) (va_cwS 2 hts (lw_S q252 q253 q3 q254) rfl rfl rfl (by decide +kernel) ⟨Nat.le_of_ble_eq_true rfl, Nat.le_of_ble_eq_true rfl⟩) (Pb.pre (two_bx ((hB y1 hy1).now hS) ((hB y2 hy2).now hS))) rfl rfl hl.1 rfl (lv_room (Nat.le_of_ble_eq_true rfl)) dX4_fixdown_46 ⟨Nat.le_of_ble_eq_true rfl, Nat.le_of_ble_eq_true rfl⟩)) (fun x e_x => ?_)
          refine lv_if_le (tgt := 55) hx hb dX4_fixdown_49 (by decide) (fun c4 => ?_) (fun c4 => ?_)
          · exact mid (2 * j) ls (by omega) h2j (two_kids (Int.le_refl _) (fun _ => by rw [ey1, ey2]; exact e_x.mp c4)) (lv_sub hl [0, 1, 2, 3] rfl)
          · refine lv_iinc (v := nI (2 * j + 1)) (lv' := [(3, .int (nI (2 * j + 1))), (0, .ref h), (1, .int (nI j)), (2, .ref kx)]) hx hb dX4_fixdown_52 hl (k := 0) rfl (nI_1 _) (by decide) rfl (fun ls hl => ?_)
            exact mid (2 * j + 1) ls (by omega) h2k (two_kids (by rw [ey1, ey2]; exact wt_of e_x c4) (fun _ => Int.le_refl _)) (lv_sub hl [0, 1, 2, 3] rfl)
  have hu := hq_dn_start hk hd
  rw [← up_same ek] at hu
  exact loop (n + 1) k f _ _ ls (by omega) (Nat.le_refl k) hkn hu (by rw [up_same ek]) hm hP hD hS (lv_sub hl [1, 2, 0] rfl)
set_option maxHeartbeats 4000000 in
set_option maxRecDepth 100000 in
/-- fixdownWithComparator(k): all behind k is in order -/
theorem mX4_fixdownWithComparator (l : Launch) (G : gT) (val : Nat → Int32) (L : List Nat) (h ar n cap k sz : Nat) (f : Nat → Option Nat) (hk : 1 ≤ k) (hkn : k ≤ n) (hn : n ≤ cap) (hc9 : cap ≤ 1000) (hm : ∀ i, 1 ≤ i → i ≤ n → ∃ y, y ∈ L ∧ f i = some y) (hd : hq_hp (wq_ true val) (k + 1) f n) : Met l yX4_fixdownWithComparator (ws_ yX4_fixdownWithComparator cX4_fixdownWithComparator 4 none) (rm_ 3 0 0 66) (Pw G val L [.ref h, .int (nI k)] sz (hw_ G h (some (gW G)) ar n cap f)) (va_Qv (fun f2 : Nat → Option Nat => hq_hp (wq_ true val) k f2 n ∧ (hq_seg f2 n).Perm (hq_seg f n)) (Bw G (va_A (hw_ G h (some (gW G)) ar n cap f) sz) (fun f2 => hw_ G h (some (gW G)) ar n cap f2)) (va_A (hw_ G h (some (gW G)) ar n cap f) sz)) 0 0 (va_A (hw_ G h (some (gW G)) ar n cap f) sz) := by
  refine Met.ofW (cc := cX4_fixdownWithComparator) (maxL := 4) (ret := none) (by decide) rfl ?_
  intro p e s m args below meth c s₁ B hml hv
  obtain ⟨rfl, hsz, hP, hD0, hE, hB⟩ := hv
  have hx := B.exec
  have hb := B.bytes
  have hr := B.returns
  have hts := atoms_spec (ws := ws_ yX4_fixdownWithComparator cX4_fixdownWithComparator 4 none) B.pre
  have hts : ∀ w ∈ lw_all, w.before _ s = true := fun w h => hts w (List.mem_cons_of_mem _ h)
  have hown : s.vm.findClass RX4 = some m.cls := findClass_of_methodNamed B.named
  have hlocks := B.notSynchronized
  subst hsz
  have hD := hD0.self (sz := s.heap.size)
  generalize hAe : va_A (hw_ G h (some (gW G)) ar n cap f) s.heap.size = A at hD hE hB ⊢
  have hA : ∀ q : Nat, s.heap.size ≤ q → A q := fun q h => by rw [← hAe]; exact Or.inr h
  have hS : va_S A s.heap s.heap [] := va_S.rf
  have hl := lv_entry ([.ref h, .int (nI k)]) (n := 4) (Nat.le_of_ble_eq_true rfl)
  rw [lg_entry_eq]
  generalize (lg_sl ([.ref h, .int (nI k)]) ++ List.replicate (4 - (lg_sl ([.ref h, .int (nI k)])).length) Slot.unset).toArray = ls at hl ⊢
  have hl : lv_has ls 4 [(0, .ref h), (1, .int (nI k))] := hl
  have hP : va_P G.1 clz (hw_ G h (some (gW G)) ar n cap f) _ := hP
  have hD : va_D A (hw_ G h (some (gW G)) ar n cap f) := hD
  refine lv_aload_n hx hb dX4_fixdownWithComparator_0 rfl (lv_at hl 0 rfl) ?_
  refine va_get (D := G.1) (ci := 0) (v := .ref ar) (C := RX4) (T := TX4) (N := 4) hx hb hts in_X4 hown hE.1 hP 0 rfl rfl 1 (by decide) (hts _ q151) (fun x9 h9 => u_same (hts _ q152) x9 h9) rfl dX4_fixdownWithComparator_1 ?_
  refine lv_iload_n hx hb dX4_fixdownWithComparator_4 rfl (lv_at hl 1 rfl) ?_
  obtain ⟨kx, hkx, ek⟩ := hm k hk hkn
  refine va_aldq hx hb hE.1 hP 1 0 rfl rfl (vp_in_nI (n := k) (by omega) (by omega)) dX4_fixdownWithComparator_5 ?_
  refine lt_q (y := .ref kx) (by rw [nI_clamp (by omega), ek]; rfl) ?_
  refine lv_astore_n (lv' := [(2, .ref kx), (0, .ref h), (1, .int (nI k))]) hx hb dX4_fixdownWithComparator_6 rfl hl (by decide) rfl (fun ls hl => ?_)
  have loop : ∀ (N j : Nat) (g : Nat → Option Nat) (H : Heap) (locs : List Loc) (ls : Array Slot), n < j + N → k ≤ j → j ≤ n → hq_dn (wq_ true val) k (va_up g j (some kx)) j n → (hq_seg (va_up g j (some kx)) n).Perm (hq_seg f n) → (∀ i, 1 ≤ i → i ≤ n → ∃ y, y ∈ L ∧ g i = some y) → va_P G.1 clz (hw_ G h (some (gW G)) ar n cap g) H → va_D A (hw_ G h (some (gW G)) ar n cap g) → va_S A s.heap H locs → lv_has ls 4 [(0, .ref h), (1, .int (nI j)), (2, .ref kx)] → W p l e (headSpec (ws_ yX4_fixdownWithComparator cX4_fixdownWithComparator 4 none) (rm_ 3 0 0 66)).room s m ([.ref h, .int (nI k)] : List Value).toArray below meth c H locs 0 0 (MQ below (va_Qv (fun f2 : Nat → Option Nat => hq_hp (wq_ true val) k f2 n ∧ (hq_seg f2 n).Perm (hq_seg f n)) (Bw G A (fun f2 => hw_ G h (some (gW G)) ar n cap f2)) A) ([.ref h, .int (nI k)] : List Value).toArray s 0 0 A) (F0 m 7 ls []) := by
    intro N
    induction N with
    | zero =>
      intro j g H locs ls h9 h1 h2
      exact absurd h9 (by omega)
    | succ N ih =>
      intro j g H locs ls hjN hkj hjn hu hp hg hP hD hS hl
      refine lv_iconst (v := 2) hx hb dX4_fixdownWithComparator_7 (by decide) ?_
      refine lv_iload_n hx hb dX4_fixdownWithComparator_8 rfl (lv_at hl 1 rfl) ?_
      refine lv_imul hx hb dX4_fixdownWithComparator_9 ?_
      refine lt_i (y := nI (2 * j)) (ml_2 j) ?_
      refine lv_aload_n hx hb dX4_fixdownWithComparator_10 rfl (lv_at hl 0 rfl) ?_
      refine va_get (D := G.1) (ci := 0) (v := .int (nI n)) (C := RX4) (T := TX4) (N := 4) hx hb hts in_X4 hown hE.1 hP 0 rfl rfl 2 (by decide) (hts _ q156) (fun x9 h9 => u_same (hts _ q157) x9 h9) rfl dX4_fixdownWithComparator_11 ?_
      refine lv_icmp_gt (tgt := 97) hx hb dX4_fixdownWithComparator_14 (by decide) (fun c1 => ?_) (fun c1 => ?_)
      · refine lv_aload_n hx hb dX4_fixdownWithComparator_97 rfl (lv_at hl 0 rfl) ?_
        refine va_get (D := G.1) (ci := 0) (v := .ref ar) (C := RX4) (T := TX4) (N := 4) hx hb hts in_X4 hown hE.1 hP 0 rfl rfl 1 (by decide) (hts _ q151) (fun x9 h9 => u_same (hts _ q152) x9 h9) rfl dX4_fixdownWithComparator_98 ?_
        refine lv_iload_n hx hb dX4_fixdownWithComparator_101 rfl (lv_at hl 1 rfl) ?_
        refine lv_aload_n hx hb dX4_fixdownWithComparator_102 rfl (lv_at hl 2 rfl) ?_
        refine vb_astq (E := "java/lang/Object") (C := "java/lang/Integer") hx hb hE.1 hP hD hS 1 0 rfl rfl (bx.recv ((hB kx hkx).now hS)) (fun c1 c2 => vb_asgC hE.2.1.2.1.2 c1 c2) (vp_in_nI (n := j) (by omega) (by omega)) dX4_fixdownWithComparator_103 (fun H locs hP hD hS => ?_)
        rw [nI_clamp (by omega)] at hP hD
        have hP : va_P G.1 clz (hw_ G h (some (gW G)) ar n cap (va_up g j (some kx))) _ := hP
        have hD : va_D A (hw_ G h (some (gW G)) ar n cap (va_up g j (some kx))) := hD
        exact W.vret hx hb hr (fun t ht hW => ⟨⟨va_up g j (some kx), rfl, ⟨dn_end hu (by omega) (Or.inl (by have := (nI_ltI (by omega) (by omega)).mp c1; omega)), hp⟩, by rw [ht]; exact hP, hD⟩, hS.F ht⟩) hS.2.2 dX4_fixdownWithComparator_104
      · have h2j : 2 * j ≤ n := by rcases Nat.lt_or_ge n (2 * j) with h9 | h9; exact absurd (nI_lt h9 (by omega)) c1; exact h9
        have mid : ∀ (c9 : Nat) (ls : Array Slot), c9 / 2 = j → c9 ≤ n → (∀ i, 2 ≤ i → i ≤ n → i / 2 = j → wq_ true val (g c9) ≤ wq_ true val (g i)) → lv_has ls 4 [(3, .int (nI c9)), (0, .ref h), (1, .int (nI j)), (2, .ref kx)] → W p l e (headSpec (ws_ yX4_fixdownWithComparator cX4_fixdownWithComparator 4 none) (rm_ 3 0 0 66)).room s m ([.ref h, .int (nI k)] : List Value).toArray below meth c H locs 0 0 (MQ below (va_Qv (fun f2 : Nat → Option Nat => hq_hp (wq_ true val) k f2 n ∧ (hq_seg f2 n).Perm (hq_seg f n)) (Bw G A (fun f2 => hw_ G h (some (gW G)) ar n cap f2)) A) ([.ref h, .int (nI k)] : List Value).toArray s 0 0 A) (F0 m 58 ls []) := by
          intro c9 ls hcj hcn hmin hl
          refine lv_aload_n hx hb dX4_fixdownWithComparator_58 rfl (lv_at hl 1 rfl) ?_
          refine va_get (D := G.1) (ci := 0) (v := .ref (gW G)) (C := RX4) (T := TX4) (N := 4) hx hb hts in_X4 hown hE.1 hP 0 rfl rfl 0 (by decide) (hts _ q147) (fun x9 h9 => u_same (hts _ q148) x9 h9) rfl dX4_fixdownWithComparator_59 ?_
          refine lv_aload_n hx hb dX4_fixdownWithComparator_62 rfl (lv_at hl 3 rfl) ?_
          refine lv_aload_n hx hb dX4_fixdownWithComparator_63 rfl (lv_at hl 1 rfl) ?_
          refine va_get (D := G.1) (ci := 0) (v := .ref ar) (C := RX4) (T := TX4) (N := 4) hx hb hts in_X4 hown hE.1 hP 0 rfl rfl 1 (by decide) (hts _ q151) (fun x9 h9 => u_same (hts _ q152) x9 h9) rfl dX4_fixdownWithComparator_64 ?_
          refine lv_iload_n hx hb dX4_fixdownWithComparator_67 rfl (lv_at hl 0 rfl) ?_
          obtain ⟨cx, hcx, ec⟩ := hg c9 (by omega) (by omega)
          refine va_aldq hx hb hE.1 hP 1 0 rfl rfl (vp_in_nI (n := c9) (by omega) (by omega)) dX4_fixdownWithComparator_68 ?_
          refine lt_q (y := .ref cx) (by rw [nI_clamp (by omega), ec]; rfl) ?_
          refine va_csFi (runF_ (As := [.ref kx, .ref cx]) (rest := []) ⟨hx, hb, hml, hown, hts⟩ (mX5_compare l (gW G) kx cx (val kx) (val cx)) (va_cwF 2 hts (lw_F q267 q271 q273 q410 q275) rfl rfl rfl hE.2.1.2.2.2 (by decide +kernel) ⟨Nat.le_of_ble_eq_true rfl, Nat.le_of_ble_eq_true rfl⟩) (Pd.preV (hE.down hS) (two_bx ((hB kx hkx).now hS) ((hB cx hcx).now hS))) rfl rfl hl.1 rfl (lv_room (Nat.le_of_ble_eq_true rfl)) dX4_fixdownWithComparator_69 ⟨Nat.le_of_ble_eq_true rfl, Nat.le_of_ble_eq_true rfl⟩) (fun x e_x => ?_)
          refine lv_if_gt (tgt := 80) hx hb dX4_fixdownWithComparator_74 (by decide) (fun c2 => ?_) (fun c2 => ?_)
          · refine lv_aload_n hx hb dX4_fixdownWithComparator_80 rfl (lv_at hl 1 rfl) ?_
            refine va_get (D := G.1) (ci := 0) (v := .ref ar) (C := RX4) (T := TX4) (N := 4) hx hb hts in_X4 hown hE.1 hP 0 rfl rfl 1 (by decide) (hts _ q151) (fun x9 h9 => u_same (hts _ q152) x9 h9) rfl dX4_fixdownWithComparator_81 ?_
            refine lv_iload_n hx hb dX4_fixdownWithComparator_84 rfl (lv_at hl 2 rfl) ?_
            refine lv_aload_n hx hb dX4_fixdownWithComparator_85 rfl (lv_at hl 1 rfl) ?_
            refine va_get (D := G.1) (ci := 0) (v := .ref ar) (C := RX4) (T := TX4) (N := 4) hx hb hts in_X4 hown hE.1 hP 0 rfl rfl 1 (by decide) (hts _ q151) (fun x9 h9 => u_same (hts _ q152) x9 h9) rfl dX4_fixdownWithComparator_86 ?_
            refine lv_iload_n hx hb dX4_fixdownWithComparator_89 rfl (lv_at hl 0 rfl) ?_
            refine va_aldq hx hb hE.1 hP 1 0 rfl rfl (vp_in_nI (n := c9) (by omega) (by omega)) dX4_fixdownWithComparator_90 ?_
            refine lt_q (y := .ref cx) (by rw [nI_clamp (by omega), ec]; rfl) ?_
            refine vb_astq (E := "java/lang/Object") (C := "java/lang/Integer") hx hb hE.1 hP hD hS 1 0 rfl rfl (bx.recv ((hB cx hcx).now hS)) (fun c1 c2 => vb_asgC hE.2.1.2.1.2 c1 c2) (vp_in_nI (n := j) (by omega) (by omega)) dX4_fixdownWithComparator_91 (fun H locs hP hD hS => ?_)
            rw [nI_clamp (by omega)] at hP hD
            have hP : va_P G.1 clz (hw_ G h (some (gW G)) ar n cap (va_up g j (some cx))) _ := hP
            have hD : va_D A (hw_ G h (some (gW G)) ar n cap (va_up g j (some cx))) := hD
            refine lv_iload_n hx hb dX4_fixdownWithComparator_92 rfl (lv_at hl 0 rfl) ?_
            refine lv_istore_n (lv' := [(1, .int (nI c9)), (3, .int (nI c9)), (0, .ref h), (2, .ref kx)]) hx hb dX4_fixdownWithComparator_93 rfl hl (by decide) rfl (fun ls hl => ?_)
            refine lv_goto (tgt := 7) hx hb dX4_fixdownWithComparator_94 (by decide) ?_
            have hw9 : wq_ true val (some cx) ≤ wq_ true val (some kx) := wt_of e_x (Int32.not_le.mpr c2)
            obtain ⟨hu2, hp2⟩ := dn_step hu hkj (by omega) hcj hcn hmin ec hw9
            exact ih c9 (va_up g j (some cx)) H locs ls (by omega) (by omega) hcn hu2 (hp2.trans hp) (up_in hg hcx) hP hD hS (lv_sub hl [2, 0, 3] rfl)
          · refine lv_goto (tgt := 97) hx hb dX4_fixdownWithComparator_77 (by decide) ?_
            have h9 := e_x.mp (Int32.not_lt.mp c2)
            refine lv_aload_n hx hb dX4_fixdownWithComparator_97 rfl (lv_at hl 1 rfl) ?_
            refine va_get (D := G.1) (ci := 0) (v := .ref ar) (C := RX4) (T := TX4) (N := 4) hx hb hts in_X4 hown hE.1 hP 0 rfl rfl 1 (by decide) (hts _ q151) (fun x9 h9 => u_same (hts _ q152) x9 h9) rfl dX4_fixdownWithComparator_98 ?_
            refine lv_iload_n hx hb dX4_fixdownWithComparator_101 rfl (lv_at hl 2 rfl) ?_
            refine lv_aload_n hx hb dX4_fixdownWithComparator_102 rfl (lv_at hl 3 rfl) ?_
            refine vb_astq (E := "java/lang/Object") (C := "java/lang/Integer") hx hb hE.1 hP hD hS 1 0 rfl rfl (bx.recv ((hB kx hkx).now hS)) (fun c1 c2 => vb_asgC hE.2.1.2.1.2 c1 c2) (vp_in_nI (n := j) (by omega) (by omega)) dX4_fixdownWithComparator_103 (fun H locs hP hD hS => ?_)
            rw [nI_clamp (by omega)] at hP hD
            have hP : va_P G.1 clz (hw_ G h (some (gW G)) ar n cap (va_up g j (some kx))) _ := hP
            have hD : va_D A (hw_ G h (some (gW G)) ar n cap (va_up g j (some kx))) := hD
            exact W.vret hx hb hr (fun t ht hW => ⟨⟨va_up g j (some kx), rfl, ⟨dn_end hu (by omega) (Or.inr fun i a1 a2 a3 => Int.le_trans (show wq_ true val (some kx) ≤ wq_ true val (g c9) by rw [ec]; exact h9) (hmin i a1 a2 a3)), hp⟩, by rw [ht]; exact hP, hD⟩, hS.F ht⟩) hS.2.2 dX4_fixdownWithComparator_104
        refine lv_iconst (v := 2) hx hb dX4_fixdownWithComparator_17 (by decide) ?_
        refine lv_iload_n hx hb dX4_fixdownWithComparator_18 rfl (lv_at hl 1 rfl) ?_
        refine lv_imul hx hb dX4_fixdownWithComparator_19 ?_
        refine lt_i (y := nI (2 * j)) (ml_2 j) ?_
        refine lv_istore_n (lv' := [(3, .int (nI (2 * j))), (0, .ref h), (1, .int (nI j)), (2, .ref kx)]) hx hb dX4_fixdownWithComparator_20 rfl hl (by decide) rfl (fun ls hl => ?_)
        refine lv_iload_n hx hb dX4_fixdownWithComparator_21 rfl (lv_at hl 0 rfl) ?_
        refine lv_aload_n hx hb dX4_fixdownWithComparator_22 rfl (lv_at hl 1 rfl) ?_
        refine va_get (D := G.1) (ci := 0) (v := .int (nI n)) (C := RX4) (T := TX4) (N := 4) hx hb hts in_X4 hown hE.1 hP 0 rfl rfl 2 (by decide) (hts _ q156) (fun x9 h9 => u_same (hts _ q157) x9 h9) rfl dX4_fixdownWithComparator_23 ?_
        refine lv_icmp_ge (tgt := 58) hx hb dX4_fixdownWithComparator_26 (by decide) (fun c3 => ?_) (fun c3 => ?_)
        · exact mid (2 * j) ls (by omega) h2j (two_kids (Int.le_refl _) (fun h9 => absurd ((nI_leI (by omega) (by omega)).mp c3) (by omega))) (lv_sub hl [0, 1, 2, 3] rfl)
        · have h2k : 2 * j + 1 ≤ n := by rcases Nat.lt_or_ge (2 * j) n with h9 | h9; exact h9; exact absurd (nI_le h9 (by omega)) c3
          obtain ⟨y1, hy1, ey1⟩ := hg (2 * j) (by omega) (by omega)
          obtain ⟨y2, hy2, ey2⟩ := hg (2 * j + 1) (by omega) (by omega)
          refine lv_aload_n hx hb dX4_fixdownWithComparator_29 rfl (lv_at hl 1 rfl) ?_
          refine va_get (D := G.1) (ci := 0) (v := .ref (gW G)) (C := RX4) (T := TX4) (N := 4) hx hb hts in_X4 hown hE.1 hP 0 rfl rfl 0 (by decide) (hts _ q147) (fun x9 h9 => u_same (hts _ q148) x9 h9) rfl dX4_fixdownWithComparator_30 ?_
          refine lv_aload_n hx hb dX4_fixdownWithComparator_33 rfl (lv_at hl 1 rfl) ?_
          refine va_get (D := G.1) (ci := 0) (v := .ref ar) (C := RX4) (T := TX4) (N := 4) hx hb hts in_X4 hown hE.1 hP 0 rfl rfl 1 (by decide) (hts _ q151) (fun x9 h9 => u_same (hts _ q152) x9 h9) rfl dX4_fixdownWithComparator_34 ?_
          refine lv_iload_n hx hb dX4_fixdownWithComparator_37 rfl (lv_at hl 0 rfl) ?_
          refine va_aldq hx hb hE.1 hP 1 0 rfl rfl (vp_in_nI (n := 2 * j) (by omega) (by omega)) dX4_fixdownWithComparator_38 ?_
          refine lt_q (y := .ref y1) (by rw [nI_clamp (by omega), ey1]; rfl) ?_
          refine lv_aload_n hx hb dX4_fixdownWithComparator_39 rfl (lv_at hl 1 rfl) ?_
          refine va_get (D := G.1) (ci := 0) (v := .ref ar) (C := RX4) (T := TX4) (N := 4) hx hb hts in_X4 hown hE.1 hP 0 rfl rfl 1 (by decide) (hts _ q151) (fun x9 h9 => u_same (hts _ q152) x9 h9) rfl dX4_fixdownWithComparator_40 ?_
          refine lv_iload_n hx hb dX4_fixdownWithComparator_43 rfl (lv_at hl 0 rfl) ?_
          refine lv_iconst (v := 1) hx hb dX4_fixdownWithComparator_44 (by decide) ?_
          refine lv_iadd hx hb dX4_fixdownWithComparator_45 ?_
          refine lt_i (y := nI (2 * j + 1)) (nI_1 _) ?_
          refine va_aldq hx hb hE.1 hP 1 0 rfl rfl (vp_in_nI (n := 2 * j + 1) (by omega) (by omega)) dX4_fixdownWithComparator_46 ?_
          refine lt_q (y := .ref y2) (by rw [nI_clamp (by omega), ey2]; rfl) ?_
          refine va_csFi (runF_ (As := [.ref y1, .ref y2]) (rest := []) ⟨hx, hb, hml, hown, hts⟩ (mX5_compare l (gW G) y1 y2 (val y1) (val y2)) (va_cwF 2 hts (lw_F q267 q271 q273 q410 q275) rfl rfl rfl hE.2.1.2.2.2 (by decide +kernel) ⟨Nat.le_of_ble_eq_true rfl, Nat.le_of_ble_eq_true rfl⟩) (Pd.preV (hE.down hS) (two_bx ((hB y1 hy1).now hS) ((hB y2 hy2).now hS))) rfl rfl hl.1 rfl (lv_room (Nat.le_of_ble_eq_true rfl)) dX4_fixdownWithComparator_47 ⟨Nat.le_of_ble_eq_true rfl, Nat.le_of_ble_eq_true rfl⟩) (fun x e_x => ?_)
          refine lv_if_le (tgt := 58) hx hb dX4_fixdownWithComparator_52 (by decide) (fun c4 => ?_) (fun c4 => ?_)
          · exact mid (2 * j) ls (by omega) h2j (two_kids (Int.le_refl _) (fun _ => by rw [ey1, ey2]; exact e_x.mp c4)) (lv_sub hl [0, 1, 2, 3] rfl)
          · refine lv_iinc (v := nI (2 * j + 1)) (lv' := [(3, .int (nI (2 * j + 1))), (0, .ref h), (1, .int (nI j)), (2, .ref kx)]) hx hb dX4_fixdownWithComparator_55 hl (k := 0) rfl (nI_1 _) (by decide) rfl (fun ls hl => ?_)
            exact mid (2 * j + 1) ls (by omega) h2k (two_kids (by rw [ey1, ey2]; exact wt_of e_x c4) (fun _ => Int.le_refl _)) (lv_sub hl [0, 1, 2, 3] rfl)
  have hu := hq_dn_start hk hd
  rw [← up_same ek] at hu
  exact loop (n + 1) k f _ _ ls (by omega) (Nat.le_refl k) hkn hu (by rw [up_same ek]) hm hP hD hS (lv_sub hl [1, 2, 0] rfl)
end
section
/-! A HEAP: insert, deleteMin, heapify -/
set_option maxRecDepth 100000
theorem bxs_cut {G : gT} {val : Nat → Int32} {L : List Nat} {A : Nat → Prop} {s : State} {H : Heap} {locs : List Loc} {wc : va_W} (hB : ∀ y ∈ L, bx A s s.heap y (val y)) (hS : va_S A s.heap H locs) (hc : Cut G A s H wc) : ∀ y ∈ L, bx (va_A wc H.size) s H y (val y) := fun y hy => ((hB y hy).kept hS.2.1).narrow hc.2.2.2
section FRQ
variable {p : Program} {l : Launch} {e : Env} {R : Room} {s : State} {m : MethodId} {args : Array Value} {below : List Frame} {meth : Method} {c : Code} {H : Heap} {locs : List Loc} {cells slots : Nat} {Q : State → Prop}
variable {pc : Nat} {ls : Array Slot} {rest st0 : List Value} {a : Array Value} {A : Nat → Prop} {mc ms : Nat} {G : gT} {ws wc wr : va_W} {cc : ByteArray}
theorem cq_ {S : Type} {post : Option Nat → S → Prop} {wf : S → va_W} (hr : va_Run p l e R s m args below meth c H locs cells slots mc ms (F0 m pc ls st0) rest (va_Qq post (Bw G (va_A wc H.size) wf) (va_A wc H.size) a) (va_A wc H.size)) (hP : va_P G.1 clz ws H) (hD : va_D A ws) (hS : va_S A s.heap H locs) (hc : Cut G A s H wc) (hp : ws.Perm (wc ++ wr))
    (kk : ∀ (r : Option Nat) (u : S) (H1 : Heap) (locs1 : List Loc), post r u → va_P G.1 clz (wf u ++ wr) H1 → va_D A (wf u ++ wr) → va_S A s.heap H1 locs1 → W p l e R s m args below meth c H1 locs1 (cells + mc) (slots + ms) Q (F0 m (pc + 3) ls (va_rf r :: rest))) : W p l e R s m args below meth c H locs cells slots Q (F0 m pc ls st0) := by
  refine va_callq hr hS (fun q _ h => hc.2.2.2 q h) hc.2.2.2 (fun r u t H1 locs1 ht hvm hq hB hz hk hS1 => ?_)
  obtain ⟨hP1, hD1⟩ := hB
  rw [ht] at hP1
  obtain ⟨hP2, hD2⟩ := jn_ hP hD hp hk hc.2.2.2 hP1 hD1 (List.Perm.refl _)
  exact kk r u H1 locs1 hq hP2 hD2 hS1
end FRQ
def cm_ (G : gT) : Bool → Option Nat
  | false => none
  | true => some (gW G)
theorem seg_put {f g : Nat → Option Nat} {n y : Nat} (h : ∀ i, 1 ≤ i → i ≤ n → g i = f i) : (hq_seg (va_up g (n + 1) (some y)) (n + 1)).Perm (some y :: hq_seg f n) := by
  rw [hq_seg_succ, va_up_self, hq_seg_congr (f := va_up g (n + 1) (some y)) (g := f) (n := n) (fun i h1 h2 => by rw [va_up_ne _ _ (by omega)]; exact h i h1 h2)]
  exact List.perm_append_comm
theorem put_in {f g : Nat → Option Nat} {L : List Nat} {n y : Nat} (hm : ∀ i, 1 ≤ i → i ≤ n → ∃ z, z ∈ L ∧ f i = some z) (hy : y ∈ L) (h : ∀ i, 1 ≤ i → i ≤ n → g i = f i) : ∀ i, 1 ≤ i → i ≤ n + 1 → ∃ z, z ∈ L ∧ va_up g (n + 1) (some y) i = some z := by
  intro i h1 h2
  by_cases e : i = n + 1
  · subst e
    exact ⟨y, hy, va_up_self _ _ _⟩
  · rw [va_up_ne _ _ e, h i h1 (by omega)]
    exact hm i h1 (by omega)
theorem put_up {w : Option Nat → Int} {f g : Nat → Option Nat} {n y : Nat} (hp : hq_hp w 1 f n) (h : ∀ i, 1 ≤ i → i ≤ n → g i = f i) : hq_up w (va_up g (n + 1) (some y)) (n + 1) (n + 1) :=
  hq_up_start hp (fun i h1 h2 => by rw [va_up_ne _ _ (by omega)]; exact h i h1 h2)
/-- the last key goes to the first place -/
theorem take_dn {w : Option Nat → Int} {f : Nat → Option Nat} {n m : Nat} {z : Option Nat} (hn : 2 ≤ n) (hp : hq_hp w 1 f n) : hq_hp w (1 + 1) (va_up (va_up f 1 (some m)) n z) (n - 1) := by
  intro i h1 h2 h3
  rw [va_up_ne _ _ (by omega), va_up_ne _ _ (by omega), va_up_ne _ _ (by omega), va_up_ne _ _ (by omega)]
  exact hp i h1 (by omega) (by omega)
theorem take_in {f : Nat → Option Nat} {L : List Nat} {n m : Nat} {z : Option Nat} (hn : 2 ≤ n) (hm : ∀ i, 1 ≤ i → i ≤ n → ∃ y, y ∈ L ∧ f i = some y) (hk : m ∈ L) : ∀ i, 1 ≤ i → i ≤ n - 1 → ∃ y, y ∈ L ∧ va_up (va_up f 1 (some m)) n z i = some y := by
  intro i h1 h2
  rw [va_up_ne _ _ (by omega)]
  by_cases e : i = 1
  · subst e
    exact ⟨m, hk, va_up_self _ _ _⟩
  · rw [va_up_ne _ _ e]
    exact hm i h1 (by omega)
theorem take_seg {f : Nat → Option Nat} {n m : Nat} {z : Option Nat} (hn : 2 ≤ n) (e : f n = some m) : (f 1 :: hq_seg (va_up (va_up f 1 (some m)) n z) (n - 1)).Perm (hq_seg f n) := by
  obtain ⟨k, rfl⟩ : ∃ k, n = k + 1 := ⟨n - 1, by omega⟩
  rw [Nat.add_sub_cancel]
  have e1 : hq_seg (va_up (va_up f 1 (some m)) (k + 1) z) k = hq_seg (va_up f 1 (some m)) k := hq_seg_congr (fun i h1 h2 => va_up_ne _ _ (by omega))
  rw [e1, hq_seg_succ f k, e]
  have e2 : ∀ g : Nat → Option Nat, hq_seg g k = g 1 :: (hq_seg (fun i => g (i + 1)) (k - 1)) := by
    intro g
    obtain ⟨j, rfl⟩ : ∃ j, k = j + 1 := ⟨k - 1, by omega⟩
    unfold hq_seg
    rw [List.range_succ_eq_map, List.map_cons, List.map_map, Nat.add_sub_cancel]
    rfl
  rw [e2 f, e2 (va_up f 1 (some m)), va_up_self]
  have e3 : hq_seg (fun i => va_up f 1 (some m) (i + 1)) (k - 1) = hq_seg (fun i => f (i + 1)) (k - 1) := hq_seg_congr (fun i h1 h2 => va_up_ne _ _ (by omega))
  rw [e3, List.cons_append]
  exact List.Perm.cons _ (List.perm_append_comm (l₁ := [some m]))
theorem ml_4 (j : Nat) : (4 : Int32) * nI j = nI (4 * j) := pk_mul 4 j
theorem dv_2 {n : Nat} (h : n < 2 ^ 31) : nI n / (2 : Int32) = nI (n / 2) := pk_div h (d := 2) (by decide) (by decide)
set_option maxHeartbeats 4000000 in
set_option maxRecDepth 100000 in
/-- insert(y) -/
theorem mX3_insert_false (l : Launch) (G : gT) (val : Nat → Int32) (L : List Nat) (h y ar n cap sz : Nat) (f : Nat → Option Nat) (hn : n ≤ cap) (h16 : 16 ≤ cap) (hc9 : cap ≤ 128) (h64 : n < 64) (hy : y ∈ L) (hm : ∀ i, 1 ≤ i → i ≤ n → ∃ z, z ∈ L ∧ f i = some z) (hp : hq_hp (wq_ false val) 1 f n) : Met l yX3_insert (ws_ yX3_insert cX3_insert 2 none) (rm_ 4 1 129 88) (Pw G val L [.ref h, .ref y] sz (hw_ G h none ar n cap f)) (va_Qv (fun u : Nat × Nat × (Nat → Option Nat) => (n + 1 ≤ u.2.1 ∧ 16 ≤ u.2.1 ∧ u.2.1 ≤ 128) ∧ hq_hp (wq_ false val) 1 u.2.2 (n + 1) ∧ (hq_seg u.2.2 (n + 1)).Perm (some y :: hq_seg f n)) (Bw G (va_A (hw_ G h none ar n cap f) sz) (fun u => hw_ G h none u.1 (n + 1) u.2.1 u.2.2)) (va_A (hw_ G h none ar n cap f) sz)) 1 129 (va_A (hw_ G h none ar n cap f) sz) := by
  refine Met.ofW (cc := cX3_insert) (maxL := 2) (ret := none) (by decide) rfl ?_
  intro p e s m args below meth c s₁ B hml hv
  obtain ⟨rfl, hsz, hP, hD0, hE, hB⟩ := hv
  have hx := B.exec
  have hb := B.bytes
  have hr := B.returns
  have hts := atoms_spec (ws := ws_ yX3_insert cX3_insert 2 none) B.pre
  have hts : ∀ w ∈ lw_all, w.before _ s = true := fun w h => hts w (List.mem_cons_of_mem _ h)
  have hown : s.vm.findClass RX3 = some m.cls := findClass_of_methodNamed B.named
  have hlocks := B.notSynchronized
  subst hsz
  have hD := hD0.self (sz := s.heap.size)
  generalize hAe : va_A (hw_ G h none ar n cap f) s.heap.size = A at hD hE hB ⊢
  have hA : ∀ q : Nat, s.heap.size ≤ q → A q := fun q h => by rw [← hAe]; exact Or.inr h
  have hS : va_S A s.heap s.heap [] := va_S.rf
  have hl := lv_entry ([.ref h, .ref y]) (n := 2) (Nat.le_of_ble_eq_true rfl)
  rw [lg_entry_eq]
  generalize (lg_sl ([.ref h, .ref y]) ++ List.replicate (2 - (lg_sl ([.ref h, .ref y])).length) Slot.unset).toArray = ls at hl ⊢
  have hl : lv_has ls 2 [(0, .ref h), (1, .ref y)] := hl
  have hP : va_P G.1 clz (hw_ G h none ar n cap f) _ := hP
  have hD : va_D A (hw_ G h none ar n cap f) := hD
  have mid : ∀ (br cp : Nat) (g : Nat → Option Nat) (H : Heap) (locs : List Loc), n < cp → 16 ≤ cp → cp ≤ 128 → (∀ i, 1 ≤ i → i ≤ n → g i = f i) → va_P G.1 clz (hw_ G h none br n cp g) H → va_D A (hw_ G h none br n cp g) → va_S A s.heap H locs → W p l e (headSpec (ws_ yX3_insert cX3_insert 2 none) (rm_ 4 1 129 88)).room s m ([.ref h, .ref y] : List Value).toArray below meth c H locs 1 129 (MQ below (va_Qv (fun u : Nat × Nat × (Nat → Option Nat) => (n + 1 ≤ u.2.1 ∧ 16 ≤ u.2.1 ∧ u.2.1 ≤ 128) ∧ hq_hp (wq_ false val) 1 u.2.2 (n + 1) ∧ (hq_seg u.2.2 (n + 1)).Perm (some y :: hq_seg f n)) (Bw G A (fun u => hw_ G h none u.1 (n + 1) u.2.1 u.2.2)) A) ([.ref h, .ref y] : List Value).toArray s 1 129 A) (F0 m 58 ls []) := by
    intro br cp g H locs hn9 h16 hc9 hg hP hD hS
    refine lv_aload_n hx hb dX3_insert_58 rfl (lv_at hl 0 rfl) ?_
    refine va_get (D := G.1) (ci := 0) (v := .ref br) (C := RX4) (T := TX4) (N := 4) hx hb hts in_X4 hown hE.1 hP 0 rfl rfl 1 (by decide) (hts _ q149) (fun x9 h9 => u_same (hts _ q150) x9 h9) rfl dX3_insert_59 ?_
    refine lv_aload_n hx hb dX3_insert_62 rfl (lv_at hl 0 rfl) ?_
    refine lv_dup hx hb dX3_insert_63 rfl ?_
    refine va_get (D := G.1) (ci := 0) (v := .int (nI n)) (C := RX4) (T := TX4) (N := 4) hx hb hts in_X4 hown hE.1 hP 0 rfl rfl 2 (by decide) (hts _ q154) (fun x9 h9 => u_same (hts _ q155) x9 h9) rfl dX3_insert_64 ?_
    refine lv_iconst (v := 1) hx hb dX3_insert_67 (by decide) ?_
    refine lv_iadd hx hb dX3_insert_68 ?_
    refine lt_i (y := nI (n + 1)) (nI_1 n) ?_
    refine lv_dup_x1 hx hb dX3_insert_69 rfl rfl ?_
    refine va_put (D := G.1) (ci := 0) (v := .int (nI (n + 1))) (ty := .int) (C := RX4) (T := TX4) (N := 4) hx hb hts in_X4 tyX4 tyX4_ok nmX4 hown hE.1 hP hD hS 0 rfl rfl 2 (by decide) (hts _ q154) (fun x9 h9 => u_same (hts _ q155) x9 h9) rfl (by decide +kernel) (rfl) (rfl) (Nat.le_of_ble_eq_true rfl) dX3_insert_70 (fun H locs hP hD hS => ?_)
    have hP : va_P G.1 clz (hw_ G h none br (n + 1) cp g) _ := hP
    have hD : va_D A (hw_ G h none br (n + 1) cp g) := hD
    refine lv_aload_n hx hb dX3_insert_73 rfl (lv_at hl 1 rfl) ?_
    refine vb_astq (E := "java/lang/Object") (C := "java/lang/Integer") hx hb hE.1 hP hD hS 1 0 rfl rfl (bx.recv ((hB y hy).now hS)) (fun c1 c2 => vb_asgC hE.2.1.2.1.2 c1 c2) (vp_in_nI (n := n + 1) (by omega) (by omega)) dX3_insert_74 (fun H locs hP hD hS => ?_)
    rw [nI_clamp (by omega)] at hP hD
    have hP : va_P G.1 clz (hw_ G h none br (n + 1) cp (va_up g (n + 1) (some y))) _ := hP
    have hD : va_D A (hw_ G h none br (n + 1) cp (va_up g (n + 1) (some y))) := hD
    refine lv_aload_n hx hb dX3_insert_75 rfl (lv_at hl 0 rfl) ?_
    refine va_get (D := G.1) (ci := 0) (v := .null) (C := RX4) (T := TX4) (N := 4) hx hb hts in_X4 hown hE.1 hP 0 rfl rfl 0 (by decide) (hts _ q145) (fun x9 h9 => u_same (hts _ q146) x9 h9) rfl dX3_insert_76 ?_
    refine lv_ifnonnullN hx hb dX3_insert_79 ?_
    refine lv_aload_n hx hb dX3_insert_82 rfl (lv_at hl 0 rfl) ?_
    refine lv_aload_n hx hb dX3_insert_83 rfl (lv_at hl 0 rfl) ?_
    refine va_get (D := G.1) (ci := 0) (v := .int (nI (n + 1))) (C := RX4) (T := TX4) (N := 4) hx hb hts in_X4 hown hE.1 hP 0 rfl rfl 2 (by decide) (hts _ q154) (fun x9 h9 => u_same (hts _ q155) x9 h9) rfl dX3_insert_84 ?_
    have hc := cut_ (wc := hw_ G h none br (n + 1) cp (va_up g (n + 1) (some y))) (wr := []) hE hP hD hS hA (List.Perm.refl _)
    refine cv_ (va_runU (C := RX4) (As := [.int (nI (n + 1))]) (rest := []) ⟨hx, hb, hml, hown, hts⟩ (mX4_fixup l G val L h br (n + 1) cp (n + 1) _ none (va_up g (n + 1) (some y)) (by omega) (by omega) (by omega) (by omega) (put_in hm hy hg) (put_up hp hg)) (va_cwA 1 hts (lw_U q245 q246 q248 q249 q6 q250) rfl rfl rfl (hE.dc 2 rfl) (by decide +kernel) ⟨Nat.le_of_ble_eq_true rfl, Nat.le_of_ble_eq_true rfl⟩) (Pw.preV hc (bxs_cut hB hS hc) (va_recv hE.1 hP (ci := 0) (q0 := 0) rfl rfl)) rfl rfl hl.1 rfl (lv_room (Nat.le_of_ble_eq_true rfl)) dX3_insert_87 ⟨Nat.le_of_ble_eq_true rfl, Nat.le_of_ble_eq_true rfl⟩) hP hD hS hc (List.Perm.refl _) (fun f2 H locs hq hP hD hS => ?_)
    have hP : va_P G.1 clz (hw_ G h none br (n + 1) cp f2) _ := hP
    have hD : va_D A (hw_ G h none br (n + 1) cp f2) := hD
    refine lv_goto (tgt := 101) hx hb dX3_insert_90 (by decide) ?_
    exact W.vret hx hb hr (fun t ht hW => ⟨⟨(br, cp, f2), rfl, ⟨⟨hn9, h16, hc9⟩, hq.1, hq.2.trans (seg_put hg)⟩, by rw [ht]; exact hP, hD⟩, hS.F ht⟩) hS.2.2 dX3_insert_101
  refine lv_aload_n hx hb dX3_insert_0 rfl (lv_at hl 1 rfl) ?_
  refine lv_ifnonnull (tgt := 14) hx hb dX3_insert_1 (by decide) ?_
  refine lv_aload_n hx hb dX3_insert_14 rfl (lv_at hl 0 rfl) ?_
  refine va_get (D := G.1) (ci := 0) (v := .int (nI n)) (C := RX4) (T := TX4) (N := 4) hx hb hts in_X4 hown hE.1 hP 0 rfl rfl 2 (by decide) (hts _ q154) (fun x9 h9 => u_same (hts _ q155) x9 h9) rfl dX3_insert_15 ?_
  refine lv_aload_n hx hb dX3_insert_18 rfl (lv_at hl 0 rfl) ?_
  refine va_get (D := G.1) (ci := 0) (v := .ref ar) (C := RX4) (T := TX4) (N := 4) hx hb hts in_X4 hown hE.1 hP 0 rfl rfl 1 (by decide) (hts _ q149) (fun x9 h9 => u_same (hts _ q150) x9 h9) rfl dX3_insert_19 ?_
  refine va_alen (v := nI (cap + 1)) hx hb hE.1 hP 1 0 rfl rfl rfl dX3_insert_22 ?_
  refine lv_iconst (v := 1) hx hb dX3_insert_23 (by decide) ?_
  refine lv_isub hx hb dX3_insert_24 ?_
  refine lt_i (y := nI cap) (nI_pred cap) ?_
  refine lv_icmp_ne (tgt := 58) hx hb dX3_insert_25 (by decide) (fun c1 => ?_) (fun c1 => ?_)
  · exact W.widen (k := 1) (n := 129) (by omega) (by omega) (mid ar cap f _ _ (by rcases Nat.lt_or_ge n cap with h9 | h9; exact h9; exact absurd (by rw [show n = cap by omega]) c1) h16 hc9 (fun _ _ _ => rfl) hP hD hS)
  · have en : n = cap := (nI_eq (by omega) (by omega)).mp c1
    refine lv_aload_n hx hb dX3_insert_28 rfl (lv_at hl 0 rfl) ?_
    refine va_get (D := G.1) (ci := 0) (v := .ref ar) (C := RX4) (T := TX4) (N := 4) hx hb hts in_X4 hown hE.1 hP 0 rfl rfl 1 (by decide) (hts _ q149) (fun x9 h9 => u_same (hts _ q150) x9 h9) rfl dX3_insert_29 ?_
    refine va_alen (v := nI (cap + 1)) hx hb hE.1 hP 1 0 rfl rfl rfl dX3_insert_32 ?_
    refine lv_iconst (v := 1) hx hb dX3_insert_33 (by decide) ?_
    refine lv_icmp_ne (tgt := 45) hx hb dX3_insert_34 (by decide) (fun c2 => ?_) (fun c2 => ?_)
    · refine lv_aload_n hx hb dX3_insert_45 rfl (lv_at hl 0 rfl) ?_
      refine lv_iconst (v := 2) hx hb dX3_insert_46 (by decide) ?_
      refine lv_aload_n hx hb dX3_insert_47 rfl (lv_at hl 0 rfl) ?_
      refine va_get (D := G.1) (ci := 0) (v := .ref ar) (C := RX4) (T := TX4) (N := 4) hx hb hts in_X4 hown hE.1 hP 0 rfl rfl 1 (by decide) (hts _ q149) (fun x9 h9 => u_same (hts _ q150) x9 h9) rfl dX3_insert_48 ?_
      refine va_alen (v := nI (cap + 1)) hx hb hE.1 hP 1 0 rfl rfl rfl dX3_insert_51 ?_
      refine lv_iconst (v := 1) hx hb dX3_insert_52 (by decide) ?_
      refine lv_isub hx hb dX3_insert_53 ?_
      refine lt_i (y := nI cap) (nI_pred cap) ?_
      refine lv_imul hx hb dX3_insert_54 ?_
      refine lt_i (y := nI (2 * cap)) (ml_2 cap) ?_
      have hc := cut_ (wc := hw_ G h none ar n cap f) (wr := []) hE hP hD hS hA (List.Perm.refl _)
      refine cv_ (va_runU (C := RX4) (As := [.int (nI (2 * cap))]) (rest := []) ⟨hx, hb, hml, hown, hts⟩ (mX4_ensureCapacity l G val L h ar n cap (2 * cap) _ none f hn (by omega) (by omega) (by omega) hm) (va_cwA 1 hts (lw_U q231 q232 q234 q235 q6 q236) rfl rfl rfl (hE.dc 1 rfl) (by decide +kernel) ⟨Nat.le_of_ble_eq_true rfl, Nat.le_of_ble_eq_true rfl⟩) (Pw.preV hc (bxs_cut hB hS hc) (va_recv hE.1 hP (ci := 0) (q0 := 0) rfl rfl)) rfl rfl hl.1 rfl (lv_room (Nat.le_of_ble_eq_true rfl)) dX3_insert_55 ⟨Nat.le_of_ble_eq_true rfl, Nat.le_of_ble_eq_true rfl⟩) hP hD hS hc (List.Perm.refl _) (fun u H locs hq hP hD hS => ?_)
      have hP : va_P G.1 clz (hw_ G h none u.1 n (2 * cap) u.2) _ := hP
      have hD : va_D A (hw_ G h none u.1 n (2 * cap) u.2) := hD
      exact mid u.1 (2 * cap) u.2 _ _ (by omega) (by omega) (by omega) hq hP hD hS
    · exact absurd ((nI_eq (b := 1) (by omega) (by omega)).mp c2) (by omega)
set_option maxHeartbeats 4000000 in
set_option maxRecDepth 100000 in
/-- insert(y) -/
theorem mX3_insert_true (l : Launch) (G : gT) (val : Nat → Int32) (L : List Nat) (h y ar n cap sz : Nat) (f : Nat → Option Nat) (hn : n ≤ cap) (h16 : 16 ≤ cap) (hc9 : cap ≤ 128) (h64 : n < 64) (hy : y ∈ L) (hm : ∀ i, 1 ≤ i → i ≤ n → ∃ z, z ∈ L ∧ f i = some z) (hp : hq_hp (wq_ true val) 1 f n) : Met l yX3_insert (ws_ yX3_insert cX3_insert 2 none) (rm_ 4 1 129 88) (Pw G val L [.ref h, .ref y] sz (hw_ G h (some (gW G)) ar n cap f)) (va_Qv (fun u : Nat × Nat × (Nat → Option Nat) => (n + 1 ≤ u.2.1 ∧ 16 ≤ u.2.1 ∧ u.2.1 ≤ 128) ∧ hq_hp (wq_ true val) 1 u.2.2 (n + 1) ∧ (hq_seg u.2.2 (n + 1)).Perm (some y :: hq_seg f n)) (Bw G (va_A (hw_ G h (some (gW G)) ar n cap f) sz) (fun u => hw_ G h (some (gW G)) u.1 (n + 1) u.2.1 u.2.2)) (va_A (hw_ G h (some (gW G)) ar n cap f) sz)) 1 129 (va_A (hw_ G h (some (gW G)) ar n cap f) sz) := by
  refine Met.ofW (cc := cX3_insert) (maxL := 2) (ret := none) (by decide) rfl ?_
  intro p e s m args below meth c s₁ B hml hv
  obtain ⟨rfl, hsz, hP, hD0, hE, hB⟩ := hv
  have hx := B.exec
  have hb := B.bytes
  have hr := B.returns
  have hts := atoms_spec (ws := ws_ yX3_insert cX3_insert 2 none) B.pre
  have hts : ∀ w ∈ lw_all, w.before _ s = true := fun w h => hts w (List.mem_cons_of_mem _ h)
  have hown : s.vm.findClass RX3 = some m.cls := findClass_of_methodNamed B.named
  have hlocks := B.notSynchronized
  subst hsz
  have hD := hD0.self (sz := s.heap.size)
  generalize hAe : va_A (hw_ G h (some (gW G)) ar n cap f) s.heap.size = A at hD hE hB ⊢
  have hA : ∀ q : Nat, s.heap.size ≤ q → A q := fun q h => by rw [← hAe]; exact Or.inr h
  have hS : va_S A s.heap s.heap [] := va_S.rf
  have hl := lv_entry ([.ref h, .ref y]) (n := 2) (Nat.le_of_ble_eq_true rfl)
  rw [lg_entry_eq]
  generalize (lg_sl ([.ref h, .ref y]) ++ List.replicate (2 - (lg_sl ([.ref h, .ref y])).length) Slot.unset).toArray = ls at hl ⊢
  have hl : lv_has ls 2 [(0, .ref h), (1, .ref y)] := hl
  have hP : va_P G.1 clz (hw_ G h (some (gW G)) ar n cap f) _ := hP
  have hD : va_D A (hw_ G h (some (gW G)) ar n cap f) := hD
  have mid : ∀ (br cp : Nat) (g : Nat → Option Nat) (H : Heap) (locs : List Loc), n < cp → 16 ≤ cp → cp ≤ 128 → (∀ i, 1 ≤ i → i ≤ n → g i = f i) → va_P G.1 clz (hw_ G h (some (gW G)) br n cp g) H → va_D A (hw_ G h (some (gW G)) br n cp g) → va_S A s.heap H locs → W p l e (headSpec (ws_ yX3_insert cX3_insert 2 none) (rm_ 4 1 129 88)).room s m ([.ref h, .ref y] : List Value).toArray below meth c H locs 1 129 (MQ below (va_Qv (fun u : Nat × Nat × (Nat → Option Nat) => (n + 1 ≤ u.2.1 ∧ 16 ≤ u.2.1 ∧ u.2.1 ≤ 128) ∧ hq_hp (wq_ true val) 1 u.2.2 (n + 1) ∧ (hq_seg u.2.2 (n + 1)).Perm (some y :: hq_seg f n)) (Bw G A (fun u => hw_ G h (some (gW G)) u.1 (n + 1) u.2.1 u.2.2)) A) ([.ref h, .ref y] : List Value).toArray s 1 129 A) (F0 m 58 ls []) := by
    intro br cp g H locs hn9 h16 hc9 hg hP hD hS
    refine lv_aload_n hx hb dX3_insert_58 rfl (lv_at hl 0 rfl) ?_
    refine va_get (D := G.1) (ci := 0) (v := .ref br) (C := RX4) (T := TX4) (N := 4) hx hb hts in_X4 hown hE.1 hP 0 rfl rfl 1 (by decide) (hts _ q149) (fun x9 h9 => u_same (hts _ q150) x9 h9) rfl dX3_insert_59 ?_
    refine lv_aload_n hx hb dX3_insert_62 rfl (lv_at hl 0 rfl) ?_
    refine lv_dup hx hb dX3_insert_63 rfl ?_
    refine va_get (D := G.1) (ci := 0) (v := .int (nI n)) (C := RX4) (T := TX4) (N := 4) hx hb hts in_X4 hown hE.1 hP 0 rfl rfl 2 (by decide) (hts _ q154) (fun x9 h9 => u_same (hts _ q155) x9 h9) rfl dX3_insert_64 ?_
    refine lv_iconst (v := 1) hx hb dX3_insert_67 (by decide) ?_
    refine lv_iadd hx hb dX3_insert_68 ?_
    refine lt_i (y := nI (n + 1)) (nI_1 n) ?_
    refine lv_dup_x1 hx hb dX3_insert_69 rfl rfl ?_
    refine va_put (D := G.1) (ci := 0) (v := .int (nI (n + 1))) (ty := .int) (C := RX4) (T := TX4) (N := 4) hx hb hts in_X4 tyX4 tyX4_ok nmX4 hown hE.1 hP hD hS 0 rfl rfl 2 (by decide) (hts _ q154) (fun x9 h9 => u_same (hts _ q155) x9 h9) rfl (by decide +kernel) (rfl) (rfl) (Nat.le_of_ble_eq_true rfl) dX3_insert_70 (fun H locs hP hD hS => ?_)
    have hP : va_P G.1 clz (hw_ G h (some (gW G)) br (n + 1) cp g) _ := hP
    have hD : va_D A (hw_ G h (some (gW G)) br (n + 1) cp g) := hD
    refine lv_aload_n hx hb dX3_insert_73 rfl (lv_at hl 1 rfl) ?_
    refine vb_astq (E := "java/lang/Object") (C := "java/lang/Integer") hx hb hE.1 hP hD hS 1 0 rfl rfl (bx.recv ((hB y hy).now hS)) (fun c1 c2 => vb_asgC hE.2.1.2.1.2 c1 c2) (vp_in_nI (n := n + 1) (by omega) (by omega)) dX3_insert_74 (fun H locs hP hD hS => ?_)
    rw [nI_clamp (by omega)] at hP hD
    have hP : va_P G.1 clz (hw_ G h (some (gW G)) br (n + 1) cp (va_up g (n + 1) (some y))) _ := hP
    have hD : va_D A (hw_ G h (some (gW G)) br (n + 1) cp (va_up g (n + 1) (some y))) := hD
    refine lv_aload_n hx hb dX3_insert_75 rfl (lv_at hl 0 rfl) ?_
    refine va_get (D := G.1) (ci := 0) (v := .ref (gW G)) (C := RX4) (T := TX4) (N := 4) hx hb hts in_X4 hown hE.1 hP 0 rfl rfl 0 (by decide) (hts _ q145) (fun x9 h9 => u_same (hts _ q146) x9 h9) rfl dX3_insert_76 ?_
    refine lv_ifnonnull (tgt := 93) hx hb dX3_insert_79 (by decide) ?_
    refine lv_aload_n hx hb dX3_insert_93 rfl (lv_at hl 0 rfl) ?_
    refine lv_aload_n hx hb dX3_insert_94 rfl (lv_at hl 0 rfl) ?_
    refine va_get (D := G.1) (ci := 0) (v := .int (nI (n + 1))) (C := RX4) (T := TX4) (N := 4) hx hb hts in_X4 hown hE.1 hP 0 rfl rfl 2 (by decide) (hts _ q154) (fun x9 h9 => u_same (hts _ q155) x9 h9) rfl dX3_insert_95 ?_
    have hc := cut_ (wc := hw_ G h (some (gW G)) br (n + 1) cp (va_up g (n + 1) (some y))) (wr := []) hE hP hD hS hA (List.Perm.refl _)
    refine cv_ (va_runU (C := RX4) (As := [.int (nI (n + 1))]) (rest := []) ⟨hx, hb, hml, hown, hts⟩ (mX4_fixupWithComparator l G val L h br (n + 1) cp (n + 1) _ (va_up g (n + 1) (some y)) (by omega) (by omega) (by omega) (by omega) (put_in hm hy hg) (put_up hp hg)) (va_cwA 1 hts (lw_U q260 q261 q263 q264 q6 q265) rfl rfl rfl (hE.dc 3 rfl) (by decide +kernel) ⟨Nat.le_of_ble_eq_true rfl, Nat.le_of_ble_eq_true rfl⟩) (Pw.preV hc (bxs_cut hB hS hc) (va_recv hE.1 hP (ci := 0) (q0 := 0) rfl rfl)) rfl rfl hl.1 rfl (lv_room (Nat.le_of_ble_eq_true rfl)) dX3_insert_98 ⟨Nat.le_of_ble_eq_true rfl, Nat.le_of_ble_eq_true rfl⟩) hP hD hS hc (List.Perm.refl _) (fun f2 H locs hq hP hD hS => ?_)
    have hP : va_P G.1 clz (hw_ G h (some (gW G)) br (n + 1) cp f2) _ := hP
    have hD : va_D A (hw_ G h (some (gW G)) br (n + 1) cp f2) := hD
    exact W.vret hx hb hr (fun t ht hW => ⟨⟨(br, cp, f2), rfl, ⟨⟨hn9, h16, hc9⟩, hq.1, hq.2.trans (seg_put hg)⟩, by rw [ht]; exact hP, hD⟩, hS.F ht⟩) hS.2.2 dX3_insert_101
  refine lv_aload_n hx hb dX3_insert_0 rfl (lv_at hl 1 rfl) ?_
  refine lv_ifnonnull (tgt := 14) hx hb dX3_insert_1 (by decide) ?_
  refine lv_aload_n hx hb dX3_insert_14 rfl (lv_at hl 0 rfl) ?_
  refine va_get (D := G.1) (ci := 0) (v := .int (nI n)) (C := RX4) (T := TX4) (N := 4) hx hb hts in_X4 hown hE.1 hP 0 rfl rfl 2 (by decide) (hts _ q154) (fun x9 h9 => u_same (hts _ q155) x9 h9) rfl dX3_insert_15 ?_
  refine lv_aload_n hx hb dX3_insert_18 rfl (lv_at hl 0 rfl) ?_
  refine va_get (D := G.1) (ci := 0) (v := .ref ar) (C := RX4) (T := TX4) (N := 4) hx hb hts in_X4 hown hE.1 hP 0 rfl rfl 1 (by decide) (hts _ q149) (fun x9 h9 => u_same (hts _ q150) x9 h9) rfl dX3_insert_19 ?_
  refine va_alen (v := nI (cap + 1)) hx hb hE.1 hP 1 0 rfl rfl rfl dX3_insert_22 ?_
  refine lv_iconst (v := 1) hx hb dX3_insert_23 (by decide) ?_
  refine lv_isub hx hb dX3_insert_24 ?_
  refine lt_i (y := nI cap) (nI_pred cap) ?_
  refine lv_icmp_ne (tgt := 58) hx hb dX3_insert_25 (by decide) (fun c1 => ?_) (fun c1 => ?_)
  · exact W.widen (k := 1) (n := 129) (by omega) (by omega) (mid ar cap f _ _ (by rcases Nat.lt_or_ge n cap with h9 | h9; exact h9; exact absurd (by rw [show n = cap by omega]) c1) h16 hc9 (fun _ _ _ => rfl) hP hD hS)
  · have en : n = cap := (nI_eq (by omega) (by omega)).mp c1
    refine lv_aload_n hx hb dX3_insert_28 rfl (lv_at hl 0 rfl) ?_
    refine va_get (D := G.1) (ci := 0) (v := .ref ar) (C := RX4) (T := TX4) (N := 4) hx hb hts in_X4 hown hE.1 hP 0 rfl rfl 1 (by decide) (hts _ q149) (fun x9 h9 => u_same (hts _ q150) x9 h9) rfl dX3_insert_29 ?_
    refine va_alen (v := nI (cap + 1)) hx hb hE.1 hP 1 0 rfl rfl rfl dX3_insert_32 ?_
    refine lv_iconst (v := 1) hx hb dX3_insert_33 (by decide) ?_
    refine lv_icmp_ne (tgt := 45) hx hb dX3_insert_34 (by decide) (fun c2 => ?_) (fun c2 => ?_)
    · refine lv_aload_n hx hb dX3_insert_45 rfl (lv_at hl 0 rfl) ?_
      refine lv_iconst (v := 2) hx hb dX3_insert_46 (by decide) ?_
      refine lv_aload_n hx hb dX3_insert_47 rfl (lv_at hl 0 rfl) ?_
      refine va_get (D := G.1) (ci := 0) (v := .ref ar) (C := RX4) (T := TX4) (N := 4) hx hb hts in_X4 hown hE.1 hP 0 rfl rfl 1 (by decide) (hts _ q149) (fun x9 h9 => u_same (hts _ q150) x9 h9) rfl dX3_insert_48 ?_
      refine va_alen (v := nI (cap + 1)) hx hb hE.1 hP 1 0 rfl rfl rfl dX3_insert_51 ?_
      refine lv_iconst (v := 1) hx hb dX3_insert_52 (by decide) ?_
      refine lv_isub hx hb dX3_insert_53 ?_
      refine lt_i (y := nI cap) (nI_pred cap) ?_
      refine lv_imul hx hb dX3_insert_54 ?_
      refine lt_i (y := nI (2 * cap)) (ml_2 cap) ?_
      have hc := cut_ (wc := hw_ G h (some (gW G)) ar n cap f) (wr := []) hE hP hD hS hA (List.Perm.refl _)
      refine cv_ (va_runU (C := RX4) (As := [.int (nI (2 * cap))]) (rest := []) ⟨hx, hb, hml, hown, hts⟩ (mX4_ensureCapacity l G val L h ar n cap (2 * cap) _ (some (gW G)) f hn (by omega) (by omega) (by omega) hm) (va_cwA 1 hts (lw_U q231 q232 q234 q235 q6 q236) rfl rfl rfl (hE.dc 1 rfl) (by decide +kernel) ⟨Nat.le_of_ble_eq_true rfl, Nat.le_of_ble_eq_true rfl⟩) (Pw.preV hc (bxs_cut hB hS hc) (va_recv hE.1 hP (ci := 0) (q0 := 0) rfl rfl)) rfl rfl hl.1 rfl (lv_room (Nat.le_of_ble_eq_true rfl)) dX3_insert_55 ⟨Nat.le_of_ble_eq_true rfl, Nat.le_of_ble_eq_true rfl⟩) hP hD hS hc (List.Perm.refl _) (fun u H locs hq hP hD hS => ?_)
      have hP : va_P G.1 clz (hw_ G h (some (gW G)) u.1 n (2 * cap) u.2) _ := hP
      have hD : va_D A (hw_ G h (some (gW G)) u.1 n (2 * cap) u.2) := hD
      exact mid u.1 (2 * cap) u.2 _ _ (by omega) (by omega) (by omega) hq hP hD hS
    · exact absurd ((nI_eq (b := 1) (by omega) (by omega)).mp c2) (by omega)
/-- insert(y), in either order -/
theorem mX3_insert (l : Launch) (G : gT) (d : Bool) (val : Nat → Int32) (L : List Nat) (h y ar n cap sz : Nat) (f : Nat → Option Nat) (hn : n ≤ cap) (h16 : 16 ≤ cap) (hc9 : cap ≤ 128) (h64 : n < 64) (hy : y ∈ L) (hm : ∀ i, 1 ≤ i → i ≤ n → ∃ z, z ∈ L ∧ f i = some z) (hp : hq_hp (wq_ d val) 1 f n) : Met l yX3_insert (ws_ yX3_insert cX3_insert 2 none) (rm_ 4 1 129 88) (Pw G val L [.ref h, .ref y] sz (hw_ G h (cm_ G d) ar n cap f)) (va_Qv (fun u : Nat × Nat × (Nat → Option Nat) => (n + 1 ≤ u.2.1 ∧ 16 ≤ u.2.1 ∧ u.2.1 ≤ 128) ∧ hq_hp (wq_ d val) 1 u.2.2 (n + 1) ∧ (hq_seg u.2.2 (n + 1)).Perm (some y :: hq_seg f n)) (Bw G (va_A (hw_ G h (cm_ G d) ar n cap f) sz) (fun u => hw_ G h (cm_ G d) u.1 (n + 1) u.2.1 u.2.2)) (va_A (hw_ G h (cm_ G d) ar n cap f) sz)) 1 129 (va_A (hw_ G h (cm_ G d) ar n cap f) sz) := by
  cases d
  · exact mX3_insert_false l G val L h y ar n cap sz f hn h16 hc9 h64 hy hm hp
  · exact mX3_insert_true l G val L h y ar n cap sz f hn h16 hc9 h64 hy hm hp
set_option maxHeartbeats 4000000 in
set_option maxRecDepth 100000 in
/-- deleteMin() -/
theorem mX3_deleteMin_false (l : Launch) (G : gT) (val : Nat → Int32) (L : List Nat) (h ar n cap sz : Nat) (f : Nat → Option Nat) (h0 : 1 ≤ n) (hn : n ≤ cap) (h16 : 16 ≤ cap) (hc9 : cap ≤ 128) (hm : ∀ i, 1 ≤ i → i ≤ n → ∃ z, z ∈ L ∧ f i = some z) (hp : hq_hp (wq_ false val) 1 f n) : Met l yX3_deleteMin (ws_ yX3_deleteMin cX3_deleteMin 3 (some (.object "java/lang/Object"))) (rm_ 4 1 129 90) (Pw G val L [.ref h] sz (hw_ G h none ar n cap f)) (va_Qq (fun (x : Option Nat) (u : Nat × Nat × (Nat → Option Nat)) => x = f 1 ∧ (n - 1 ≤ u.2.1 ∧ 16 ≤ u.2.1 ∧ u.2.1 ≤ 128) ∧ hq_hp (wq_ false val) 1 u.2.2 (n - 1) ∧ (f 1 :: hq_seg u.2.2 (n - 1)).Perm (hq_seg f n)) (Bw G (va_A (hw_ G h none ar n cap f) sz) (fun u => hw_ G h none u.1 (n - 1) u.2.1 u.2.2)) (va_A (hw_ G h none ar n cap f) sz)) 1 129 (va_A (hw_ G h none ar n cap f) sz) := by
  refine Met.ofW (cc := cX3_deleteMin) (maxL := 3) (ret := some (.object "java/lang/Object")) (by decide) rfl ?_
  intro p e s m args below meth c s₁ B hml hv
  obtain ⟨rfl, hsz, hP, hD0, hE, hB⟩ := hv
  have hx := B.exec
  have hb := B.bytes
  have hr := B.returns
  have hts := atoms_spec (ws := ws_ yX3_deleteMin cX3_deleteMin 3 (some (.object "java/lang/Object"))) B.pre
  have hts : ∀ w ∈ lw_all, w.before _ s = true := fun w h => hts w (List.mem_cons_of_mem _ h)
  have hown : s.vm.findClass RX3 = some m.cls := findClass_of_methodNamed B.named
  have hlocks := B.notSynchronized
  subst hsz
  have hD := hD0.self (sz := s.heap.size)
  generalize hAe : va_A (hw_ G h none ar n cap f) s.heap.size = A at hD hE hB ⊢
  have hA : ∀ q : Nat, s.heap.size ≤ q → A q := fun q h => by rw [← hAe]; exact Or.inr h
  have hS : va_S A s.heap s.heap [] := va_S.rf
  have hl := lv_entry ([.ref h]) (n := 3) (Nat.le_of_ble_eq_true rfl)
  rw [lg_entry_eq]
  generalize (lg_sl ([.ref h]) ++ List.replicate (3 - (lg_sl ([.ref h])).length) Slot.unset).toArray = ls at hl ⊢
  have hl : lv_has ls 3 [(0, .ref h)] := hl
  have hP : va_P G.1 clz (hw_ G h none ar n cap f) _ := hP
  have hD : va_D A (hw_ G h none ar n cap f) := hD
  obtain ⟨m1, hm1, e1⟩ := hm 1 (Nat.le_refl 1) h0
  have mid : ∀ (g : Nat → Option Nat) (H : Heap) (locs : List Loc) (ls : Array Slot), hq_hp (wq_ false val) 1 g (n - 1) → (f 1 :: hq_seg g (n - 1)).Perm (hq_seg f n) → (∀ i, 1 ≤ i → i ≤ n - 1 → ∃ y, y ∈ L ∧ g i = some y) → va_P G.1 clz (hw_ G h none ar (n - 1) cap g) H → va_D A (hw_ G h none ar (n - 1) cap g) → va_S A s.heap H locs → lv_has ls 3 [(1, .ref m1), (0, .ref h)] → W p l e (headSpec (ws_ yX3_deleteMin cX3_deleteMin 3 (some (.object "java/lang/Object"))) (rm_ 4 1 129 90)).room s m ([.ref h] : List Value).toArray below meth c H locs 0 0 (MQ below (va_Qq (fun (x : Option Nat) (u : Nat × Nat × (Nat → Option Nat)) => x = f 1 ∧ (n - 1 ≤ u.2.1 ∧ 16 ≤ u.2.1 ∧ u.2.1 ≤ 128) ∧ hq_hp (wq_ false val) 1 u.2.2 (n - 1) ∧ (f 1 :: hq_seg u.2.2 (n - 1)).Perm (hq_seg f n)) (Bw G A (fun u => hw_ G h none u.1 (n - 1) u.2.1 u.2.2)) A) ([.ref h] : List Value).toArray s 1 129 A) (F0 m 100 ls []) := by
    intro g H locs ls hg hpg hmg hP hD hS hl
    refine lv_aload_n hx hb dX3_deleteMin_100 rfl (lv_at hl 1 rfl) ?_
    refine va_get (D := G.1) (ci := 0) (v := .ref ar) (C := RX4) (T := TX4) (N := 4) hx hb hts in_X4 hown hE.1 hP 0 rfl rfl 1 (by decide) (hts _ q149) (fun x9 h9 => u_same (hts _ q150) x9 h9) rfl dX3_deleteMin_101 ?_
    refine va_alen (v := nI (cap + 1)) hx hb hE.1 hP 1 0 rfl rfl rfl dX3_deleteMin_104 ?_
    refine lv_iconst (v := 1) hx hb dX3_deleteMin_105 (by decide) ?_
    refine lv_isub hx hb dX3_deleteMin_106 ?_
    refine lt_i (y := nI cap) (nI_pred cap) ?_
    refine lv_istore_n (lv' := [(2, .int (nI cap)), (1, .ref m1), (0, .ref h)]) hx hb dX3_deleteMin_107 rfl hl (by decide) rfl (fun ls hl => ?_)
    refine lv_iconst (v := 2) hx hb dX3_deleteMin_108 (by decide) ?_
    refine lv_aload_n hx hb dX3_deleteMin_109 rfl (lv_at hl 2 rfl) ?_
    refine va_get (D := G.1) (ci := 0) (v := .int 16) (C := RX4) (T := TX4) (N := 4) hx hb hts in_X4 hown hE.1 hP 0 rfl rfl 3 (by decide) (hts _ q159) (fun x9 h9 => u_same (hts _ q160) x9 h9) rfl dX3_deleteMin_110 ?_
    refine lv_imul hx hb dX3_deleteMin_113 ?_
    refine lt_i (y := nI 32) (rfl) ?_
    refine lv_iload_n hx hb dX3_deleteMin_114 rfl (lv_at hl 0 rfl) ?_
    refine lv_icmp_gt (tgt := 135) hx hb dX3_deleteMin_115 (by decide) (fun c1 => ?_) (fun c1 => ?_)
    · refine W.widen (k := 1) (n := 129) (by omega) (by omega) ?_
      refine lv_aload_n hx hb dX3_deleteMin_135 rfl (lv_at hl 1 rfl) ?_
      exact W.aret (v := va_rf (some m1)) hx hb hr (Or.inl ⟨_, rfl⟩) (Or.inr ⟨m1, rfl⟩) (fun t ht hW => ⟨⟨some m1, (ar, cap, g), rfl, ⟨e1.symm, ⟨by show n - 1 ≤ cap; omega, h16, hc9⟩, hg, hpg⟩, by rw [ht]; exact hP, hD⟩, hS.F ht⟩) hS.2.2 dX3_deleteMin_136
    · have h32 : 32 ≤ cap := by rcases Nat.lt_or_ge cap 32 with h9 | h9; exact absurd (nI_lt h9 (by omega)) c1; exact h9
      refine lv_iconst (v := 4) hx hb dX3_deleteMin_118 (by decide) ?_
      refine lv_aload_n hx hb dX3_deleteMin_119 rfl (lv_at hl 2 rfl) ?_
      refine va_get (D := G.1) (ci := 0) (v := .int (nI (n - 1))) (C := RX4) (T := TX4) (N := 4) hx hb hts in_X4 hown hE.1 hP 0 rfl rfl 2 (by decide) (hts _ q154) (fun x9 h9 => u_same (hts _ q155) x9 h9) rfl dX3_deleteMin_120 ?_
      refine lv_imul hx hb dX3_deleteMin_123 ?_
      refine lt_i (y := nI (4 * (n - 1))) (ml_4 _) ?_
      refine lv_iload_n hx hb dX3_deleteMin_124 rfl (lv_at hl 0 rfl) ?_
      refine lv_icmp_ge (tgt := 135) hx hb dX3_deleteMin_125 (by decide) (fun c2 => ?_) (fun c2 => ?_)
      · refine W.widen (k := 1) (n := 129) (by omega) (by omega) ?_
        refine lv_aload_n hx hb dX3_deleteMin_135 rfl (lv_at hl 1 rfl) ?_
        exact W.aret (v := va_rf (some m1)) hx hb hr (Or.inl ⟨_, rfl⟩) (Or.inr ⟨m1, rfl⟩) (fun t ht hW => ⟨⟨some m1, (ar, cap, g), rfl, ⟨e1.symm, ⟨by show n - 1 ≤ cap; omega, h16, hc9⟩, hg, hpg⟩, by rw [ht]; exact hP, hD⟩, hS.F ht⟩) hS.2.2 dX3_deleteMin_136
      · have h4 : 4 * (n - 1) < cap := by rcases Nat.lt_or_ge (4 * (n - 1)) cap with h9 | h9; exact h9; exact absurd (nI_le h9 (by omega)) c2
        refine lv_aload_n hx hb dX3_deleteMin_128 rfl (lv_at hl 2 rfl) ?_
        refine lv_iload_n hx hb dX3_deleteMin_129 rfl (lv_at hl 0 rfl) ?_
        refine lv_iconst (v := 2) hx hb dX3_deleteMin_130 (by decide) ?_
        refine lv_idiv hx hb dX3_deleteMin_131 (by decide) ?_
        refine lt_i (y := nI (cap / 2)) (dv_2 (by omega)) ?_
        have hc := cut_ (wc := hw_ G h none ar (n - 1) cap g) (wr := []) hE hP hD hS hA (List.Perm.refl _)
        refine cv_ (va_runU (C := RX4) (As := [.int (nI (cap / 2))]) (rest := []) ⟨hx, hb, hml, hown, hts⟩ (mX4_ensureCapacity l G val L h ar (n - 1) cap (cap / 2) _ none g (by omega) (by omega) (by omega) (by omega) hmg) (va_cwA 1 hts (lw_U q231 q232 q234 q235 q6 q236) rfl rfl rfl (hE.dc 1 rfl) (by decide +kernel) ⟨Nat.le_of_ble_eq_true rfl, Nat.le_of_ble_eq_true rfl⟩) (Pw.preV hc (bxs_cut hB hS hc) (va_recv hE.1 hP (ci := 0) (q0 := 0) rfl rfl)) rfl rfl hl.1 rfl (lv_room (Nat.le_of_ble_eq_true rfl)) dX3_deleteMin_132 ⟨Nat.le_of_ble_eq_true rfl, Nat.le_of_ble_eq_true rfl⟩) hP hD hS hc (List.Perm.refl _) (fun u H locs hq hP hD hS => ?_)
        have hP : va_P G.1 clz (hw_ G h none u.1 (n - 1) (cap / 2) u.2) _ := hP
        have hD : va_D A (hw_ G h none u.1 (n - 1) (cap / 2) u.2) := hD
        refine lv_aload_n hx hb dX3_deleteMin_135 rfl (lv_at hl 1 rfl) ?_
        exact W.aret (v := va_rf (some m1)) hx hb hr (Or.inl ⟨_, rfl⟩) (Or.inr ⟨m1, rfl⟩) (fun t ht hW => ⟨⟨some m1, (u.1, cap / 2, u.2), rfl, ⟨e1.symm, ⟨by show n - 1 ≤ cap / 2; omega, by show 16 ≤ cap / 2; omega, by show cap / 2 ≤ 128; omega⟩, hq_hp_congr hg hq, by rw [hq_seg_congr hq]; exact hpg⟩, by rw [ht]; exact hP, hD⟩, hS.F ht⟩) hS.2.2 dX3_deleteMin_136
  refine lv_aload_n hx hb dX3_deleteMin_0 rfl (lv_at hl 0 rfl) ?_
  refine va_get (D := G.1) (ci := 0) (v := .int (nI n)) (C := RX4) (T := TX4) (N := 4) hx hb hts in_X4 hown hE.1 hP 0 rfl rfl 2 (by decide) (hts _ q154) (fun x9 h9 => u_same (hts _ q155) x9 h9) rfl dX3_deleteMin_1 ?_
  refine lv_if_ne (tgt := 15) hx hb dX3_deleteMin_4 (by decide) (fun c1 => ?_) (fun c1 => ?_)
  · refine lv_aload_n hx hb dX3_deleteMin_15 rfl (lv_at hl 0 rfl) ?_
    refine va_get (D := G.1) (ci := 0) (v := .ref ar) (C := RX4) (T := TX4) (N := 4) hx hb hts in_X4 hown hE.1 hP 0 rfl rfl 1 (by decide) (hts _ q149) (fun x9 h9 => u_same (hts _ q150) x9 h9) rfl dX3_deleteMin_16 ?_
    refine lv_iconst (v := 1) hx hb dX3_deleteMin_19 (by decide) ?_
    refine va_aldq hx hb hE.1 hP 1 0 rfl rfl (vp_in_nI (n := 1) (by omega) (by omega)) dX3_deleteMin_20 ?_
    refine lt_q (y := .ref m1) (by rw [cl_1, e1]; rfl) ?_
    refine lv_astore_n (lv' := [(1, .ref m1), (0, .ref h)]) hx hb dX3_deleteMin_21 rfl hl (by decide) rfl (fun ls hl => ?_)
    refine lv_aload_n hx hb dX3_deleteMin_22 rfl (lv_at hl 1 rfl) ?_
    refine va_get (D := G.1) (ci := 0) (v := .int (nI n)) (C := RX4) (T := TX4) (N := 4) hx hb hts in_X4 hown hE.1 hP 0 rfl rfl 2 (by decide) (hts _ q154) (fun x9 h9 => u_same (hts _ q155) x9 h9) rfl dX3_deleteMin_23 ?_
    refine lv_iconst (v := 1) hx hb dX3_deleteMin_26 (by decide) ?_
    refine lv_icmp_ne (tgt := 45) hx hb dX3_deleteMin_27 (by decide) (fun c2 => ?_) (fun c2 => ?_)
    · have h2 : 2 ≤ n := by rcases Nat.lt_or_ge n 2 with h9 | h9; exact absurd (by rw [show n = 1 by omega]; rfl) c2; exact h9
      obtain ⟨ml, hml2, el⟩ := hm n (by omega) (Nat.le_refl n)
      refine lv_aload_n hx hb dX3_deleteMin_45 rfl (lv_at hl 1 rfl) ?_
      refine va_get (D := G.1) (ci := 0) (v := .ref ar) (C := RX4) (T := TX4) (N := 4) hx hb hts in_X4 hown hE.1 hP 0 rfl rfl 1 (by decide) (hts _ q149) (fun x9 h9 => u_same (hts _ q150) x9 h9) rfl dX3_deleteMin_46 ?_
      refine lv_iconst (v := 1) hx hb dX3_deleteMin_49 (by decide) ?_
      refine lv_aload_n hx hb dX3_deleteMin_50 rfl (lv_at hl 1 rfl) ?_
      refine va_get (D := G.1) (ci := 0) (v := .ref ar) (C := RX4) (T := TX4) (N := 4) hx hb hts in_X4 hown hE.1 hP 0 rfl rfl 1 (by decide) (hts _ q149) (fun x9 h9 => u_same (hts _ q150) x9 h9) rfl dX3_deleteMin_51 ?_
      refine lv_aload_n hx hb dX3_deleteMin_54 rfl (lv_at hl 1 rfl) ?_
      refine va_get (D := G.1) (ci := 0) (v := .int (nI n)) (C := RX4) (T := TX4) (N := 4) hx hb hts in_X4 hown hE.1 hP 0 rfl rfl 2 (by decide) (hts _ q154) (fun x9 h9 => u_same (hts _ q155) x9 h9) rfl dX3_deleteMin_55 ?_
      refine va_aldq hx hb hE.1 hP 1 0 rfl rfl (vp_in_nI (n := n) (by omega) (by omega)) dX3_deleteMin_58 ?_
      refine lt_q (y := .ref ml) (by rw [nI_clamp (by omega), el]; rfl) ?_
      refine vb_astq (E := "java/lang/Object") (C := "java/lang/Integer") hx hb hE.1 hP hD hS 1 0 rfl rfl (bx.recv ((hB ml hml2).now hS)) (fun c1 c2 => vb_asgC hE.2.1.2.1.2 c1 c2) (vp_in_nI (n := 1) (by omega) (by omega)) dX3_deleteMin_59 (fun H locs hP hD hS => ?_)
      rw [cl_1] at hP hD
      have hP : va_P G.1 clz (hw_ G h none ar n cap (va_up f 1 (some ml))) _ := hP
      have hD : va_D A (hw_ G h none ar n cap (va_up f 1 (some ml))) := hD
      refine lv_aload_n hx hb dX3_deleteMin_60 rfl (lv_at hl 1 rfl) ?_
      refine va_get (D := G.1) (ci := 0) (v := .ref ar) (C := RX4) (T := TX4) (N := 4) hx hb hts in_X4 hown hE.1 hP 0 rfl rfl 1 (by decide) (hts _ q149) (fun x9 h9 => u_same (hts _ q150) x9 h9) rfl dX3_deleteMin_61 ?_
      refine lv_aload_n hx hb dX3_deleteMin_64 rfl (lv_at hl 1 rfl) ?_
      refine va_get (D := G.1) (ci := 0) (v := .int (nI n)) (C := RX4) (T := TX4) (N := 4) hx hb hts in_X4 hown hE.1 hP 0 rfl rfl 2 (by decide) (hts _ q154) (fun x9 h9 => u_same (hts _ q155) x9 h9) rfl dX3_deleteMin_65 ?_
      refine lv_null hx hb dX3_deleteMin_68 ?_
      refine va_astqN (C := "java/lang/Object") hx hb hE.1 hP hD hS 1 0 rfl rfl (vp_in_nI (n := n) (by omega) (by omega)) dX3_deleteMin_69 (fun H locs hP hD hS => ?_)
      rw [nI_clamp (by omega)] at hP hD
      have hP : va_P G.1 clz (hw_ G h none ar n cap (va_up (va_up f 1 (some ml)) n none)) _ := hP
      have hD : va_D A (hw_ G h none ar n cap (va_up (va_up f 1 (some ml)) n none)) := hD
      refine lv_aload_n hx hb dX3_deleteMin_70 rfl (lv_at hl 1 rfl) ?_
      refine lv_dup hx hb dX3_deleteMin_71 rfl ?_
      refine va_get (D := G.1) (ci := 0) (v := .int (nI n)) (C := RX4) (T := TX4) (N := 4) hx hb hts in_X4 hown hE.1 hP 0 rfl rfl 2 (by decide) (hts _ q154) (fun x9 h9 => u_same (hts _ q155) x9 h9) rfl dX3_deleteMin_72 ?_
      refine lv_iconst (v := 1) hx hb dX3_deleteMin_75 (by decide) ?_
      refine lv_isub hx hb dX3_deleteMin_76 ?_
      refine lt_i (y := nI (n - 1)) (nn_s1 h0) ?_
      refine va_put (D := G.1) (ci := 0) (v := .int (nI (n - 1))) (ty := .int) (C := RX4) (T := TX4) (N := 4) hx hb hts in_X4 tyX4 tyX4_ok nmX4 hown hE.1 hP hD hS 0 rfl rfl 2 (by decide) (hts _ q154) (fun x9 h9 => u_same (hts _ q155) x9 h9) rfl (by decide +kernel) (rfl) (rfl) (Nat.le_of_ble_eq_true rfl) dX3_deleteMin_77 (fun H locs hP hD hS => ?_)
      have hP : va_P G.1 clz (hw_ G h none ar (n - 1) cap (va_up (va_up f 1 (some ml)) n none)) _ := hP
      have hD : va_D A (hw_ G h none ar (n - 1) cap (va_up (va_up f 1 (some ml)) n none)) := hD
      refine lv_aload_n hx hb dX3_deleteMin_80 rfl (lv_at hl 1 rfl) ?_
      refine va_get (D := G.1) (ci := 0) (v := .null) (C := RX4) (T := TX4) (N := 4) hx hb hts in_X4 hown hE.1 hP 0 rfl rfl 0 (by decide) (hts _ q145) (fun x9 h9 => u_same (hts _ q146) x9 h9) rfl dX3_deleteMin_81 ?_
      refine lv_ifnonnullN hx hb dX3_deleteMin_84 ?_
      refine lv_aload_n hx hb dX3_deleteMin_87 rfl (lv_at hl 1 rfl) ?_
      refine lv_iconst (v := 1) hx hb dX3_deleteMin_88 (by decide) ?_
      refine lt_i (y := nI 1) (rfl) ?_
      have hc := cut_ (wc := hw_ G h none ar (n - 1) cap (va_up (va_up f 1 (some ml)) n none)) (wr := []) hE hP hD hS hA (List.Perm.refl _)
      refine cv_ (va_runU (C := RX4) (As := [.int (nI 1)]) (rest := []) ⟨hx, hb, hml, hown, hts⟩ (mX4_fixdown l G val L h ar (n - 1) cap 1 _ none (va_up (va_up f 1 (some ml)) n none) (Nat.le_refl 1) (by omega) (by omega) (by omega) (take_in h2 hm hml2) (take_dn h2 hp)) (va_cwA 1 hts (lw_U q360 q361 q363 q299 q6 q301) rfl rfl rfl (hE.dc 4 rfl) (by decide +kernel) ⟨Nat.le_of_ble_eq_true rfl, Nat.le_of_ble_eq_true rfl⟩) (Pw.preV hc (bxs_cut hB hS hc) (va_recv hE.1 hP (ci := 0) (q0 := 0) rfl rfl)) rfl rfl hl.1 rfl (lv_room (Nat.le_of_ble_eq_true rfl)) dX3_deleteMin_89 ⟨Nat.le_of_ble_eq_true rfl, Nat.le_of_ble_eq_true rfl⟩) hP hD hS hc (List.Perm.refl _) (fun f2 H locs hq hP hD hS => ?_)
      have hP : va_P G.1 clz (hw_ G h none ar (n - 1) cap f2) _ := hP
      have hD : va_D A (hw_ G h none ar (n - 1) cap f2) := hD
      refine lv_goto (tgt := 100) hx hb dX3_deleteMin_92 (by decide) ?_
      have hin2 : ∀ i, 1 ≤ i → i ≤ n - 1 → ∃ y, y ∈ L ∧ f2 i = some y := by
        intro i h1 h3
        obtain ⟨j, j1, j2, ej⟩ := hq_mem.mp (hq.2.mem_iff.mp (hq_mem.mpr ⟨i, h1, h3, rfl⟩))
        rw [← ej]
        exact take_in h2 hm hml2 j j1 j2
      exact mid f2 _ _ ls hq.1 ((List.Perm.cons _ hq.2).trans (take_seg h2 el)) hin2 hP hD hS (lv_sub hl [0, 1] rfl)
    · have en : n = 1 := (nI_eq (b := 1) (by omega) (by omega)).mp c2
      subst en
      refine lv_aload_n hx hb dX3_deleteMin_30 rfl (lv_at hl 1 rfl) ?_
      refine va_get (D := G.1) (ci := 0) (v := .ref ar) (C := RX4) (T := TX4) (N := 4) hx hb hts in_X4 hown hE.1 hP 0 rfl rfl 1 (by decide) (hts _ q149) (fun x9 h9 => u_same (hts _ q150) x9 h9) rfl dX3_deleteMin_31 ?_
      refine lv_iconst (v := 1) hx hb dX3_deleteMin_34 (by decide) ?_
      refine lv_null hx hb dX3_deleteMin_35 ?_
      refine va_astqN (C := "java/lang/Object") hx hb hE.1 hP hD hS 1 0 rfl rfl (vp_in_nI (n := 1) (by omega) (by omega)) dX3_deleteMin_36 (fun H locs hP hD hS => ?_)
      rw [cl_1] at hP hD
      have hP : va_P G.1 clz (hw_ G h none ar 1 cap (va_up f 1 none)) _ := hP
      have hD : va_D A (hw_ G h none ar 1 cap (va_up f 1 none)) := hD
      refine lv_aload_n hx hb dX3_deleteMin_37 rfl (lv_at hl 1 rfl) ?_
      refine lv_iconst (v := 0) hx hb dX3_deleteMin_38 (by decide) ?_
      refine lt_i (y := nI 0) (nI_0.symm) ?_
      refine va_put (D := G.1) (ci := 0) (v := .int (nI 0)) (ty := .int) (C := RX4) (T := TX4) (N := 4) hx hb hts in_X4 tyX4 tyX4_ok nmX4 hown hE.1 hP hD hS 0 rfl rfl 2 (by decide) (hts _ q154) (fun x9 h9 => u_same (hts _ q155) x9 h9) rfl (by decide +kernel) (rfl) (rfl) (Nat.le_of_ble_eq_true rfl) dX3_deleteMin_39 (fun H locs hP hD hS => ?_)
      have hP : va_P G.1 clz (hw_ G h none ar (1 - 1) cap (va_up f 1 none)) _ := hP
      have hD : va_D A (hw_ G h none ar (1 - 1) cap (va_up f 1 none)) := hD
      refine lv_goto (tgt := 100) hx hb dX3_deleteMin_42 (by decide) ?_
      exact mid (va_up f 1 none) _ _ ls (hq_hp_none (by omega)) (List.Perm.refl _) (fun i h1 h3 => absurd h3 (by omega)) hP hD hS (lv_sub hl [0, 1] rfl)
  · exact absurd ((z_iff (by omega)).mp c1) (by omega)
set_option maxHeartbeats 4000000 in
set_option maxRecDepth 100000 in
/-- deleteMin() -/
theorem mX3_deleteMin_true (l : Launch) (G : gT) (val : Nat → Int32) (L : List Nat) (h ar n cap sz : Nat) (f : Nat → Option Nat) (h0 : 1 ≤ n) (hn : n ≤ cap) (h16 : 16 ≤ cap) (hc9 : cap ≤ 128) (hm : ∀ i, 1 ≤ i → i ≤ n → ∃ z, z ∈ L ∧ f i = some z) (hp : hq_hp (wq_ true val) 1 f n) : Met l yX3_deleteMin (ws_ yX3_deleteMin cX3_deleteMin 3 (some (.object "java/lang/Object"))) (rm_ 4 1 129 90) (Pw G val L [.ref h] sz (hw_ G h (some (gW G)) ar n cap f)) (va_Qq (fun (x : Option Nat) (u : Nat × Nat × (Nat → Option Nat)) => x = f 1 ∧ (n - 1 ≤ u.2.1 ∧ 16 ≤ u.2.1 ∧ u.2.1 ≤ 128) ∧ hq_hp (wq_ true val) 1 u.2.2 (n - 1) ∧ (f 1 :: hq_seg u.2.2 (n - 1)).Perm (hq_seg f n)) (Bw G (va_A (hw_ G h (some (gW G)) ar n cap f) sz) (fun u => hw_ G h (some (gW G)) u.1 (n - 1) u.2.1 u.2.2)) (va_A (hw_ G h (some (gW G)) ar n cap f) sz)) 1 129 (va_A (hw_ G h (some (gW G)) ar n cap f) sz) := by
  refine Met.ofW (cc := cX3_deleteMin) (maxL := 3) (ret := some (.object "java/lang/Object")) (by decide) rfl ?_
  intro p e s m args below meth c s₁ B hml hv
  obtain ⟨rfl, hsz, hP, hD0, hE, hB⟩ := hv
  have hx := B.exec
  have hb := B.bytes
  have hr := B.returns
  have hts := atoms_spec (ws := ws_ yX3_deleteMin cX3_deleteMin 3 (some (.object "java/lang/Object"))) B.pre
  have hts : ∀ w ∈ lw_all, w.before _ s = true := fun w h => hts w (List.mem_cons_of_mem _ h)
  have hown : s.vm.findClass RX3 = some m.cls := findClass_of_methodNamed B.named
  have hlocks := B.notSynchronized
  subst hsz
  have hD := hD0.self (sz := s.heap.size)
  generalize hAe : va_A (hw_ G h (some (gW G)) ar n cap f) s.heap.size = A at hD hE hB ⊢
  have hA : ∀ q : Nat, s.heap.size ≤ q → A q := fun q h => by rw [← hAe]; exact Or.inr h
  have hS : va_S A s.heap s.heap [] := va_S.rf
  have hl := lv_entry ([.ref h]) (n := 3) (Nat.le_of_ble_eq_true rfl)
  rw [lg_entry_eq]
  generalize (lg_sl ([.ref h]) ++ List.replicate (3 - (lg_sl ([.ref h])).length) Slot.unset).toArray = ls at hl ⊢
  have hl : lv_has ls 3 [(0, .ref h)] := hl
  have hP : va_P G.1 clz (hw_ G h (some (gW G)) ar n cap f) _ := hP
  have hD : va_D A (hw_ G h (some (gW G)) ar n cap f) := hD
  obtain ⟨m1, hm1, e1⟩ := hm 1 (Nat.le_refl 1) h0
  have mid : ∀ (g : Nat → Option Nat) (H : Heap) (locs : List Loc) (ls : Array Slot), hq_hp (wq_ true val) 1 g (n - 1) → (f 1 :: hq_seg g (n - 1)).Perm (hq_seg f n) → (∀ i, 1 ≤ i → i ≤ n - 1 → ∃ y, y ∈ L ∧ g i = some y) → va_P G.1 clz (hw_ G h (some (gW G)) ar (n - 1) cap g) H → va_D A (hw_ G h (some (gW G)) ar (n - 1) cap g) → va_S A s.heap H locs → lv_has ls 3 [(1, .ref m1), (0, .ref h)] → W p l e (headSpec (ws_ yX3_deleteMin cX3_deleteMin 3 (some (.object "java/lang/Object"))) (rm_ 4 1 129 90)).room s m ([.ref h] : List Value).toArray below meth c H locs 0 0 (MQ below (va_Qq (fun (x : Option Nat) (u : Nat × Nat × (Nat → Option Nat)) => x = f 1 ∧ (n - 1 ≤ u.2.1 ∧ 16 ≤ u.2.1 ∧ u.2.1 ≤ 128) ∧ hq_hp (wq_ true val) 1 u.2.2 (n - 1) ∧ (f 1 :: hq_seg u.2.2 (n - 1)).Perm (hq_seg f n)) (Bw G A (fun u => hw_ G h (some (gW G)) u.1 (n - 1) u.2.1 u.2.2)) A) ([.ref h] : List Value).toArray s 1 129 A) (F0 m 100 ls []) := by
    intro g H locs ls hg hpg hmg hP hD hS hl
    refine lv_aload_n hx hb dX3_deleteMin_100 rfl (lv_at hl 1 rfl) ?_
    refine va_get (D := G.1) (ci := 0) (v := .ref ar) (C := RX4) (T := TX4) (N := 4) hx hb hts in_X4 hown hE.1 hP 0 rfl rfl 1 (by decide) (hts _ q149) (fun x9 h9 => u_same (hts _ q150) x9 h9) rfl dX3_deleteMin_101 ?_
    refine va_alen (v := nI (cap + 1)) hx hb hE.1 hP 1 0 rfl rfl rfl dX3_deleteMin_104 ?_
    refine lv_iconst (v := 1) hx hb dX3_deleteMin_105 (by decide) ?_
    refine lv_isub hx hb dX3_deleteMin_106 ?_
    refine lt_i (y := nI cap) (nI_pred cap) ?_
    refine lv_istore_n (lv' := [(2, .int (nI cap)), (1, .ref m1), (0, .ref h)]) hx hb dX3_deleteMin_107 rfl hl (by decide) rfl (fun ls hl => ?_)
    refine lv_iconst (v := 2) hx hb dX3_deleteMin_108 (by decide) ?_
    refine lv_aload_n hx hb dX3_deleteMin_109 rfl (lv_at hl 2 rfl) ?_
    refine va_get (D := G.1) (ci := 0) (v := .int 16) (C := RX4) (T := TX4) (N := 4) hx hb hts in_X4 hown hE.1 hP 0 rfl rfl 3 (by decide) (hts _ q159) (fun x9 h9 => u_same (hts _ q160) x9 h9) rfl dX3_deleteMin_110 ?_
    refine lv_imul hx hb dX3_deleteMin_113 ?_
    refine lt_i (y := nI 32) (rfl) ?_
    refine lv_iload_n hx hb dX3_deleteMin_114 rfl (lv_at hl 0 rfl) ?_
    refine lv_icmp_gt (tgt := 135) hx hb dX3_deleteMin_115 (by decide) (fun c1 => ?_) (fun c1 => ?_)
    · refine W.widen (k := 1) (n := 129) (by omega) (by omega) ?_
      refine lv_aload_n hx hb dX3_deleteMin_135 rfl (lv_at hl 1 rfl) ?_
      exact W.aret (v := va_rf (some m1)) hx hb hr (Or.inl ⟨_, rfl⟩) (Or.inr ⟨m1, rfl⟩) (fun t ht hW => ⟨⟨some m1, (ar, cap, g), rfl, ⟨e1.symm, ⟨by show n - 1 ≤ cap; omega, h16, hc9⟩, hg, hpg⟩, by rw [ht]; exact hP, hD⟩, hS.F ht⟩) hS.2.2 dX3_deleteMin_136
    · have h32 : 32 ≤ cap := by rcases Nat.lt_or_ge cap 32 with h9 | h9; exact absurd (nI_lt h9 (by omega)) c1; exact h9
      refine lv_iconst (v := 4) hx hb dX3_deleteMin_118 (by decide) ?_
      refine lv_aload_n hx hb dX3_deleteMin_119 rfl (lv_at hl 2 rfl) ?_
      refine va_get (D := G.1) (ci := 0) (v := .int (nI (n - 1))) (C := RX4) (T := TX4) (N := 4) hx hb hts in_X4 hown hE.1 hP 0 rfl rfl 2 (by decide) (hts _ q154) (fun x9 h9 => u_same (hts _ q155) x9 h9) rfl dX3_deleteMin_120 ?_
      refine lv_imul hx hb dX3_deleteMin_123 ?_
      refine lt_i (y := nI (4 * (n - 1))) (ml_4 _) ?_
      refine lv_iload_n hx hb dX3_deleteMin_124 rfl (lv_at hl 0 rfl) ?_
      refine lv_icmp_ge (tgt := 135) hx hb dX3_deleteMin_125 (by decide) (fun c2 => ?_) (fun c2 => ?_)
      · refine W.widen (k := 1) (n := 129) (by omega) (by omega) ?_
        refine lv_aload_n hx hb dX3_deleteMin_135 rfl (lv_at hl 1 rfl) ?_
        exact W.aret (v := va_rf (some m1)) hx hb hr (Or.inl ⟨_, rfl⟩) (Or.inr ⟨m1, rfl⟩) (fun t ht hW => ⟨⟨some m1, (ar, cap, g), rfl, ⟨e1.symm, ⟨by show n - 1 ≤ cap; omega, h16, hc9⟩, hg, hpg⟩, by rw [ht]; exact hP, hD⟩, hS.F ht⟩) hS.2.2 dX3_deleteMin_136
      · have h4 : 4 * (n - 1) < cap := by rcases Nat.lt_or_ge (4 * (n - 1)) cap with h9 | h9; exact h9; exact absurd (nI_le h9 (by omega)) c2
        refine lv_aload_n hx hb dX3_deleteMin_128 rfl (lv_at hl 2 rfl) ?_
        refine lv_iload_n hx hb dX3_deleteMin_129 rfl (lv_at hl 0 rfl) ?_
        refine lv_iconst (v := 2) hx hb dX3_deleteMin_130 (by decide) ?_
        refine lv_idiv hx hb dX3_deleteMin_131 (by decide) ?_
        refine lt_i (y := nI (cap / 2)) (dv_2 (by omega)) ?_
        have hc := cut_ (wc := hw_ G h (some (gW G)) ar (n - 1) cap g) (wr := []) hE hP hD hS hA (List.Perm.refl _)
        refine cv_ (va_runU (C := RX4) (As := [.int (nI (cap / 2))]) (rest := []) ⟨hx, hb, hml, hown, hts⟩ (mX4_ensureCapacity l G val L h ar (n - 1) cap (cap / 2) _ (some (gW G)) g (by omega) (by omega) (by omega) (by omega) hmg) (va_cwA 1 hts (lw_U q231 q232 q234 q235 q6 q236) rfl rfl rfl (hE.dc 1 rfl) (by decide +kernel) ⟨Nat.le_of_ble_eq_true rfl, Nat.le_of_ble_eq_true rfl⟩) (Pw.preV hc (bxs_cut hB hS hc) (va_recv hE.1 hP (ci := 0) (q0 := 0) rfl rfl)) rfl rfl hl.1 rfl (lv_room (Nat.le_of_ble_eq_true rfl)) dX3_deleteMin_132 ⟨Nat.le_of_ble_eq_true rfl, Nat.le_of_ble_eq_true rfl⟩) hP hD hS hc (List.Perm.refl _) (fun u H locs hq hP hD hS => ?_)
        have hP : va_P G.1 clz (hw_ G h (some (gW G)) u.1 (n - 1) (cap / 2) u.2) _ := hP
        have hD : va_D A (hw_ G h (some (gW G)) u.1 (n - 1) (cap / 2) u.2) := hD
        refine lv_aload_n hx hb dX3_deleteMin_135 rfl (lv_at hl 1 rfl) ?_
        exact W.aret (v := va_rf (some m1)) hx hb hr (Or.inl ⟨_, rfl⟩) (Or.inr ⟨m1, rfl⟩) (fun t ht hW => ⟨⟨some m1, (u.1, cap / 2, u.2), rfl, ⟨e1.symm, ⟨by show n - 1 ≤ cap / 2; omega, by show 16 ≤ cap / 2; omega, by show cap / 2 ≤ 128; omega⟩, hq_hp_congr hg hq, by rw [hq_seg_congr hq]; exact hpg⟩, by rw [ht]; exact hP, hD⟩, hS.F ht⟩) hS.2.2 dX3_deleteMin_136
  refine lv_aload_n hx hb dX3_deleteMin_0 rfl (lv_at hl 0 rfl) ?_
  refine va_get (D := G.1) (ci := 0) (v := .int (nI n)) (C := RX4) (T := TX4) (N := 4) hx hb hts in_X4 hown hE.1 hP 0 rfl rfl 2 (by decide) (hts _ q154) (fun x9 h9 => u_same (hts _ q155) x9 h9) rfl dX3_deleteMin_1 ?_
  refine lv_if_ne (tgt := 15) hx hb dX3_deleteMin_4 (by decide) (fun c1 => ?_) (fun c1 => ?_)
  · refine lv_aload_n hx hb dX3_deleteMin_15 rfl (lv_at hl 0 rfl) ?_
    refine va_get (D := G.1) (ci := 0) (v := .ref ar) (C := RX4) (T := TX4) (N := 4) hx hb hts in_X4 hown hE.1 hP 0 rfl rfl 1 (by decide) (hts _ q149) (fun x9 h9 => u_same (hts _ q150) x9 h9) rfl dX3_deleteMin_16 ?_
    refine lv_iconst (v := 1) hx hb dX3_deleteMin_19 (by decide) ?_
    refine va_aldq hx hb hE.1 hP 1 0 rfl rfl (vp_in_nI (n := 1) (by omega) (by omega)) dX3_deleteMin_20 ?_
    refine lt_q (y := .ref m1) (by rw [cl_1, e1]; rfl) ?_
    refine lv_astore_n (lv' := [(1, .ref m1), (0, .ref h)]) hx hb dX3_deleteMin_21 rfl hl (by decide) rfl (fun ls hl => ?_)
    refine lv_aload_n hx hb dX3_deleteMin_22 rfl (lv_at hl 1 rfl) ?_
    refine va_get (D := G.1) (ci := 0) (v := .int (nI n)) (C := RX4) (T := TX4) (N := 4) hx hb hts in_X4 hown hE.1 hP 0 rfl rfl 2 (by decide) (hts _ q154) (fun x9 h9 => u_same (hts _ q155) x9 h9) rfl dX3_deleteMin_23 ?_
    refine lv_iconst (v := 1) hx hb dX3_deleteMin_26 (by decide) ?_
    refine lv_icmp_ne (tgt := 45) hx hb dX3_deleteMin_27 (by decide) (fun c2 => ?_) (fun c2 => ?_)
    · have h2 : 2 ≤ n := by rcases Nat.lt_or_ge n 2 with h9 | h9; exact absurd (by rw [show n = 1 by omega]; rfl) c2; exact h9
      obtain ⟨ml, hml2, el⟩ := hm n (by omega) (Nat.le_refl n)
      refine lv_aload_n hx hb dX3_deleteMin_45 rfl (lv_at hl 1 rfl) ?_
      refine va_get (D := G.1) (ci := 0) (v := .ref ar) (C := RX4) (T := TX4) (N := 4) hx hb hts in_X4 hown hE.1 hP 0 rfl rfl 1 (by decide) (hts _ q149) (fun x9 h9 => u_same (hts _ q150) x9 h9) rfl dX3_deleteMin_46 ?_
      refine lv_iconst (v := 1) hx hb dX3_deleteMin_49 (by decide) ?_
      refine lv_aload_n hx hb dX3_deleteMin_50 rfl (lv_at hl 1 rfl) ?_
      refine va_get (D := G.1) (ci := 0) (v := .ref ar) (C := RX4) (T := TX4) (N := 4) hx hb hts in_X4 hown hE.1 hP 0 rfl rfl 1 (by decide) (hts _ q149) (fun x9 h9 => u_same (hts _ q150) x9 h9) rfl dX3_deleteMin_51 ?_
      refine lv_aload_n hx hb dX3_deleteMin_54 rfl (lv_at hl 1 rfl) ?_
      refine va_get (D := G.1) (ci := 0) (v := .int (nI n)) (C := RX4) (T := TX4) (N := 4) hx hb hts in_X4 hown hE.1 hP 0 rfl rfl 2 (by decide) (hts _ q154) (fun x9 h9 => u_same (hts _ q155) x9 h9) rfl dX3_deleteMin_55 ?_
      refine va_aldq hx hb hE.1 hP 1 0 rfl rfl (vp_in_nI (n := n) (by omega) (by omega)) dX3_deleteMin_58 ?_
      refine lt_q (y := .ref ml) (by rw [nI_clamp (by omega), el]; rfl) ?_
      refine vb_astq (E := "java/lang/Object") (C := "java/lang/Integer") hx hb hE.1 hP hD hS 1 0 rfl rfl (bx.recv ((hB ml hml2).now hS)) (fun c1 c2 => vb_asgC hE.2.1.2.1.2 c1 c2) (vp_in_nI (n := 1) (by omega) (by omega)) dX3_deleteMin_59 (fun H locs hP hD hS => ?_)
      rw [cl_1] at hP hD
      have hP : va_P G.1 clz (hw_ G h (some (gW G)) ar n cap (va_up f 1 (some ml))) _ := hP
      have hD : va_D A (hw_ G h (some (gW G)) ar n cap (va_up f 1 (some ml))) := hD
      refine lv_aload_n hx hb dX3_deleteMin_60 rfl (lv_at hl 1 rfl) ?_
      refine va_get (D := G.1) (ci := 0) (v := .ref ar) (C := RX4) (T := TX4) (N := 4) hx hb hts in_X4 hown hE.1 hP 0 rfl rfl 1 (by decide) (hts _ q149) (fun x9 h9 => u_same (hts _ q150) x9 h9) rfl dX3_deleteMin_61 ?_
      refine lv_aload_n hx hb dX3_deleteMin_64 rfl (lv_at hl 1 rfl) ?_
      refine va_get (D := G.1) (ci := 0) (v := .int (nI n)) (C := RX4) (T := TX4) (N := 4) hx hb hts in_X4 hown hE.1 hP 0 rfl rfl 2 (by decide) (hts _ q154) (fun x9 h9 => u_same (hts _ q155) x9 h9) rfl dX3_deleteMin_65 ?_
      refine lv_null hx hb dX3_deleteMin_68 ?_
      refine va_astqN (C := "java/lang/Object") hx hb hE.1 hP hD hS 1 0 rfl rfl (vp_in_nI (n := n) (by omega) (by omega)) dX3_deleteMin_69 (fun H locs hP hD hS => ?_)
      rw [nI_clamp (by omega)] at hP hD
      have hP : va_P G.1 clz (hw_ G h (some (gW G)) ar n cap (va_up (va_up f 1 (some ml)) n none)) _ := hP
      have hD : va_D A (hw_ G h (some (gW G)) ar n cap (va_up (va_up f 1 (some ml)) n none)) := hD
      refine lv_aload_n hx hb dX3_deleteMin_70 rfl (lv_at hl 1 rfl) ?_
      refine lv_dup hx hb dX3_deleteMin_71 rfl ?_
      refine va_get (D := G.1) (ci := 0) (v := .int (nI n)) (C := RX4) (T := TX4) (N := 4) hx hb hts in_X4 hown hE.1 hP 0 rfl rfl 2 (by decide) (hts _ q154) (fun x9 h9 => u_same (hts _ q155) x9 h9) rfl dX3_deleteMin_72 ?_
      refine lv_iconst (v := 1) hx hb dX3_deleteMin_75 (by decide) ?_
      refine lv_isub hx hb dX3_deleteMin_76 ?_
      refine lt_i (y := nI (n - 1)) (nn_s1 h0) ?_
      refine va_put (D := G.1) (ci := 0) (v := .int (nI (n - 1))) (ty := .int) (C := RX4) (T := TX4) (N := 4) hx hb hts in_X4 tyX4 tyX4_ok nmX4 hown hE.1 hP hD hS 0 rfl rfl 2 (by decide) (hts _ q154) (fun x9 h9 => u_same (hts _ q155) x9 h9) rfl (by decide +kernel) (rfl) (rfl) (Nat.le_of_ble_eq_true rfl) dX3_deleteMin_77 (fun H locs hP hD hS => ?_)
      have hP : va_P G.1 clz (hw_ G h (some (gW G)) ar (n - 1) cap (va_up (va_up f 1 (some ml)) n none)) _ := hP
      have hD : va_D A (hw_ G h (some (gW G)) ar (n - 1) cap (va_up (va_up f 1 (some ml)) n none)) := hD
      refine lv_aload_n hx hb dX3_deleteMin_80 rfl (lv_at hl 1 rfl) ?_
      refine va_get (D := G.1) (ci := 0) (v := .ref (gW G)) (C := RX4) (T := TX4) (N := 4) hx hb hts in_X4 hown hE.1 hP 0 rfl rfl 0 (by decide) (hts _ q145) (fun x9 h9 => u_same (hts _ q146) x9 h9) rfl dX3_deleteMin_81 ?_
      refine lv_ifnonnull (tgt := 95) hx hb dX3_deleteMin_84 (by decide) ?_
      refine lv_aload_n hx hb dX3_deleteMin_95 rfl (lv_at hl 1 rfl) ?_
      refine lv_iconst (v := 1) hx hb dX3_deleteMin_96 (by decide) ?_
      refine lt_i (y := nI 1) (rfl) ?_
      have hc := cut_ (wc := hw_ G h (some (gW G)) ar (n - 1) cap (va_up (va_up f 1 (some ml)) n none)) (wr := []) hE hP hD hS hA (List.Perm.refl _)
      refine cv_ (va_runU (C := RX4) (As := [.int (nI 1)]) (rest := []) ⟨hx, hb, hml, hown, hts⟩ (mX4_fixdownWithComparator l G val L h ar (n - 1) cap 1 _ (va_up (va_up f 1 (some ml)) n none) (Nat.le_refl 1) (by omega) (by omega) (by omega) (take_in h2 hm hml2) (take_dn h2 hp)) (va_cwA 1 hts (lw_U q364 q365 q367 q310 q6 q312) rfl rfl rfl (hE.dc 5 rfl) (by decide +kernel) ⟨Nat.le_of_ble_eq_true rfl, Nat.le_of_ble_eq_true rfl⟩) (Pw.preV hc (bxs_cut hB hS hc) (va_recv hE.1 hP (ci := 0) (q0 := 0) rfl rfl)) rfl rfl hl.1 rfl (lv_room (Nat.le_of_ble_eq_true rfl)) dX3_deleteMin_97 ⟨Nat.le_of_ble_eq_true rfl, Nat.le_of_ble_eq_true rfl⟩) hP hD hS hc (List.Perm.refl _) (fun f2 H locs hq hP hD hS => ?_)
      have hP : va_P G.1 clz (hw_ G h (some (gW G)) ar (n - 1) cap f2) _ := hP
      have hD : va_D A (hw_ G h (some (gW G)) ar (n - 1) cap f2) := hD
      have hin2 : ∀ i, 1 ≤ i → i ≤ n - 1 → ∃ y, y ∈ L ∧ f2 i = some y := by
        intro i h1 h3
        obtain ⟨j, j1, j2, ej⟩ := hq_mem.mp (hq.2.mem_iff.mp (hq_mem.mpr ⟨i, h1, h3, rfl⟩))
        rw [← ej]
        exact take_in h2 hm hml2 j j1 j2
      exact mid f2 _ _ ls hq.1 ((List.Perm.cons _ hq.2).trans (take_seg h2 el)) hin2 hP hD hS (lv_sub hl [0, 1] rfl)
    · have en : n = 1 := (nI_eq (b := 1) (by omega) (by omega)).mp c2
      subst en
      refine lv_aload_n hx hb dX3_deleteMin_30 rfl (lv_at hl 1 rfl) ?_
      refine va_get (D := G.1) (ci := 0) (v := .ref ar) (C := RX4) (T := TX4) (N := 4) hx hb hts in_X4 hown hE.1 hP 0 rfl rfl 1 (by decide) (hts _ q149) (fun x9 h9 => u_same (hts _ q150) x9 h9) rfl dX3_deleteMin_31 ?_
      refine lv_iconst (v := 1) hx hb dX3_deleteMin_34 (by decide) ?_
      refine lv_null hx hb dX3_deleteMin_35 ?_
      refine va_astqN (C := "java/lang/Object") hx hb hE.1 hP hD hS 1 0 rfl rfl (vp_in_nI (n := 1) (by omega) (by omega)) dX3_deleteMin_36 (fun H locs hP hD hS => ?_)
      rw [cl_1] at hP hD
      have hP : va_P G.1 clz (hw_ G h (some (gW G)) ar 1 cap (va_up f 1 none)) _ := hP
      have hD : va_D A (hw_ G h (some (gW G)) ar 1 cap (va_up f 1 none)) := hD
      refine lv_aload_n hx hb dX3_deleteMin_37 rfl (lv_at hl 1 rfl) ?_
      refine lv_iconst (v := 0) hx hb dX3_deleteMin_38 (by decide) ?_
      refine lt_i (y := nI 0) (nI_0.symm) ?_
      refine va_put (D := G.1) (ci := 0) (v := .int (nI 0)) (ty := .int) (C := RX4) (T := TX4) (N := 4) hx hb hts in_X4 tyX4 tyX4_ok nmX4 hown hE.1 hP hD hS 0 rfl rfl 2 (by decide) (hts _ q154) (fun x9 h9 => u_same (hts _ q155) x9 h9) rfl (by decide +kernel) (rfl) (rfl) (Nat.le_of_ble_eq_true rfl) dX3_deleteMin_39 (fun H locs hP hD hS => ?_)
      have hP : va_P G.1 clz (hw_ G h (some (gW G)) ar (1 - 1) cap (va_up f 1 none)) _ := hP
      have hD : va_D A (hw_ G h (some (gW G)) ar (1 - 1) cap (va_up f 1 none)) := hD
      refine lv_goto (tgt := 100) hx hb dX3_deleteMin_42 (by decide) ?_
      exact mid (va_up f 1 none) _ _ ls (hq_hp_none (by omega)) (List.Perm.refl _) (fun i h1 h3 => absurd h3 (by omega)) hP hD hS (lv_sub hl [0, 1] rfl)
  · exact absurd ((z_iff (by omega)).mp c1) (by omega)
/-- deleteMin(), in either order -/
theorem mX3_deleteMin (l : Launch) (G : gT) (d : Bool) (val : Nat → Int32) (L : List Nat) (h ar n cap sz : Nat) (f : Nat → Option Nat) (h0 : 1 ≤ n) (hn : n ≤ cap) (h16 : 16 ≤ cap) (hc9 : cap ≤ 128) (hm : ∀ i, 1 ≤ i → i ≤ n → ∃ z, z ∈ L ∧ f i = some z) (hp : hq_hp (wq_ d val) 1 f n) : Met l yX3_deleteMin (ws_ yX3_deleteMin cX3_deleteMin 3 (some (.object "java/lang/Object"))) (rm_ 4 1 129 90) (Pw G val L [.ref h] sz (hw_ G h (cm_ G d) ar n cap f)) (va_Qq (fun (x : Option Nat) (u : Nat × Nat × (Nat → Option Nat)) => x = f 1 ∧ (n - 1 ≤ u.2.1 ∧ 16 ≤ u.2.1 ∧ u.2.1 ≤ 128) ∧ hq_hp (wq_ d val) 1 u.2.2 (n - 1) ∧ (f 1 :: hq_seg u.2.2 (n - 1)).Perm (hq_seg f n)) (Bw G (va_A (hw_ G h (cm_ G d) ar n cap f) sz) (fun u => hw_ G h (cm_ G d) u.1 (n - 1) u.2.1 u.2.2)) (va_A (hw_ G h (cm_ G d) ar n cap f) sz)) 1 129 (va_A (hw_ G h (cm_ G d) ar n cap f) sz) := by
  cases d
  · exact mX3_deleteMin_false l G val L h ar n cap sz f h0 hn h16 hc9 hm hp
  · exact mX3_deleteMin_true l G val L h ar n cap sz f h0 hn h16 hc9 hm hp
set_option maxHeartbeats 4000000 in
set_option maxRecDepth 100000 in
/-- heapify of four -/
theorem mX4_heapify (l : Launch) (G : gT) (val : Nat → Int32) (L : List Nat) (a sz : Nat) (f : Nat → Option Nat) (hm : ∀ i, i < 4 → ∃ z, z ∈ L ∧ f i = some z) : Met l yX4_heapify (ws_ yX4_heapify cX4_heapify 3 (some (.object "BinaryArrayHeap"))) (rm_ 4 2 21 89) (Pw G val L [.ref a] sz [(a, .inl (gJ G, 4, .inr (.inr (.inr (.inr f)))))]) (va_Qr (fun u : Nat × (Nat → Option Nat) => hq_hp (wq_ false val) 1 u.2 4 ∧ (hq_seg u.2 4).Perm [f 0, f 1, f 2, f 3]) (fun u q t => Bw G (va_A [(a, .inl (gJ G, 4, .inr (.inr (.inr (.inr f)))))] sz) (fun u : Nat × (Nat → Option Nat) => hw_ G q none u.1 4 16 u.2) u t) (va_A [(a, .inl (gJ G, 4, .inr (.inr (.inr (.inr f)))))] sz)) 2 21 (va_A [(a, .inl (gJ G, 4, .inr (.inr (.inr (.inr f)))))] sz) := by
  refine Met.ofW (cc := cX4_heapify) (maxL := 3) (ret := some (.object "BinaryArrayHeap")) (by decide) rfl ?_
  intro p e s m args below meth c s₁ B hml hv
  obtain ⟨rfl, hsz, hP, hD0, hE, hB⟩ := hv
  have hx := B.exec
  have hb := B.bytes
  have hr := B.returns
  have hts := atoms_spec (ws := ws_ yX4_heapify cX4_heapify 3 (some (.object "BinaryArrayHeap"))) B.pre
  have hts : ∀ w ∈ lw_all, w.before _ s = true := fun w h => hts w (List.mem_cons_of_mem _ h)
  have hown : s.vm.findClass RX4 = some m.cls := findClass_of_methodNamed B.named
  have hlocks := B.notSynchronized
  subst hsz
  have hD := hD0.self (sz := s.heap.size)
  generalize hAe : va_A ([(a, .inl (gJ G, 4, .inr (.inr (.inr (.inr f)))))]) s.heap.size = A at hD hE hB ⊢
  have hA : ∀ q : Nat, s.heap.size ≤ q → A q := fun q h => by rw [← hAe]; exact Or.inr h
  have hS : va_S A s.heap s.heap [] := va_S.rf
  have hl := lv_entry ([.ref a]) (n := 3) (Nat.le_of_ble_eq_true rfl)
  rw [lg_entry_eq]
  generalize (lg_sl ([.ref a]) ++ List.replicate (3 - (lg_sl ([.ref a])).length) Slot.unset).toArray = ls at hl ⊢
  have hl : lv_has ls 3 [(0, .ref a)] := hl
  have hP : va_P G.1 clz ([(a, .inl (gJ G, 4, .inr (.inr (.inr (.inr f)))))]) _ := hP
  have hD : va_D A ([(a, .inl (gJ G, 4, .inr (.inr (.inr (.inr f)))))]) := hD
  refine lv_aload_n hx hb dX4_heapify_0 rfl (lv_at hl 0 rfl) ?_
  refine lv_ifnonnull (tgt := 14) hx hb dX4_heapify_1 (by decide) ?_
  refine lv_aload_n hx hb dX4_heapify_14 rfl (lv_at hl 0 rfl) ?_
  refine va_alen (v := nI 4) hx hb hE.1 hP 0 2 rfl rfl rfl dX4_heapify_15 ?_
  refine lv_if_ne (tgt := 27) hx hb dX4_heapify_16 (by decide) (fun c1 => ?_) (fun c1 => ?_)
  · refine va_new (ci := 0) (fs := [.null, .null, .int 0, .int 0]) (C := RX4) (T := TX4) (N := 4) hx hb hts in_X4 tyX4 tyX4_ok hown (hts _ q293) (hts _ q34) (hts _ q6) hE.1 hP hD hS hA rfl (fun j hj => by rcases (show j = 0 ∨ j = 1 ∨ j = 2 ∨ j = 3 by omega) with rfl | rfl | rfl | rfl <;> rfl) (Nat.le_of_ble_eq_true rfl) (Nat.le_of_ble_eq_true rfl) dX4_heapify_27 (fun q H hP hD hS => ?_)
    have hP : va_P G.1 clz ([(a, .inl (gJ G, 4, .inr (.inr (.inr (.inr f))))), (q, .inr (0, [.null, .null, .int 0, .int 0]))]) _ := hP
    have hD : va_D A ([(a, .inl (gJ G, 4, .inr (.inr (.inr (.inr f))))), (q, .inr (0, [.null, .null, .int 0, .int 0]))]) := hD
    refine lv_dup hx hb dX4_heapify_30 rfl ?_
    refine lv_aload_n hx hb dX4_heapify_31 rfl (lv_at hl 0 rfl) ?_
    refine va_alen (v := nI 4) hx hb hE.1 hP 0 2 rfl rfl rfl dX4_heapify_32 ?_
    have hc := cut_ (wc := [(q, .inr (0, [.null, .null, .int 0, .int 0]))]) (wr := [(a, .inl (gJ G, 4, .inr (.inr (.inr (.inr f)))))]) hE hP hD hS hA (List.Perm.swap _ _ _)
    refine cv_ (va_runI (As := [.int (nI 4)]) (rest := [.ref q]) ⟨hx, hb, hml, hown, hts⟩ (mX4_init_3 l G q _ 4 (by decide)) (cwI 1 hts (lw_meth q297) rfl rfl rfl (hts _ q6) (hts _ q295) (hts _ q296) rfl (by decide +kernel) ⟨Nat.le_of_ble_eq_true rfl, Nat.le_of_ble_eq_true rfl⟩) (Pw.pre hc no_bx) rfl rfl hl.1 rfl (lv_room (Nat.le_of_ble_eq_true rfl)) dX4_heapify_33 ⟨Nat.le_of_ble_eq_true rfl, Nat.le_of_ble_eq_true rfl⟩) hP hD hS hc (List.Perm.swap _ _ _) (fun ar H locs _ hP hD hS => ?_)
    have hP : va_P G.1 clz ([ho_ q none ar 0, oa_ G ar 16 (fun _ => none), (a, .inl (gJ G, 4, .inr (.inr (.inr (.inr f)))))]) _ := hP
    have hD : va_D A ([ho_ q none ar 0, oa_ G ar 16 (fun _ => none), (a, .inl (gJ G, 4, .inr (.inr (.inr (.inr f)))))]) := hD
    refine lv_astore_n (lv' := [(1, .ref q), (0, .ref a)]) hx hb dX4_heapify_36 rfl hl (by decide) rfl (fun ls hl => ?_)
    refine lv_aload_n hx hb dX4_heapify_37 rfl (lv_at hl 1 rfl) ?_
    refine lv_iconst (v := 0) hx hb dX4_heapify_38 (by decide) ?_
    refine lv_aload_n hx hb dX4_heapify_39 rfl (lv_at hl 0 rfl) ?_
    refine va_get (D := G.1) (ci := 0) (v := .ref ar) (C := RX4) (T := TX4) (N := 4) hx hb hts in_X4 hown hE.1 hP 0 rfl rfl 1 (by decide) (hts _ q151) (fun x9 h9 => u_same (hts _ q152) x9 h9) rfl dX4_heapify_40 ?_
    refine lv_iconst (v := 1) hx hb dX4_heapify_43 (by decide) ?_
    refine lv_aload_n hx hb dX4_heapify_44 rfl (lv_at hl 1 rfl) ?_
    refine va_alen (v := nI 4) hx hb hE.1 hP 2 2 rfl rfl rfl dX4_heapify_45 ?_
    refine va_copyq (C := "java/lang/Integer") hx hb (hml.trans hl.1.symm) hown (hts _ q242) (hts _ q244) (hts _ q243) (hts _ q17) hE.1 hP hD hS 2 1 2 0 rfl rfl rfl rfl (by decide) (by decide) (by decide) (by decide) (by decide) (fun i hi y hy => ?_) (fun c1 c2 => vb_asgC hE.2.1.2.1.2 c1 c2) (Nat.le_of_ble_eq_true rfl) (Nat.le_of_ble_eq_true rfl) dX4_heapify_46 (fun H locs hP hD hS => ?_)
    · have e0 : (0 : Int32).toNatClampNeg = 0 := by decide
      have e4 : (nI 4).toNatClampNeg = 4 := by decide
      rw [e4] at hi
      rw [e0] at hy
      obtain ⟨y9, hy9, ey⟩ := hm (0 + i) (by omega)
      rw [ey] at hy
      have e9 := Option.some.inj hy
      subst e9
      exact ((hB y9 hy9).now hS).recv
    · have e9 : va_cpy f (fun _ => none) (0 : Int32).toNatClampNeg (1 : Int32).toNatClampNeg (nI 4).toNatClampNeg = va_cpy f (fun _ => none) 0 1 4 := by rw [show (0 : Int32).toNatClampNeg = 0 from by decide, cl_1, show (nI 4).toNatClampNeg = 4 from by decide]
      rw [e9] at hP hD
      have hP : va_P G.1 clz ([ho_ q none ar 0, oa_ G ar 16 (va_cpy f (fun _ => none) 0 1 4), (a, .inl (gJ G, 4, .inr (.inr (.inr (.inr f)))))]) _ := hP
      have hD : va_D A ([ho_ q none ar 0, oa_ G ar 16 (va_cpy f (fun _ => none) 0 1 4), (a, .inl (gJ G, 4, .inr (.inr (.inr (.inr f)))))]) := hD
      refine lv_aload_n hx hb dX4_heapify_49 rfl (lv_at hl 0 rfl) ?_
      refine lv_aload_n hx hb dX4_heapify_50 rfl (lv_at hl 1 rfl) ?_
      refine va_alen (v := nI 4) hx hb hE.1 hP 2 2 rfl rfl rfl dX4_heapify_51 ?_
      refine va_put (D := G.1) (ci := 0) (v := .int (nI 4)) (ty := .int) (C := RX4) (T := TX4) (N := 4) hx hb hts in_X4 tyX4 tyX4_ok nmX4 hown hE.1 hP hD hS 0 rfl rfl 2 (by decide) (hts _ q156) (fun x9 h9 => u_same (hts _ q157) x9 h9) rfl (by decide +kernel) (rfl) (rfl) (Nat.le_of_ble_eq_true rfl) dX4_heapify_52 (fun H locs hP hD hS => ?_)
      have hP : va_P G.1 clz ([ho_ q none ar 4, oa_ G ar 16 (va_cpy f (fun _ => none) 0 1 4), (a, .inl (gJ G, 4, .inr (.inr (.inr (.inr f)))))]) _ := hP
      have hD : va_D A ([ho_ q none ar 4, oa_ G ar 16 (va_cpy f (fun _ => none) 0 1 4), (a, .inl (gJ G, 4, .inr (.inr (.inr (.inr f)))))]) := hD
      refine lv_aload_n hx hb dX4_heapify_55 rfl (lv_at hl 1 rfl) ?_
      refine va_alen (v := nI 4) hx hb hE.1 hP 2 2 rfl rfl rfl dX4_heapify_56 ?_
      refine lv_iconst (v := 2) hx hb dX4_heapify_57 (by decide) ?_
      refine lv_idiv hx hb dX4_heapify_58 (by decide) ?_
      refine lt_i (y := nI 2) (by decide) ?_
      refine lv_istore_n (lv' := [(2, .int (nI 2)), (1, .ref q), (0, .ref a)]) hx hb dX4_heapify_59 rfl hl (by decide) rfl (fun ls hl => ?_)
      refine lv_iload_n hx hb dX4_heapify_60 rfl (lv_at hl 0 rfl) ?_
      have hm0 : ∀ i, 1 ≤ i → i ≤ 4 → ∃ y, y ∈ L ∧ va_cpy f (fun _ => none) 0 1 4 i = some y := by
        intro i h1 h2
        rw [pk_cpy_in h1 (by omega)]
        exact hm _ (by omega)
      have es0 : hq_seg (va_cpy f (fun _ => none) 0 1 4) 4 = [f 0, f 1, f 2, f 3] := rfl
      refine lv_if_le (tgt := 75) hx hb dX4_heapify_61 (by decide) (fun c9 => absurd c9 (by decide)) (fun _ => ?_)
      refine lv_aload_n hx hb dX4_heapify_64 rfl (lv_at hl 1 rfl) ?_
      refine lv_iload_n hx hb dX4_heapify_65 rfl (lv_at hl 0 rfl) ?_
      have hc := cut_ (wc := hw_ G q none ar 4 16 (va_cpy f (fun _ => none) 0 1 4)) (wr := [(a, .inl (gJ G, 4, .inr (.inr (.inr (.inr f)))))]) hE hP hD hS hA (List.Perm.refl _)
      refine cv_ (va_runV (As := [.int (nI 2)]) (rest := []) ⟨hx, hb, hml, hown, hts⟩ (mX4_fixdown l G val L q ar 4 16 2 _ none (va_cpy f (fun _ => none) 0 1 4) (by decide) (by decide) (by decide) (by decide) hm0 (hq_hp_none (by decide))) (cwV 1 hts (lw_V q298 q299 q300 q6 q301) rfl rfl rfl (by decide +kernel) ⟨Nat.le_of_ble_eq_true rfl, Nat.le_of_ble_eq_true rfl⟩) (Pw.preV hc (bxs_cut hB hS hc) (va_recv hE.1 hP (ci := 0) (q0 := 0) rfl rfl)) rfl rfl hl.1 rfl (lv_room (Nat.le_of_ble_eq_true rfl)) dX4_heapify_66 ⟨Nat.le_of_ble_eq_true rfl, Nat.le_of_ble_eq_true rfl⟩) hP hD hS hc (List.Perm.refl _) (fun g1 H locs h1q hP hD hS => ?_)
      have hP : va_P G.1 clz ([ho_ q none ar 4, oa_ G ar 16 g1, (a, .inl (gJ G, 4, .inr (.inr (.inr (.inr f)))))]) _ := hP
      have hD : va_D A ([ho_ q none ar 4, oa_ G ar 16 g1, (a, .inl (gJ G, 4, .inr (.inr (.inr (.inr f)))))]) := hD
      refine lv_iinc (v := nI 1) (lv' := [(2, .int (nI 1)), (1, .ref q), (0, .ref a)]) hx hb dX4_heapify_69 hl (k := 0) rfl (by decide) (by decide) rfl (fun ls hl => ?_)
      refine lv_goto (tgt := 60) hx hb dX4_heapify_72 (by decide) ?_
      refine lv_iload_n hx hb dX4_heapify_60 rfl (lv_at hl 0 rfl) ?_
      have hm1 : ∀ i, 1 ≤ i → i ≤ 4 → ∃ y, y ∈ L ∧ g1 i = some y := by
        intro i h1 h3
        obtain ⟨j, j1, j2, ej⟩ := hq_mem.mp (h1q.2.mem_iff.mp (hq_mem.mpr ⟨i, h1, h3, rfl⟩))
        rw [← ej]
        exact hm0 j j1 j2
      refine lv_if_le (tgt := 75) hx hb dX4_heapify_61 (by decide) (fun c9 => absurd c9 (by decide)) (fun _ => ?_)
      refine lv_aload_n hx hb dX4_heapify_64 rfl (lv_at hl 1 rfl) ?_
      refine lv_iload_n hx hb dX4_heapify_65 rfl (lv_at hl 0 rfl) ?_
      have hc := cut_ (wc := hw_ G q none ar 4 16 g1) (wr := [(a, .inl (gJ G, 4, .inr (.inr (.inr (.inr f)))))]) hE hP hD hS hA (List.Perm.refl _)
      refine cv_ (va_runV (As := [.int (nI 1)]) (rest := []) ⟨hx, hb, hml, hown, hts⟩ (mX4_fixdown l G val L q ar 4 16 1 _ none g1 (by decide) (by decide) (by decide) (by decide) hm1 (h1q.1)) (cwV 1 hts (lw_V q298 q299 q300 q6 q301) rfl rfl rfl (by decide +kernel) ⟨Nat.le_of_ble_eq_true rfl, Nat.le_of_ble_eq_true rfl⟩) (Pw.preV hc (bxs_cut hB hS hc) (va_recv hE.1 hP (ci := 0) (q0 := 0) rfl rfl)) rfl rfl hl.1 rfl (lv_room (Nat.le_of_ble_eq_true rfl)) dX4_heapify_66 ⟨Nat.le_of_ble_eq_true rfl, Nat.le_of_ble_eq_true rfl⟩) hP hD hS hc (List.Perm.refl _) (fun g2 H locs h2q hP hD hS => ?_)
      have hP : va_P G.1 clz ([ho_ q none ar 4, oa_ G ar 16 g2, (a, .inl (gJ G, 4, .inr (.inr (.inr (.inr f)))))]) _ := hP
      have hD : va_D A ([ho_ q none ar 4, oa_ G ar 16 g2, (a, .inl (gJ G, 4, .inr (.inr (.inr (.inr f)))))]) := hD
      refine lv_iinc (v := nI 0) (lv' := [(2, .int (nI 0)), (1, .ref q), (0, .ref a)]) hx hb dX4_heapify_69 hl (k := 0) rfl (by decide) (by decide) rfl (fun ls hl => ?_)
      refine lv_goto (tgt := 60) hx hb dX4_heapify_72 (by decide) ?_
      refine lv_iload_n hx hb dX4_heapify_60 rfl (lv_at hl 0 rfl) ?_
      refine lv_if_le (tgt := 75) hx hb dX4_heapify_61 (by decide) (fun _ => ?_) (fun c9 => absurd (show nI 0 ≤ 0 by decide) c9)
      refine lv_aload_n hx hb dX4_heapify_75 rfl (lv_at hl 1 rfl) ?_
      have hP := wP_left (wc := hw_ G q none ar 4 16 g2) hP
      have hD := wD_left (wc := hw_ G q none ar 4 16 g2) hD
      exact W.aret hx hb hr (Or.inl ⟨_, rfl⟩) (Or.inr ⟨q, rfl⟩) (fun t ht hW => ⟨⟨(ar, g2), q, rfl, ⟨h2q.1, (h2q.2.trans h1q.2).trans (by rw [es0])⟩, by rw [ht]; exact hP, hD⟩, hS.F ht⟩) hS.2.2 dX4_heapify_76
  · exact absurd c1 (by decide)
set_option maxHeartbeats 4000000 in
set_option maxRecDepth 100000 in
/-- heapify_2 of four -/
theorem mX4_heapify_2 (l : Launch) (G : gT) (val : Nat → Int32) (L : List Nat) (a sz : Nat) (f : Nat → Option Nat) (hm : ∀ i, i < 4 → ∃ z, z ∈ L ∧ f i = some z) : Met l yX4_heapify_2 (ws_ yX4_heapify_2 cX4_heapify_2 4 (some (.object "BinaryArrayHeap"))) (rm_ 4 2 21 89) (Pw G val L [.ref a, .ref (gW G)] sz [(a, .inl (gJ G, 4, .inr (.inr (.inr (.inr f)))))]) (va_Qr (fun u : Nat × (Nat → Option Nat) => hq_hp (wq_ true val) 1 u.2 4 ∧ (hq_seg u.2 4).Perm [f 0, f 1, f 2, f 3]) (fun u q t => Bw G (va_A [(a, .inl (gJ G, 4, .inr (.inr (.inr (.inr f)))))] sz) (fun u : Nat × (Nat → Option Nat) => hw_ G q (some (gW G)) u.1 4 16 u.2) u t) (va_A [(a, .inl (gJ G, 4, .inr (.inr (.inr (.inr f)))))] sz)) 2 21 (va_A [(a, .inl (gJ G, 4, .inr (.inr (.inr (.inr f)))))] sz) := by
  refine Met.ofW (cc := cX4_heapify_2) (maxL := 4) (ret := some (.object "BinaryArrayHeap")) (by decide) rfl ?_
  intro p e s m args below meth c s₁ B hml hv
  obtain ⟨rfl, hsz, hP, hD0, hE, hB⟩ := hv
  have hx := B.exec
  have hb := B.bytes
  have hr := B.returns
  have hts := atoms_spec (ws := ws_ yX4_heapify_2 cX4_heapify_2 4 (some (.object "BinaryArrayHeap"))) B.pre
  have hts : ∀ w ∈ lw_all, w.before _ s = true := fun w h => hts w (List.mem_cons_of_mem _ h)
  have hown : s.vm.findClass RX4 = some m.cls := findClass_of_methodNamed B.named
  have hlocks := B.notSynchronized
  subst hsz
  have hD := hD0.self (sz := s.heap.size)
  generalize hAe : va_A ([(a, .inl (gJ G, 4, .inr (.inr (.inr (.inr f)))))]) s.heap.size = A at hD hE hB ⊢
  have hA : ∀ q : Nat, s.heap.size ≤ q → A q := fun q h => by rw [← hAe]; exact Or.inr h
  have hS : va_S A s.heap s.heap [] := va_S.rf
  have hl := lv_entry ([.ref a, .ref (gW G)]) (n := 4) (Nat.le_of_ble_eq_true rfl)
  rw [lg_entry_eq]
  generalize (lg_sl ([.ref a, .ref (gW G)]) ++ List.replicate (4 - (lg_sl ([.ref a, .ref (gW G)])).length) Slot.unset).toArray = ls at hl ⊢
  have hl : lv_has ls 4 [(0, .ref a), (1, .ref (gW G))] := hl
  have hP : va_P G.1 clz ([(a, .inl (gJ G, 4, .inr (.inr (.inr (.inr f)))))]) _ := hP
  have hD : va_D A ([(a, .inl (gJ G, 4, .inr (.inr (.inr (.inr f)))))]) := hD
  refine lv_aload_n hx hb dX4_heapify_2_0 rfl (lv_at hl 0 rfl) ?_
  refine lv_ifnonnull (tgt := 14) hx hb dX4_heapify_2_1 (by decide) ?_
  refine lv_aload_n hx hb dX4_heapify_2_14 rfl (lv_at hl 0 rfl) ?_
  refine va_alen (v := nI 4) hx hb hE.1 hP 0 2 rfl rfl rfl dX4_heapify_2_15 ?_
  refine lv_if_ne (tgt := 28) hx hb dX4_heapify_2_16 (by decide) (fun c1 => ?_) (fun c1 => ?_)
  · refine va_new (ci := 0) (fs := [.null, .null, .int 0, .int 0]) (C := RX4) (T := TX4) (N := 4) hx hb hts in_X4 tyX4 tyX4_ok hown (hts _ q293) (hts _ q34) (hts _ q6) hE.1 hP hD hS hA rfl (fun j hj => by rcases (show j = 0 ∨ j = 1 ∨ j = 2 ∨ j = 3 by omega) with rfl | rfl | rfl | rfl <;> rfl) (Nat.le_of_ble_eq_true rfl) (Nat.le_of_ble_eq_true rfl) dX4_heapify_2_28 (fun q H hP hD hS => ?_)
    have hP : va_P G.1 clz ([(a, .inl (gJ G, 4, .inr (.inr (.inr (.inr f))))), (q, .inr (0, [.null, .null, .int 0, .int 0]))]) _ := hP
    have hD : va_D A ([(a, .inl (gJ G, 4, .inr (.inr (.inr (.inr f))))), (q, .inr (0, [.null, .null, .int 0, .int 0]))]) := hD
    refine lv_dup hx hb dX4_heapify_2_31 rfl ?_
    refine lv_aload_n hx hb dX4_heapify_2_32 rfl (lv_at hl 1 rfl) ?_
    refine lv_aload_n hx hb dX4_heapify_2_33 rfl (lv_at hl 0 rfl) ?_
    refine va_alen (v := nI 4) hx hb hE.1 hP 0 2 rfl rfl rfl dX4_heapify_2_34 ?_
    have hc := cut_ (wc := [(q, .inr (0, [.null, .null, .int 0, .int 0]))]) (wr := [(a, .inl (gJ G, 4, .inr (.inr (.inr (.inr f)))))]) hE hP hD hS hA (List.Perm.swap _ _ _)
    refine cv_ (va_runI (As := [va_rf (some (gW G)), .int (nI 4)]) (rest := [.ref q]) ⟨hx, hb, hml, hown, hts⟩ (mX4_init_4 l G q _ 4 (some (gW G)) (by decide)) (cwI 2 hts (lw_meth q308) rfl rfl rfl (hts _ q6) (hts _ q306) (hts _ q307) rfl (by decide +kernel) ⟨Nat.le_of_ble_eq_true rfl, Nat.le_of_ble_eq_true rfl⟩) (Pw.pre hc no_bx) rfl rfl hl.1 rfl (lv_room (Nat.le_of_ble_eq_true rfl)) dX4_heapify_2_35 ⟨Nat.le_of_ble_eq_true rfl, Nat.le_of_ble_eq_true rfl⟩) hP hD hS hc (List.Perm.swap _ _ _) (fun ar H locs _ hP hD hS => ?_)
    have hP : va_P G.1 clz ([ho_ q (some (gW G)) ar 0, oa_ G ar 16 (fun _ => none), (a, .inl (gJ G, 4, .inr (.inr (.inr (.inr f)))))]) _ := hP
    have hD : va_D A ([ho_ q (some (gW G)) ar 0, oa_ G ar 16 (fun _ => none), (a, .inl (gJ G, 4, .inr (.inr (.inr (.inr f)))))]) := hD
    refine lv_astore_n (lv' := [(2, .ref q), (0, .ref a), (1, .ref (gW G))]) hx hb dX4_heapify_2_38 rfl hl (by decide) rfl (fun ls hl => ?_)
    refine lv_aload_n hx hb dX4_heapify_2_39 rfl (lv_at hl 1 rfl) ?_
    refine lv_iconst (v := 0) hx hb dX4_heapify_2_40 (by decide) ?_
    refine lv_aload_n hx hb dX4_heapify_2_41 rfl (lv_at hl 0 rfl) ?_
    refine va_get (D := G.1) (ci := 0) (v := .ref ar) (C := RX4) (T := TX4) (N := 4) hx hb hts in_X4 hown hE.1 hP 0 rfl rfl 1 (by decide) (hts _ q151) (fun x9 h9 => u_same (hts _ q152) x9 h9) rfl dX4_heapify_2_42 ?_
    refine lv_iconst (v := 1) hx hb dX4_heapify_2_45 (by decide) ?_
    refine lv_aload_n hx hb dX4_heapify_2_46 rfl (lv_at hl 1 rfl) ?_
    refine va_alen (v := nI 4) hx hb hE.1 hP 2 2 rfl rfl rfl dX4_heapify_2_47 ?_
    refine va_copyq (C := "java/lang/Integer") hx hb (hml.trans hl.1.symm) hown (hts _ q242) (hts _ q244) (hts _ q243) (hts _ q17) hE.1 hP hD hS 2 1 2 0 rfl rfl rfl rfl (by decide) (by decide) (by decide) (by decide) (by decide) (fun i hi y hy => ?_) (fun c1 c2 => vb_asgC hE.2.1.2.1.2 c1 c2) (Nat.le_of_ble_eq_true rfl) (Nat.le_of_ble_eq_true rfl) dX4_heapify_2_48 (fun H locs hP hD hS => ?_)
    · have e0 : (0 : Int32).toNatClampNeg = 0 := by decide
      have e4 : (nI 4).toNatClampNeg = 4 := by decide
      rw [e4] at hi
      rw [e0] at hy
      obtain ⟨y9, hy9, ey⟩ := hm (0 + i) (by omega)
      rw [ey] at hy
      have e9 := Option.some.inj hy
      subst e9
      exact ((hB y9 hy9).now hS).recv
    · have e9 : va_cpy f (fun _ => none) (0 : Int32).toNatClampNeg (1 : Int32).toNatClampNeg (nI 4).toNatClampNeg = va_cpy f (fun _ => none) 0 1 4 := by rw [show (0 : Int32).toNatClampNeg = 0 from by decide, cl_1, show (nI 4).toNatClampNeg = 4 from by decide]
      rw [e9] at hP hD
      have hP : va_P G.1 clz ([ho_ q (some (gW G)) ar 0, oa_ G ar 16 (va_cpy f (fun _ => none) 0 1 4), (a, .inl (gJ G, 4, .inr (.inr (.inr (.inr f)))))]) _ := hP
      have hD : va_D A ([ho_ q (some (gW G)) ar 0, oa_ G ar 16 (va_cpy f (fun _ => none) 0 1 4), (a, .inl (gJ G, 4, .inr (.inr (.inr (.inr f)))))]) := hD
      refine lv_aload_n hx hb dX4_heapify_2_51 rfl (lv_at hl 0 rfl) ?_
      refine lv_aload_n hx hb dX4_heapify_2_52 rfl (lv_at hl 1 rfl) ?_
      refine va_alen (v := nI 4) hx hb hE.1 hP 2 2 rfl rfl rfl dX4_heapify_2_53 ?_
      refine va_put (D := G.1) (ci := 0) (v := .int (nI 4)) (ty := .int) (C := RX4) (T := TX4) (N := 4) hx hb hts in_X4 tyX4 tyX4_ok nmX4 hown hE.1 hP hD hS 0 rfl rfl 2 (by decide) (hts _ q156) (fun x9 h9 => u_same (hts _ q157) x9 h9) rfl (by decide +kernel) (rfl) (rfl) (Nat.le_of_ble_eq_true rfl) dX4_heapify_2_54 (fun H locs hP hD hS => ?_)
      have hP : va_P G.1 clz ([ho_ q (some (gW G)) ar 4, oa_ G ar 16 (va_cpy f (fun _ => none) 0 1 4), (a, .inl (gJ G, 4, .inr (.inr (.inr (.inr f)))))]) _ := hP
      have hD : va_D A ([ho_ q (some (gW G)) ar 4, oa_ G ar 16 (va_cpy f (fun _ => none) 0 1 4), (a, .inl (gJ G, 4, .inr (.inr (.inr (.inr f)))))]) := hD
      refine lv_aload_n hx hb dX4_heapify_2_57 rfl (lv_at hl 1 rfl) ?_
      refine va_alen (v := nI 4) hx hb hE.1 hP 2 2 rfl rfl rfl dX4_heapify_2_58 ?_
      refine lv_iconst (v := 2) hx hb dX4_heapify_2_59 (by decide) ?_
      refine lv_idiv hx hb dX4_heapify_2_60 (by decide) ?_
      refine lt_i (y := nI 2) (by decide) ?_
      refine lv_istore_n (lv' := [(3, .int (nI 2)), (2, .ref q), (0, .ref a), (1, .ref (gW G))]) hx hb dX4_heapify_2_61 rfl hl (by decide) rfl (fun ls hl => ?_)
      refine lv_iload_n hx hb dX4_heapify_2_62 rfl (lv_at hl 0 rfl) ?_
      have hm0 : ∀ i, 1 ≤ i → i ≤ 4 → ∃ y, y ∈ L ∧ va_cpy f (fun _ => none) 0 1 4 i = some y := by
        intro i h1 h2
        rw [pk_cpy_in h1 (by omega)]
        exact hm _ (by omega)
      have es0 : hq_seg (va_cpy f (fun _ => none) 0 1 4) 4 = [f 0, f 1, f 2, f 3] := rfl
      refine lv_if_le (tgt := 77) hx hb dX4_heapify_2_63 (by decide) (fun c9 => absurd c9 (by decide)) (fun _ => ?_)
      refine lv_aload_n hx hb dX4_heapify_2_66 rfl (lv_at hl 1 rfl) ?_
      refine lv_iload_n hx hb dX4_heapify_2_67 rfl (lv_at hl 0 rfl) ?_
      have hc := cut_ (wc := hw_ G q (some (gW G)) ar 4 16 (va_cpy f (fun _ => none) 0 1 4)) (wr := [(a, .inl (gJ G, 4, .inr (.inr (.inr (.inr f)))))]) hE hP hD hS hA (List.Perm.refl _)
      refine cv_ (va_runV (As := [.int (nI 2)]) (rest := []) ⟨hx, hb, hml, hown, hts⟩ (mX4_fixdownWithComparator l G val L q ar 4 16 2 _ (va_cpy f (fun _ => none) 0 1 4) (by decide) (by decide) (by decide) (by decide) hm0 (hq_hp_none (by decide))) (cwV 1 hts (lw_V q309 q310 q311 q6 q312) rfl rfl rfl (by decide +kernel) ⟨Nat.le_of_ble_eq_true rfl, Nat.le_of_ble_eq_true rfl⟩) (Pw.preV hc (bxs_cut hB hS hc) (va_recv hE.1 hP (ci := 0) (q0 := 0) rfl rfl)) rfl rfl hl.1 rfl (lv_room (Nat.le_of_ble_eq_true rfl)) dX4_heapify_2_68 ⟨Nat.le_of_ble_eq_true rfl, Nat.le_of_ble_eq_true rfl⟩) hP hD hS hc (List.Perm.refl _) (fun g1 H locs h1q hP hD hS => ?_)
      have hP : va_P G.1 clz ([ho_ q (some (gW G)) ar 4, oa_ G ar 16 g1, (a, .inl (gJ G, 4, .inr (.inr (.inr (.inr f)))))]) _ := hP
      have hD : va_D A ([ho_ q (some (gW G)) ar 4, oa_ G ar 16 g1, (a, .inl (gJ G, 4, .inr (.inr (.inr (.inr f)))))]) := hD
      refine lv_iinc (v := nI 1) (lv' := [(3, .int (nI 1)), (2, .ref q), (0, .ref a), (1, .ref (gW G))]) hx hb dX4_heapify_2_71 hl (k := 0) rfl (by decide) (by decide) rfl (fun ls hl => ?_)
      refine lv_goto (tgt := 62) hx hb dX4_heapify_2_74 (by decide) ?_
      refine lv_iload_n hx hb dX4_heapify_2_62 rfl (lv_at hl 0 rfl) ?_
      have hm1 : ∀ i, 1 ≤ i → i ≤ 4 → ∃ y, y ∈ L ∧ g1 i = some y := by
        intro i h1 h3
        obtain ⟨j, j1, j2, ej⟩ := hq_mem.mp (h1q.2.mem_iff.mp (hq_mem.mpr ⟨i, h1, h3, rfl⟩))
        rw [← ej]
        exact hm0 j j1 j2
      refine lv_if_le (tgt := 77) hx hb dX4_heapify_2_63 (by decide) (fun c9 => absurd c9 (by decide)) (fun _ => ?_)
      refine lv_aload_n hx hb dX4_heapify_2_66 rfl (lv_at hl 1 rfl) ?_
      refine lv_iload_n hx hb dX4_heapify_2_67 rfl (lv_at hl 0 rfl) ?_
      have hc := cut_ (wc := hw_ G q (some (gW G)) ar 4 16 g1) (wr := [(a, .inl (gJ G, 4, .inr (.inr (.inr (.inr f)))))]) hE hP hD hS hA (List.Perm.refl _)
      refine cv_ (va_runV (As := [.int (nI 1)]) (rest := []) ⟨hx, hb, hml, hown, hts⟩ (mX4_fixdownWithComparator l G val L q ar 4 16 1 _ g1 (by decide) (by decide) (by decide) (by decide) hm1 (h1q.1)) (cwV 1 hts (lw_V q309 q310 q311 q6 q312) rfl rfl rfl (by decide +kernel) ⟨Nat.le_of_ble_eq_true rfl, Nat.le_of_ble_eq_true rfl⟩) (Pw.preV hc (bxs_cut hB hS hc) (va_recv hE.1 hP (ci := 0) (q0 := 0) rfl rfl)) rfl rfl hl.1 rfl (lv_room (Nat.le_of_ble_eq_true rfl)) dX4_heapify_2_68 ⟨Nat.le_of_ble_eq_true rfl, Nat.le_of_ble_eq_true rfl⟩) hP hD hS hc (List.Perm.refl _) (fun g2 H locs h2q hP hD hS => ?_)
      have hP : va_P G.1 clz ([ho_ q (some (gW G)) ar 4, oa_ G ar 16 g2, (a, .inl (gJ G, 4, .inr (.inr (.inr (.inr f)))))]) _ := hP
      have hD : va_D A ([ho_ q (some (gW G)) ar 4, oa_ G ar 16 g2, (a, .inl (gJ G, 4, .inr (.inr (.inr (.inr f)))))]) := hD
      refine lv_iinc (v := nI 0) (lv' := [(3, .int (nI 0)), (2, .ref q), (0, .ref a), (1, .ref (gW G))]) hx hb dX4_heapify_2_71 hl (k := 0) rfl (by decide) (by decide) rfl (fun ls hl => ?_)
      refine lv_goto (tgt := 62) hx hb dX4_heapify_2_74 (by decide) ?_
      refine lv_iload_n hx hb dX4_heapify_2_62 rfl (lv_at hl 0 rfl) ?_
      refine lv_if_le (tgt := 77) hx hb dX4_heapify_2_63 (by decide) (fun _ => ?_) (fun c9 => absurd (show nI 0 ≤ 0 by decide) c9)
      refine lv_aload_n hx hb dX4_heapify_2_77 rfl (lv_at hl 1 rfl) ?_
      have hP := wP_left (wc := hw_ G q (some (gW G)) ar 4 16 g2) hP
      have hD := wD_left (wc := hw_ G q (some (gW G)) ar 4 16 g2) hD
      exact W.aret hx hb hr (Or.inl ⟨_, rfl⟩) (Or.inr ⟨q, rfl⟩) (fun t ht hW => ⟨⟨(ar, g2), q, rfl, ⟨h2q.1, (h2q.2.trans h1q.2).trans (by rw [es0])⟩, by rw [ht]; exact hP, hD⟩, hS.F ht⟩) hS.2.2 dX4_heapify_2_78
  · exact absurd c1 (by decide)
end
section
/-! A DESK: its cells, what they mean; pure -/
set_option maxRecDepth 100000
def dr_ (i : Nat) : Bool := decide (2 ≤ i)
/-- a heap's record: object, array, number of keys, room, references -/
abbrev hR : Type := Nat × Nat × Nat × Nat × (Nat → Option Nat)
abbrev hwR (G : gT) (i : Nat) (q : hR) : va_W := hw_ G q.1 (cm_ G (dr_ i)) q.2.1 q.2.2.1 q.2.2.2.1 q.2.2.2.2
abbrev dsk_ (d fa p : Nat) : Nat × va_E := (d, .inr (1, [.ref fa, .int (nI p)]))
abbrev fil_ (G : gT) (fa : Nat) (fo : Nat → Option Nat) : Nat × va_E := (fa, .inl (gF G, 4, .inr (.inr (.inr (.inr fo)))))
def oth (G : gT) (R : Nat → hR) (i : Nat) : va_W := match i with
  | 0 => hwR G 1 (R 1) ++ (hwR G 2 (R 2) ++ hwR G 3 (R 3))
  | 1 => hwR G 0 (R 0) ++ (hwR G 2 (R 2) ++ hwR G 3 (R 3))
  | 2 => hwR G 0 (R 0) ++ (hwR G 1 (R 1) ++ hwR G 3 (R 3))
  | _ => hwR G 0 (R 0) ++ (hwR G 1 (R 1) ++ hwR G 2 (R 2))
def wdk (G : gT) (d p fa : Nat) (fo : Nat → Option Nat) (R : Nat → hR) (nw : va_W) : va_W := dsk_ d fa p :: fil_ G fa fo :: ((hwR G 0 (R 0) ++ (hwR G 1 (R 1) ++ (hwR G 2 (R 2) ++ hwR G 3 (R 3)))) ++ nw)
/-- the keys at references, by val -/
def kv_ (val : Nat → Int32) (q : Option Nat) : Int32 := val (q.getD 0)
/-- heap i's record q holds the keys Ci (in order), boxes from nw or the cache -/
def HO (G : gT) (nw : va_W) (i : Nat) (q : hR) (Ci : List Int32) : Prop := (q.2.2.1 ≤ q.2.2.2.1 ∧ 16 ≤ q.2.2.2.1 ∧ q.2.2.2.1 ≤ 128) ∧ so_ (dr_ i) Ci ∧ ∃ val : Nat → Int32, hq_hp (wq_ (dr_ i) val) 1 q.2.2.2.2 q.2.2.1 ∧ (∀ j, 1 ≤ j → j ≤ q.2.2.1 → ∃ y, q.2.2.2.2 j = some y ∧ isbox G nw y (val y)) ∧ ((hq_seg q.2.2.2.2 q.2.2.1).map (kv_ val)).Perm Ci
def tl_ (C : Nat → List Int32) : Nat := (C 0).length + (C 1).length + (C 2).length + (C 3).length
def DkR (G : gT) (p : Nat) (C : Nat → List Int32) (fo : Nat → Option Nat) (R : Nat → hR) (nw : va_W) : Prop := (∀ i, i < 4 → fo i = some (R i).1 ∧ HO G nw i (R i) (C i)) ∧ tl_ C ≤ p ∧ p ≤ 64
/-- the cells w are a desk at d: p keys put, its heaps hold C 0 .. C 3 -/
def Dk (G : gT) (d p : Nat) (C : Nat → List Int32) (w : va_W) : Prop := ∃ (fa : Nat) (fo : Nat → Option Nat) (R : Nat → hR) (nw : va_W), w = wdk G d p fa fo R nw ∧ DkR G p C fo R nw
theorem lt4 {P : Nat → Prop} {i : Nat} (hi : i < 4) (h0 : P 0) (h1 : P 1) (h2 : P 2) (h3 : P 3) : P i := by
  rcases (show i = 0 ∨ i = 1 ∨ i = 2 ∨ i = 3 by omega) with rfl | rfl | rfl | rfl
  · exact h0
  · exact h1
  · exact h2
  · exact h3
theorem pm_3 {a b c : va_W} : (a ++ (b ++ c)).Perm (b ++ (a ++ c)) := by
  rw [← List.append_assoc, ← List.append_assoc]
  exact List.perm_append_comm.append_right _
theorem pm_2 {a b c d : va_W} : (a ++ (b ++ (c ++ d))).Perm (c ++ (a ++ (b ++ d))) := (List.Perm.append_left a pm_3).trans pm_3
theorem pm_4 {a b c d : va_W} : (a ++ (b ++ (c ++ d))).Perm (d ++ (a ++ (b ++ c))) := by
  have h : (a ++ (b ++ (c ++ d))) = ((a ++ (b ++ c)) ++ d) := by simp only [List.append_assoc]
  rw [h]
  exact List.perm_append_comm
theorem h4_perm (G : gT) (R : Nat → hR) {i : Nat} (hi : i < 4) : (hwR G 0 (R 0) ++ (hwR G 1 (R 1) ++ (hwR G 2 (R 2) ++ hwR G 3 (R 3)))).Perm (hwR G i (R i) ++ oth G R i) := by
  refine lt4 (P := fun i => (hwR G 0 (R 0) ++ (hwR G 1 (R 1) ++ (hwR G 2 (R 2) ++ hwR G 3 (R 3)))).Perm (hwR G i (R i) ++ oth G R i)) hi ?_ ?_ ?_ ?_
  · exact List.Perm.refl _
  · exact pm_3
  · exact pm_2
  · exact pm_4
theorem wdk_perm (G : gT) (d p fa : Nat) (fo : Nat → Option Nat) (R : Nat → hR) (nw : va_W) {i : Nat} (hi : i < 4) : (wdk G d p fa fo R nw).Perm (hwR G i (R i) ++ (dsk_ d fa p :: fil_ G fa fo :: (oth G R i ++ nw))) := by
  have h1 : (wdk G d p fa fo R nw).Perm ([dsk_ d fa p, fil_ G fa fo] ++ (hwR G i (R i) ++ (oth G R i ++ nw))) := by
    refine List.Perm.append_left [dsk_ d fa p, fil_ G fa fo] ?_
    rw [← List.append_assoc (hwR G i (R i))]
    exact (h4_perm G R hi).append_right nw
  refine h1.trans ?_
  have h2 : (hwR G i (R i) ++ (dsk_ d fa p :: fil_ G fa fo :: (oth G R i ++ nw))) = hwR G i (R i) ++ ([dsk_ d fa p, fil_ G fa fo] ++ (oth G R i ++ nw)) := rfl
  rw [h2, ← List.append_assoc, ← List.append_assoc (hwR G i (R i)) [dsk_ d fa p, fil_ G fa fo]]
  exact List.perm_append_comm.append_right _
theorem oth_up (G : gT) (R : Nat → hR) {i : Nat} (hi : i < 4) (x : hR) : oth G (va_up R i x) i = oth G R i := by
  refine lt4 (P := fun i => oth G (va_up R i x) i = oth G R i) hi ?_ ?_ ?_ ?_ <;> rfl
theorem wdk_back (G : gT) (d p fa : Nat) (fo : Nat → Option Nat) (R : Nat → hR) (nw : va_W) {i : Nat} (hi : i < 4) (x : hR) : (hwR G i x ++ (dsk_ d fa p :: fil_ G fa fo :: (oth G R i ++ nw))).Perm (wdk G d p fa fo (va_up R i x) nw) := by
  have h := wdk_perm G d p fa fo (va_up R i x) nw hi
  rw [va_up_self, oth_up G R hi x] at h
  exact h.symm
theorem HO.mono {G : gT} {nw nw' : va_W} {i : Nat} {q : hR} {Ci : List Int32} (h : HO G nw i q Ci) (hs : ∀ x ∈ nw, x ∈ nw') : HO G nw' i q Ci := by
  obtain ⟨h1, h2, val, h3, h4, h5⟩ := h
  exact ⟨h1, h2, val, h3, fun j a b => by obtain ⟨y, e, hb⟩ := h4 j a b; exact ⟨y, e, hb.mono hs⟩, h5⟩
theorem HO.len {G : gT} {nw : va_W} {i : Nat} {q : hR} {Ci : List Int32} (h : HO G nw i q Ci) : q.2.2.1 = Ci.length := by
  obtain ⟨-, -, val, -, -, h5⟩ := h
  have := h5.length_eq
  rw [List.length_map, hq_seg_len] at this
  exact this
theorem tl_up (C : Nat → List Int32) {i : Nat} (hi : i < 4) (X : List Int32) : tl_ (va_up C i X) + (C i).length = tl_ C + X.length := by
  refine lt4 (P := fun i => tl_ (va_up C i X) + (C i).length = tl_ C + X.length) hi ?_ ?_ ?_ ?_ <;> (simp only [tl_, va_up]; simp only [show (0 : Nat) ≠ 1 by decide, show (0 : Nat) ≠ 2 by decide, show (0 : Nat) ≠ 3 by decide, show (1 : Nat) ≠ 0 by decide, show (1 : Nat) ≠ 2 by decide, show (1 : Nat) ≠ 3 by decide, show (2 : Nat) ≠ 0 by decide, show (2 : Nat) ≠ 1 by decide, show (2 : Nat) ≠ 3 by decide, show (3 : Nat) ≠ 0 by decide, show (3 : Nat) ≠ 1 by decide, show (3 : Nat) ≠ 2 by decide, if_true, if_false]; omega)
theorem tl_ge (C : Nat → List Int32) {i : Nat} (hi : i < 4) : (C i).length ≤ tl_ C := by
  refine lt4 (P := fun i => (C i).length ≤ tl_ C) hi ?_ ?_ ?_ ?_ <;> (simp only [tl_]; omega)
theorem tl_two (C : Nat → List Int32) {i j : Nat} (hi : i < 4) (hj : j < 4) (hij : i ≠ j) : (C i).length + (C j).length ≤ tl_ C := by
  refine lt4 (P := fun i => i ≠ j → (C i).length + (C j).length ≤ tl_ C) hi ?_ ?_ ?_ ?_ hij <;> (refine lt4 (P := fun j => _ ≠ j → _ + (C j).length ≤ tl_ C) hj ?_ ?_ ?_ ?_ <;> (intro h; simp only [tl_]; omega))
theorem DkR.put {G : gT} {p p2 : Nat} {C : Nat → List Int32} {fo fo2 : Nat → Option Nat} {R : Nat → hR} {nw nw2 : va_W} (h : DkR G p C fo R nw) {i : Nat} (hi : i < 4) {x : hR} {Ci : List Int32} (hs : ∀ q ∈ nw, q ∈ nw2) (hx : HO G nw2 i x Ci) (hf : fo2 i = some x.1) (hf2 : ∀ j, j ≠ i → fo2 j = fo j) (hp : tl_ (va_up C i Ci) ≤ p2) (hp2 : p2 ≤ 64) : DkR G p2 (va_up C i Ci) fo2 (va_up R i x) nw2 := by
  refine ⟨fun j hj => ?_, hp, hp2⟩
  by_cases e : j = i
  · subst e
    rw [va_up_self, va_up_self]
    exact ⟨hf, hx⟩
  · rw [va_up_ne _ _ e, va_up_ne _ _ e, hf2 j e]
    exact ⟨(h.1 j hj).1, (h.1 j hj).2.mono hs⟩
/-- the boxes of a record's references, as a list -/
def bl_ (f : Nat → Option Nat) (n : Nat) : List Nat := (hq_seg f n).map (fun q => q.getD 0)
theorem bl_mem {f : Nat → Option Nat} {n j y : Nat} (h1 : 1 ≤ j) (h2 : j ≤ n) (e : f j = some y) : y ∈ bl_ f n := List.mem_map.mpr ⟨some y, hq_mem.mpr ⟨j, h1, h2, e⟩, rfl⟩
theorem bl_of {f : Nat → Option Nat} {n y : Nat} (h : y ∈ bl_ f n) : ∃ j, 1 ≤ j ∧ j ≤ n ∧ y = (f j).getD 0 := by
  obtain ⟨q, hq, rfl⟩ := List.mem_map.mp h
  obtain ⟨j, h1, h2, rfl⟩ := hq_mem.mp hq
  exact ⟨j, h1, h2, rfl⟩
theorem HO.use {G : gT} {nw : va_W} {i : Nat} {o ar n cap : Nat} {f : Nat → Option Nat} {Ci : List Int32} (h : HO G nw i (o, ar, n, cap, f) Ci) : ∃ (val : Nat → Int32) (L : List Nat), hq_hp (wq_ (dr_ i) val) 1 f n ∧ (∀ j, 1 ≤ j → j ≤ n → ∃ y, y ∈ L ∧ f j = some y) ∧ (∀ y ∈ L, isbox G nw y (val y)) ∧ ((hq_seg f n).map (kv_ val)).Perm Ci := by
  obtain ⟨h1, h2, val, h3, h4, h5⟩ := h
  refine ⟨val, bl_ f n, h3, fun j a b => ?_, fun y hy => ?_, h5⟩
  · obtain ⟨y, e, -⟩ := h4 j a b
    exact ⟨y, bl_mem a b e, e⟩
  · obtain ⟨j, a, b, e⟩ := bl_of hy
    obtain ⟨z, ez, hz⟩ := h4 j a b
    have ez : f j = some z := ez
    rw [ez] at e
    have e : y = z := e
    rw [e]
    exact hz
/-- one more box: values and boxes for insert -/
theorem HO.ins {G : gT} {nw nw2 : va_W} {i : Nat} {o ar n cap : Nat} {f : Nat → Option Nat} {Ci : List Int32} (h : HO G nw i (o, ar, n, cap, f) Ci) (hs : ∀ q ∈ nw, q ∈ nw2) {y : Nat} {v : Int32} (hy : isbox G nw2 y v) (hu : ∀ z a b, isbox G nw2 z a → isbox G nw2 z b → a = b) : ∃ (val : Nat → Int32) (L : List Nat), hq_hp (wq_ (dr_ i) val) 1 f n ∧ (∀ j, 1 ≤ j → j ≤ n → ∃ z, z ∈ L ∧ f j = some z) ∧ (∀ z ∈ L, isbox G nw2 z (val z)) ∧ y ∈ L ∧ val y = v ∧ ((hq_seg f n).map (kv_ val)).Perm Ci := by
  obtain ⟨val, L, h3, h4, h5, h6⟩ := h.use
  have key : ∀ z ∈ L, va_up val y v z = val z := by
    intro z hz
    by_cases e : z = y
    · subst e
      rw [va_up_self]
      exact hu z v (val z) hy ((h5 z hz).mono hs)
    · exact va_up_ne _ _ e
  have kf : ∀ j, 1 ≤ j → j ≤ n → kv_ (va_up val y v) (f j) = kv_ val (f j) := by
    intro j a b
    obtain ⟨z, hz, e⟩ := h4 j a b
    rw [e]
    exact key z hz
  refine ⟨va_up val y v, y :: L, fun j a b c => ?_, fun j a b => ?_, fun z hz => ?_, List.mem_cons_self, va_up_self _ _ _, ?_⟩
  · have e1 : wq_ (dr_ i) (va_up val y v) (f (j / 2)) = wq_ (dr_ i) val (f (j / 2)) := congrArg (wt_ (dr_ i)) (kf (j / 2) (by omega) (by omega))
    have e2 : wq_ (dr_ i) (va_up val y v) (f j) = wq_ (dr_ i) val (f j) := congrArg (wt_ (dr_ i)) (kf j (by omega) b)
    rw [e1, e2]
    exact h3 j a b c
  · obtain ⟨z, hz, e⟩ := h4 j a b
    exact ⟨z, List.mem_cons_of_mem _ hz, e⟩
  · rcases List.mem_cons.mp hz with e | hz
    · subst e
      rw [va_up_self]
      exact hy
    · rw [key z hz]
      exact (h5 z hz).mono hs
  · have e : (hq_seg f n).map (kv_ (va_up val y v)) = (hq_seg f n).map (kv_ val) := List.map_congr_left (fun q hq => by
      obtain ⟨j, a, b, rfl⟩ := hq_mem.mp hq
      exact kf j a b)
    rw [e]
    exact h6
/-- a record that holds what is told -/
theorem HO.mk {G : gT} {nw : va_W} {i : Nat} (o ar : Nat) {n cap : Nat} {f : Nat → Option Nat} {val : Nat → Int32} {L : List Nat} (hc : n ≤ cap ∧ 16 ≤ cap ∧ cap ≤ 128) (hp : hq_hp (wq_ (dr_ i) val) 1 f n) {S : List (Option Nat)} (hF : (hq_seg f n).Perm S) (hS : ∀ q ∈ S, ∃ z, z ∈ L ∧ q = some z) (hL : ∀ z ∈ L, isbox G nw z (val z)) {K : List Int32} (hK : (S.map (kv_ val)).Perm K) : ∃ Ci, HO G nw i (o, ar, n, cap, f) Ci ∧ Ci.Perm K := by
  obtain ⟨Ci, h1, h2⟩ := so_of (dr_ i) K
  refine ⟨Ci, ⟨hc, h1, val, hp, fun j a b => ?_, (hF.map _).trans (hK.trans h2.symm)⟩, h2⟩
  obtain ⟨z, hz, e⟩ := hS _ (hF.mem_iff.mp (hq_mem.mpr ⟨j, a, b, rfl⟩))
  exact ⟨z, e, hL z hz⟩
theorem put_S {f : Nat → Option Nat} {L : List Nat} {n y : Nat} (hm : ∀ j, 1 ≤ j → j ≤ n → ∃ z, z ∈ L ∧ f j = some z) (hy : y ∈ L) : ∀ q ∈ some y :: hq_seg f n, ∃ z, z ∈ L ∧ q = some z := by
  intro q hq
  rcases List.mem_cons.mp hq with e | hq
  · exact ⟨y, hy, e⟩
  · obtain ⟨j, a, b, rfl⟩ := hq_mem.mp hq
    exact hm j a b
theorem take_head {d : Bool} {val : Nat → Int32} {f : Nat → Option Nat} {n : Nat} {Ci : List Int32} (h1 : 1 ≤ n) (hp : hq_hp (wq_ d val) 1 f n) (so : so_ d Ci) (pm : ((hq_seg f n).map (kv_ val)).Perm Ci) : ∃ t, Ci = kv_ val (f 1) :: t := by
  cases Ci with
  | nil =>
    have := pm.length_eq
    rw [List.length_map, hq_seg_len] at this
    have : n = 0 := this
    omega
  | cons a t =>
    refine ⟨t, ?_⟩
    have hb : kv_ val (f 1) ∈ (hq_seg f n).map (kv_ val) := List.mem_map.mpr ⟨f 1, hq_mem.mpr ⟨1, Nat.le_refl 1, h1, rfl⟩, rfl⟩
    rw [so_min so pm.symm hb (fun c hc => by
      obtain ⟨q, hq, rfl⟩ := List.mem_map.mp hc
      obtain ⟨j, a1, a2, rfl⟩ := hq_mem.mp hq
      exact hq_min hp j a1 a2)]
/-- the foremost key taken away -/
theorem HO.take {G : gT} {nw : va_W} {i : Nat} (o ar : Nat) {n cap : Nat} {f g : Nat → Option Nat} {val : Nat → Int32} {L : List Nat} {t : List Int32} (h1 : 1 ≤ n) (hc : n - 1 ≤ cap ∧ 16 ≤ cap ∧ cap ≤ 128) (hp : hq_hp (wq_ (dr_ i) val) 1 g (n - 1)) (hm : ∀ j, 1 ≤ j → j ≤ n → ∃ z, z ∈ L ∧ f j = some z) (hL : ∀ z ∈ L, isbox G nw z (val z)) (so : so_ (dr_ i) (kv_ val (f 1) :: t)) (pm : ((hq_seg f n).map (kv_ val)).Perm (kv_ val (f 1) :: t)) (hF : (f 1 :: hq_seg g (n - 1)).Perm (hq_seg f n)) : HO G nw i (o, ar, n - 1, cap, g) t := by
  have hS : ∀ q ∈ hq_seg g (n - 1), ∃ z, z ∈ L ∧ q = some z := by
    intro q hq
    obtain ⟨j, a, b, e⟩ := hq_mem.mp (hF.mem_iff.mp (List.mem_cons_of_mem _ hq))
    rw [← e]
    exact hm j a b
  have hK : ((hq_seg g (n - 1)).map (kv_ val)).Perm t := by
    have h2 := (hF.map (kv_ val)).trans pm
    rw [List.map_cons] at h2
    exact h2.cons_inv
  refine ⟨hc, so_tail so, val, hp, fun j a b => ?_, hK⟩
  obtain ⟨z, hz, e⟩ := hS _ (hq_mem.mpr ⟨j, a, b, rfl⟩)
  exact ⟨z, e, hL z hz⟩
theorem isbox.uniq {G : gT} {s : State} {args : Array Value} {A : Nat → Prop} {H : Heap} {ws nw : va_W} (hts : ∀ w ∈ lw_all, w.before args s = true) (hE : Env_ G A s H) (hP : va_P G.1 clz ws H) (hs : ∀ q ∈ nw, q ∈ ws) : ∀ z a b, isbox G nw z a → isbox G nw z b → a = b := fun z a b h1 h2 => ((h1.mono hs).now hts hE hP).uniq ((h2.mono hs).now hts hE hP)
/-- one function of values for boxes that may be the same -/
theorem vals_of {N : Nat} {y : Nat → Nat} {v : Nat → Int32} (h : ∀ a b, a < N → b < N → y a = y b → v a = v b) : ∃ val : Nat → Int32, ∀ j, j < N → val (y j) = v j := by
  have h0 : ∀ z : Nat, ∃ x : Int32, ∀ j, j < N → y j = z → x = v j := by
    intro z
    by_cases e : ∃ j, j < N ∧ y j = z
    · obtain ⟨j, h1, h2⟩ := e
      exact ⟨v j, fun k h3 h4 => h j k h1 h3 (h2.trans h4.symm)⟩
    · exact ⟨0, fun k h3 h4 => absurd ⟨k, h3, h4⟩ e⟩
  obtain ⟨val, hv⟩ := Classical.axiomOfChoice h0
  exact ⟨val, fun j hj => hv (y j) j hj rfl⟩
/-- a record without keys -/
theorem HO.none {G : gT} {nw : va_W} {i : Nat} (o ar : Nat) {cap : Nat} (f : Nat → Option Nat) (hc : 16 ≤ cap ∧ cap ≤ 128) : HO G nw i (o, ar, 0, cap, f) [] :=
  ⟨⟨Nat.zero_le _, hc.1, hc.2⟩, so_nil, fun _ => 0, hq_hp_none (Nat.zero_lt_succ 1), fun j a b => absurd b (Nat.not_le.mpr a), by simp [hq_seg]⟩
theorem HO.zero {G : gT} {nw : va_W} {i : Nat} {q : hR} {Ci : List Int32} (h : HO G nw i q Ci) (h0 : q.2.2.1 = 0) : Ci = [] := List.eq_nil_of_length_eq_zero (h.len.symm.trans h0)
theorem HO.pos {G : gT} {nw : va_W} {i : Nat} {q : hR} {Ci : List Int32} (h : HO G nw i q Ci) (h0 : q.2.2.1 ≠ 0) : Ci ≠ [] := fun e => h0 (h.len.trans (by rw [e]; rfl))
theorem and3 {x : Int32} : ∃ i, i < 4 ∧ x &&& 3 = nI i := by
  obtain ⟨j, h1, h2⟩ := pk_andE x (m := 3) 2 (by decide)
  exact ⟨j, by omega, h2⟩
end
section
/-! THE DESK, method by method -/
set_option maxRecDepth 100000
theorem HO.emp {G : gT} {nw : va_W} {i : Nat} {q : hR} {Ci : List Int32} (h : HO G nw i q Ci) : (if q.2.2.1 = 0 then (1 : Int32) else 0) = if Ci = [] then 1 else 0 := by
  by_cases e : q.2.2.1 = 0
  · rw [if_pos e, if_pos (h.zero e)]
  · rw [if_neg e, if_neg (h.pos e)]
theorem nar_b {x : Int32} {c : Prop} [Decidable c] (h : x = if c then 1 else 0) : narrow .boolean (.int x) = .int x := by
  subst h
  by_cases e : c
  · rw [if_pos e]; rfl
  · rw [if_neg e]; rfl
theorem mem4 {α : Type} {a b c d x : α} {l : List α} (h : x ∈ l) : x ∈ a :: b :: c :: d :: l := List.mem_cons_of_mem _ (List.mem_cons_of_mem _ (List.mem_cons_of_mem _ (List.mem_cons_of_mem _ h)))
theorem e_ne {x : Int32} {n : Nat} (ex : x = if n = 0 then 1 else 0) (c : x = 0) : n ≠ 0 := by
  intro h
  rw [if_pos h] at ex
  rw [ex] at c
  exact absurd c (by decide)
theorem e_eq {x : Int32} {n : Nat} (ex : x = if n = 0 then 1 else 0) (c : ¬ x = 0) : n = 0 := by
  by_cases h : n = 0
  · exact h
  · rw [if_neg h] at ex
    exact absurd ex c
theorem nn_a4 (p : Nat) : nI p + 4 = nI (p + 4) := nI_add p 4
theorem mk_16 (k : Int32) : ∃ v : Int32, v = k &&& 65535 := ⟨_, rfl⟩
set_option maxHeartbeats 4000000 in
set_option maxRecDepth 100000 in
/-- isEmpty(r) -/
theorem mX1_isEmpty (l : Launch) (G : gT) (d np sz i : Nat) (C : Nat → List Int32) (w : va_W) (r : Int32) (hi : i < 4) (hri : r &&& 3 = nI i) (hDk : Dk G d np C w) : Met l yX1_isEmpty (ws_ yX1_isEmpty cX1_isEmpty 2 (some .boolean)) (rm_ 1 0 0 20) (Pw G (fun _ => 0) [] [.ref d, .int r] sz w) (vp_Si (fun x => x = if C i = [] then 1 else 0)) 0 0 (fun _ => False) := by
  refine Met.ofW (cc := cX1_isEmpty) (maxL := 2) (ret := some .boolean) (by decide) rfl ?_
  intro p e s m args below meth c s₁ B hml hv
  obtain ⟨rfl, hsz, hP, hD0, hE, hB⟩ := hv
  have hx := B.exec
  have hb := B.bytes
  have hr := B.returns
  have hts := atoms_spec (ws := ws_ yX1_isEmpty cX1_isEmpty 2 (some .boolean)) B.pre
  have hts : ∀ w ∈ lw_all, w.before _ s = true := fun w h => hts w (List.mem_cons_of_mem _ h)
  have hown : s.vm.findClass RX1 = some m.cls := findClass_of_methodNamed B.named
  have hlocks := B.notSynchronized
  subst hsz
  have hD := hD0.self (sz := s.heap.size)
  generalize hAe : va_A (w) s.heap.size = A at hD hE hB ⊢
  have hA : ∀ q : Nat, s.heap.size ≤ q → A q := fun q h => by rw [← hAe]; exact Or.inr h
  have hS : va_S A s.heap s.heap [] := va_S.rf
  have hl := lv_entry ([.ref d, .int r]) (n := 2) (Nat.le_of_ble_eq_true rfl)
  rw [lg_entry_eq]
  generalize (lg_sl ([.ref d, .int r]) ++ List.replicate (2 - (lg_sl ([.ref d, .int r])).length) Slot.unset).toArray = ls at hl ⊢
  have hl : lv_has ls 2 [(0, .ref d), (1, .int r)] := hl
  obtain ⟨fa, fo, R, nw, ew, hDR⟩ := hDk
  subst ew
  obtain ⟨hfo, hO⟩ := hDR.1 i hi
  have hP := wP_perm hP (wdk_perm G d np fa fo R nw hi)
  have hD := wD_perm hD (wdk_perm G d np fa fo R nw hi)
  obtain ⟨⟨o, ar, n, cap, f⟩, hRi⟩ : ∃ q : hR, q = R i := ⟨_, rfl⟩
  rw [← hRi] at hP hD hfo hO
  obtain ⟨rs, hrs⟩ : ∃ q : va_W, q = oth G R i ++ nw := ⟨_, rfl⟩
  rw [← hrs] at hP hD
  have hfo : fo i = some o := hfo
  have hcap : n ≤ cap ∧ 16 ≤ cap ∧ cap ≤ 128 := hO.1
  have hP : va_P G.1 clz (ho_ o (cm_ G (dr_ i)) ar n :: oa_ G ar cap f :: dsk_ d fa np :: fil_ G fa fo :: rs) _ := hP
  have hD : va_D A (ho_ o (cm_ G (dr_ i)) ar n :: oa_ G ar cap f :: dsk_ d fa np :: fil_ G fa fo :: rs) := hD
  refine lv_aload_n hx hb dX1_isEmpty_0 rfl (lv_at hl 0 rfl) ?_
  refine va_get (D := G.1) (ci := 1) (v := .ref fa) (C := RX1) (T := TX1) (N := 2) hx hb hts in_X1 hown hE.1 hP 2 rfl rfl 0 (by decide) (hts _ q175) (fun _ h9 => h9) rfl dX1_isEmpty_1 ?_
  refine lv_iload_n hx hb dX1_isEmpty_4 rfl (lv_at hl 1 rfl) ?_
  refine lv_iconst (v := 3) hx hb dX1_isEmpty_5 (by decide) ?_
  refine lv_iand hx hb dX1_isEmpty_6 ?_
  refine lt_i (y := nI i) (hri) ?_
  refine va_aldq hx hb hE.1 hP 3 1 rfl rfl (vp_in_nI hi (by omega)) dX1_isEmpty_7 ?_
  refine lt_q (y := .ref o) (by rw [nI_clamp (by omega), hfo]; rfl) ?_
  have hc := cut_ (wc := [ho_ o (cm_ G (dr_ i)) ar n]) (wr := oa_ G ar cap f :: dsk_ d fa np :: fil_ G fa fo :: rs) hE hP hD hS hA (List.Perm.refl _)
  refine vp_callSi (va_Run.run (va_runU (C := RX4) (As := []) (rest := []) ⟨hx, hb, hml, hown, hts⟩ (mX2_isEmpty l G o ar n _ (cm_ G (dr_ i)) (by omega)) (va_cwU 0 hts (lw_U q317 q318 q320 q321 q4 q322) rfl rfl rfl rfl (by decide +kernel) ⟨Nat.le_of_ble_eq_true rfl, Nat.le_of_ble_eq_true rfl⟩) (Pw.preV hc no_bx (va_recv hE.1 hP (ci := 0) (q0 := 0) rfl rfl)) rfl rfl hl.1 rfl (lv_room (Nat.le_of_ble_eq_true rfl)) dX1_isEmpty_8 ⟨Nat.le_of_ble_eq_true rfl, Nat.le_of_ble_eq_true rfl⟩)) (fun x e_x => ?_)
  exact W.zret (v := x) hx hb hr (nar_b e_x) (fun t ht hW => ⟨x, rfl, e_x.trans hO.emp, ht⟩) no_loc dX1_isEmpty_11
set_option maxHeartbeats 4000000 in
set_option maxRecDepth 100000 in
/-- size(r) -/
theorem mX1_size (l : Launch) (G : gT) (d np sz i : Nat) (C : Nat → List Int32) (w : va_W) (r : Int32) (hi : i < 4) (hri : r &&& 3 = nI i) (hDk : Dk G d np C w) : Met l yX1_size (ws_ yX1_size cX1_size 2 (some .int)) (rm_ 1 0 0 20) (Pw G (fun _ => 0) [] [.ref d, .int r] sz w) (vp_Si (fun x => x = nI (C i).length)) 0 0 (fun _ => False) := by
  refine Met.ofW (cc := cX1_size) (maxL := 2) (ret := some .int) (by decide) rfl ?_
  intro p e s m args below meth c s₁ B hml hv
  obtain ⟨rfl, hsz, hP, hD0, hE, hB⟩ := hv
  have hx := B.exec
  have hb := B.bytes
  have hr := B.returns
  have hts := atoms_spec (ws := ws_ yX1_size cX1_size 2 (some .int)) B.pre
  have hts : ∀ w ∈ lw_all, w.before _ s = true := fun w h => hts w (List.mem_cons_of_mem _ h)
  have hown : s.vm.findClass RX1 = some m.cls := findClass_of_methodNamed B.named
  have hlocks := B.notSynchronized
  subst hsz
  have hD := hD0.self (sz := s.heap.size)
  generalize hAe : va_A (w) s.heap.size = A at hD hE hB ⊢
  have hA : ∀ q : Nat, s.heap.size ≤ q → A q := fun q h => by rw [← hAe]; exact Or.inr h
  have hS : va_S A s.heap s.heap [] := va_S.rf
  have hl := lv_entry ([.ref d, .int r]) (n := 2) (Nat.le_of_ble_eq_true rfl)
  rw [lg_entry_eq]
  generalize (lg_sl ([.ref d, .int r]) ++ List.replicate (2 - (lg_sl ([.ref d, .int r])).length) Slot.unset).toArray = ls at hl ⊢
  have hl : lv_has ls 2 [(0, .ref d), (1, .int r)] := hl
  obtain ⟨fa, fo, R, nw, ew, hDR⟩ := hDk
  subst ew
  obtain ⟨hfo, hO⟩ := hDR.1 i hi
  have hP := wP_perm hP (wdk_perm G d np fa fo R nw hi)
  have hD := wD_perm hD (wdk_perm G d np fa fo R nw hi)
  obtain ⟨⟨o, ar, n, cap, f⟩, hRi⟩ : ∃ q : hR, q = R i := ⟨_, rfl⟩
  rw [← hRi] at hP hD hfo hO
  obtain ⟨rs, hrs⟩ : ∃ q : va_W, q = oth G R i ++ nw := ⟨_, rfl⟩
  rw [← hrs] at hP hD
  have hfo : fo i = some o := hfo
  have hcap : n ≤ cap ∧ 16 ≤ cap ∧ cap ≤ 128 := hO.1
  have hP : va_P G.1 clz (ho_ o (cm_ G (dr_ i)) ar n :: oa_ G ar cap f :: dsk_ d fa np :: fil_ G fa fo :: rs) _ := hP
  have hD : va_D A (ho_ o (cm_ G (dr_ i)) ar n :: oa_ G ar cap f :: dsk_ d fa np :: fil_ G fa fo :: rs) := hD
  refine lv_aload_n hx hb dX1_size_0 rfl (lv_at hl 0 rfl) ?_
  refine va_get (D := G.1) (ci := 1) (v := .ref fa) (C := RX1) (T := TX1) (N := 2) hx hb hts in_X1 hown hE.1 hP 2 rfl rfl 0 (by decide) (hts _ q175) (fun _ h9 => h9) rfl dX1_size_1 ?_
  refine lv_iload_n hx hb dX1_size_4 rfl (lv_at hl 1 rfl) ?_
  refine lv_iconst (v := 3) hx hb dX1_size_5 (by decide) ?_
  refine lv_iand hx hb dX1_size_6 ?_
  refine lt_i (y := nI i) (hri) ?_
  refine va_aldq hx hb hE.1 hP 3 1 rfl rfl (vp_in_nI hi (by omega)) dX1_size_7 ?_
  refine lt_q (y := .ref o) (by rw [nI_clamp (by omega), hfo]; rfl) ?_
  have hc := cut_ (wc := [ho_ o (cm_ G (dr_ i)) ar n]) (wr := oa_ G ar cap f :: dsk_ d fa np :: fil_ G fa fo :: rs) hE hP hD hS hA (List.Perm.refl _)
  refine vp_callSl (va_Run.run (va_runU (C := RX4) (As := []) (rest := []) ⟨hx, hb, hml, hown, hts⟩ (mX2_size l G o ar n _ (cm_ G (dr_ i)) (by omega)) (va_cwU 0 hts (lw_U q372 q373 q375 q376 q4 q377) rfl rfl rfl rfl (by decide +kernel) ⟨Nat.le_of_ble_eq_true rfl, Nat.le_of_ble_eq_true rfl⟩) (Pw.preV hc no_bx (va_recv hE.1 hP (ci := 0) (q0 := 0) rfl rfl)) rfl rfl hl.1 rfl (lv_room (Nat.le_of_ble_eq_true rfl)) dX1_size_8 ⟨Nat.le_of_ble_eq_true rfl, Nat.le_of_ble_eq_true rfl⟩)) (fun x e_x => ?_)
  subst e_x
  refine lv_l2i (v := nI n) hx hb dX1_size_11 (lN_i n) ?_
  exact W.iret (v := nI n) hx hb hr (fun t ht hW => ⟨nI n, rfl, congrArg nI hO.len, ht⟩) no_loc dX1_size_12
set_option maxHeartbeats 4000000 in
set_option maxRecDepth 100000 in
/-- least(r): the foremost key, or -1 -/
theorem mX1_least (l : Launch) (G : gT) (d np sz i : Nat) (C : Nat → List Int32) (w : va_W) (r : Int32) (hi : i < 4) (hri : r &&& 3 = nI i) (hDk : Dk G d np C w) : Met l yX1_least (ws_ yX1_least cX1_least 3 (some .int)) (rm_ 1 0 0 20) (Pw G (fun _ => 0) [] [.ref d, .int r] sz w) (vp_Si (fun x => x = (C i).headD (-1))) 0 0 (fun _ => False) := by
  refine Met.ofW (cc := cX1_least) (maxL := 3) (ret := some .int) (by decide) rfl ?_
  intro p e s m args below meth c s₁ B hml hv
  obtain ⟨rfl, hsz, hP, hD0, hE, hB⟩ := hv
  have hx := B.exec
  have hb := B.bytes
  have hr := B.returns
  have hts := atoms_spec (ws := ws_ yX1_least cX1_least 3 (some .int)) B.pre
  have hts : ∀ w ∈ lw_all, w.before _ s = true := fun w h => hts w (List.mem_cons_of_mem _ h)
  have hown : s.vm.findClass RX1 = some m.cls := findClass_of_methodNamed B.named
  have hlocks := B.notSynchronized
  subst hsz
  have hD := hD0.self (sz := s.heap.size)
  generalize hAe : va_A (w) s.heap.size = A at hD hE hB ⊢
  have hA : ∀ q : Nat, s.heap.size ≤ q → A q := fun q h => by rw [← hAe]; exact Or.inr h
  have hS : va_S A s.heap s.heap [] := va_S.rf
  have hl := lv_entry ([.ref d, .int r]) (n := 3) (Nat.le_of_ble_eq_true rfl)
  rw [lg_entry_eq]
  generalize (lg_sl ([.ref d, .int r]) ++ List.replicate (3 - (lg_sl ([.ref d, .int r])).length) Slot.unset).toArray = ls at hl ⊢
  have hl : lv_has ls 3 [(0, .ref d), (1, .int r)] := hl
  obtain ⟨fa, fo, R, nw, ew, hDR⟩ := hDk
  subst ew
  obtain ⟨hfo, hO⟩ := hDR.1 i hi
  have hP := wP_perm hP (wdk_perm G d np fa fo R nw hi)
  have hD := wD_perm hD (wdk_perm G d np fa fo R nw hi)
  obtain ⟨⟨o, ar, n, cap, f⟩, hRi⟩ : ∃ q : hR, q = R i := ⟨_, rfl⟩
  rw [← hRi] at hP hD hfo hO
  obtain ⟨rs, hrs⟩ : ∃ q : va_W, q = oth G R i ++ nw := ⟨_, rfl⟩
  rw [← hrs] at hP hD
  have hfo : fo i = some o := hfo
  have hcap : n ≤ cap ∧ 16 ≤ cap ∧ cap ≤ 128 := hO.1
  have hP : va_P G.1 clz (ho_ o (cm_ G (dr_ i)) ar n :: oa_ G ar cap f :: dsk_ d fa np :: fil_ G fa fo :: rs) _ := hP
  have hD : va_D A (ho_ o (cm_ G (dr_ i)) ar n :: oa_ G ar cap f :: dsk_ d fa np :: fil_ G fa fo :: rs) := hD
  refine lv_aload_n hx hb dX1_least_0 rfl (lv_at hl 0 rfl) ?_
  refine va_get (D := G.1) (ci := 1) (v := .ref fa) (C := RX1) (T := TX1) (N := 2) hx hb hts in_X1 hown hE.1 hP 2 rfl rfl 0 (by decide) (hts _ q175) (fun _ h9 => h9) rfl dX1_least_1 ?_
  refine lv_iload_n hx hb dX1_least_4 rfl (lv_at hl 1 rfl) ?_
  refine lv_iconst (v := 3) hx hb dX1_least_5 (by decide) ?_
  refine lv_iand hx hb dX1_least_6 ?_
  refine lt_i (y := nI i) (hri) ?_
  refine va_aldq hx hb hE.1 hP 3 1 rfl rfl (vp_in_nI hi (by omega)) dX1_least_7 ?_
  refine lt_q (y := .ref o) (by rw [nI_clamp (by omega), hfo]; rfl) ?_
  refine lv_astore_n (lv' := [(2, .ref o), (0, .ref d), (1, .int r)]) hx hb dX1_least_8 rfl hl (by decide) rfl (fun ls hl => ?_)
  refine lv_aload_n hx hb dX1_least_9 rfl (lv_at hl 0 rfl) ?_
  have hc := cut_ (wc := [ho_ o (cm_ G (dr_ i)) ar n]) (wr := oa_ G ar cap f :: dsk_ d fa np :: fil_ G fa fo :: rs) hE hP hD hS hA (List.Perm.refl _)
  refine vp_callSi (va_Run.run (va_runU (C := RX4) (As := []) (rest := []) ⟨hx, hb, hml, hown, hts⟩ (mX2_isEmpty l G o ar n _ (cm_ G (dr_ i)) (by omega)) (va_cwU 0 hts (lw_U q317 q318 q320 q321 q4 q322) rfl rfl rfl rfl (by decide +kernel) ⟨Nat.le_of_ble_eq_true rfl, Nat.le_of_ble_eq_true rfl⟩) (Pw.preV hc no_bx (va_recv hE.1 hP (ci := 0) (q0 := 0) rfl rfl)) rfl rfl hl.1 rfl (lv_room (Nat.le_of_ble_eq_true rfl)) dX1_least_10 ⟨Nat.le_of_ble_eq_true rfl, Nat.le_of_ble_eq_true rfl⟩)) (fun x e_x => ?_)
  refine lv_if_eq (tgt := 20) hx hb dX1_least_13 (by decide) (fun c1 => ?_) (fun c1 => ?_)
  · have h0 : 1 ≤ n := Nat.pos_of_ne_zero (e_ne e_x c1)
    obtain ⟨val, L, h3, h4, h5, h6⟩ := hO.use
    obtain ⟨y, hy, ey⟩ := h4 1 (Nat.le_refl 1) h0
    obtain ⟨t9, e9⟩ := take_head h0 h3 hO.2.1 h6
    refine lv_aload_n hx hb dX1_least_20 rfl (lv_at hl 0 rfl) ?_
    have hc := cut_ (wc := hw_ G o (cm_ G (dr_ i)) ar n cap f) (wr := dsk_ d fa np :: fil_ G fa fo :: rs) hE hP hD hS hA (List.Perm.refl _)
    refine va_csq (va_Run.run (va_runU (C := RX4) (As := []) (rest := []) ⟨hx, hb, hml, hown, hts⟩ (mX3_findMin l G o ar n cap _ (cm_ G (dr_ i)) f h0 hcap.1 (by omega)) (va_cwU 0 hts (lw_U q323 q324 q326 q327 q5 q328) rfl rfl rfl rfl (by decide +kernel) ⟨Nat.le_of_ble_eq_true rfl, Nat.le_of_ble_eq_true rfl⟩) (Pw.preV hc no_bx (va_recv hE.1 hP (ci := 0) (q0 := 0) rfl rfl)) rfl rfl hl.1 rfl (lv_room (Nat.le_of_ble_eq_true rfl)) dX1_least_21 ⟨Nat.le_of_ble_eq_true rfl, Nat.le_of_ble_eq_true rfl⟩)) (fun x2 e_x2 => ?_)
    refine lt_q (y := .ref y) (by rw [e_x2, ey]; rfl) ?_
    have hbx : bx0 s _ y (val y) := ((h5 y hy).mono (fun q hq => mem4 (by rw [hrs]; exact List.mem_append_right _ hq))).now hts (hE.kept hS.2.1) hP
    refine va_castE hx hb hown (hts _ q255) (bx.recv hbx) dX1_least_24 ?_
    refine vp_callSi (va_Run.run (va_runV (As := []) (rest := []) ⟨hx, hb, hml, hown, hts⟩ (mJ7_intValue l y (val y)) (cwV 0 hts (lw_V q256 q257 q258 q14 q259) rfl rfl rfl (by decide +kernel) ⟨Nat.le_of_ble_eq_true rfl, Nat.le_of_ble_eq_true rfl⟩) (Pb.preV (one_bx hbx) (bx.recv hbx)) rfl rfl hl.1 rfl (lv_room (Nat.le_of_ble_eq_true rfl)) dX1_least_27 ⟨Nat.le_of_ble_eq_true rfl, Nat.le_of_ble_eq_true rfl⟩)) (fun x3 e_x3 => ?_)
    subst x3
    exact W.iret (v := val y) hx hb hr (fun t ht hW => ⟨val y, rfl, by rw [e9, ey]; rfl, ht⟩) no_loc dX1_least_30
  · refine lv_iconst (v := (-1)) hx hb dX1_least_16 (by decide) ?_
    refine lv_goto (tgt := 30) hx hb dX1_least_17 (by decide) ?_
    exact W.iret (v := -1) hx hb hr (fun t ht hW => ⟨-1, rfl, by rw [hO.zero (e_eq e_x c1)]; rfl, ht⟩) no_loc dX1_least_30
set_option maxHeartbeats 4000000 in
set_option maxRecDepth 100000 in
/-- clear(r) -/
theorem mX1_clear (l : Launch) (G : gT) (d np sz i : Nat) (C : Nat → List Int32) (w : va_W) (r : Int32) (hi : i < 4) (hri : r &&& 3 = nI i) (hDk : Dk G d np C w) : Met l yX1_clear (ws_ yX1_clear cX1_clear 2 none) (rm_ 1 0 0 20) (Pw G (fun _ => 0) [] [.ref d, .int r] sz w) (va_Qv (fun u : va_W => Dk G d np (va_up C i []) u) (Bw G (va_A w sz) (fun u => u)) (va_A w sz)) 0 0 (va_A w sz) := by
  refine Met.ofW (cc := cX1_clear) (maxL := 2) (ret := none) (by decide) rfl ?_
  intro p e s m args below meth c s₁ B hml hv
  obtain ⟨rfl, hsz, hP, hD0, hE, hB⟩ := hv
  have hx := B.exec
  have hb := B.bytes
  have hr := B.returns
  have hts := atoms_spec (ws := ws_ yX1_clear cX1_clear 2 none) B.pre
  have hts : ∀ w ∈ lw_all, w.before _ s = true := fun w h => hts w (List.mem_cons_of_mem _ h)
  have hown : s.vm.findClass RX1 = some m.cls := findClass_of_methodNamed B.named
  have hlocks := B.notSynchronized
  subst hsz
  have hD := hD0.self (sz := s.heap.size)
  generalize hAe : va_A (w) s.heap.size = A at hD hE hB ⊢
  have hA : ∀ q : Nat, s.heap.size ≤ q → A q := fun q h => by rw [← hAe]; exact Or.inr h
  have hS : va_S A s.heap s.heap [] := va_S.rf
  have hl := lv_entry ([.ref d, .int r]) (n := 2) (Nat.le_of_ble_eq_true rfl)
  rw [lg_entry_eq]
  generalize (lg_sl ([.ref d, .int r]) ++ List.replicate (2 - (lg_sl ([.ref d, .int r])).length) Slot.unset).toArray = ls at hl ⊢
  have hl : lv_has ls 2 [(0, .ref d), (1, .int r)] := hl
  obtain ⟨fa, fo, R, nw, ew, hDR⟩ := hDk
  subst ew
  obtain ⟨hfo, hO⟩ := hDR.1 i hi
  have hP := wP_perm hP (wdk_perm G d np fa fo R nw hi)
  have hD := wD_perm hD (wdk_perm G d np fa fo R nw hi)
  obtain ⟨⟨o, ar, n, cap, f⟩, hRi⟩ : ∃ q : hR, q = R i := ⟨_, rfl⟩
  rw [← hRi] at hP hD hfo hO
  obtain ⟨rs, hrs⟩ : ∃ q : va_W, q = oth G R i ++ nw := ⟨_, rfl⟩
  rw [← hrs] at hP hD
  have hfo : fo i = some o := hfo
  have hcap : n ≤ cap ∧ 16 ≤ cap ∧ cap ≤ 128 := hO.1
  have hP : va_P G.1 clz (ho_ o (cm_ G (dr_ i)) ar n :: oa_ G ar cap f :: dsk_ d fa np :: fil_ G fa fo :: rs) _ := hP
  have hD : va_D A (ho_ o (cm_ G (dr_ i)) ar n :: oa_ G ar cap f :: dsk_ d fa np :: fil_ G fa fo :: rs) := hD
  refine lv_aload_n hx hb dX1_clear_0 rfl (lv_at hl 0 rfl) ?_
  refine va_get (D := G.1) (ci := 1) (v := .ref fa) (C := RX1) (T := TX1) (N := 2) hx hb hts in_X1 hown hE.1 hP 2 rfl rfl 0 (by decide) (hts _ q175) (fun _ h9 => h9) rfl dX1_clear_1 ?_
  refine lv_iload_n hx hb dX1_clear_4 rfl (lv_at hl 1 rfl) ?_
  refine lv_iconst (v := 3) hx hb dX1_clear_5 (by decide) ?_
  refine lv_iand hx hb dX1_clear_6 ?_
  refine lt_i (y := nI i) (hri) ?_
  refine va_aldq hx hb hE.1 hP 3 1 rfl rfl (vp_in_nI hi (by omega)) dX1_clear_7 ?_
  refine lt_q (y := .ref o) (by rw [nI_clamp (by omega), hfo]; rfl) ?_
  have hc := cut_ (wc := [ho_ o (cm_ G (dr_ i)) ar n]) (wr := oa_ G ar cap f :: dsk_ d fa np :: fil_ G fa fo :: rs) hE hP hD hS hA (List.Perm.refl _)
  refine cv_ (va_runU (C := RX4) (As := []) (rest := []) ⟨hx, hb, hml, hown, hts⟩ (mX2_clear l G o ar n _ (cm_ G (dr_ i))) (va_cwU 0 hts (lw_U q386 q387 q389 q390 q4 q391) rfl rfl rfl rfl (by decide +kernel) ⟨Nat.le_of_ble_eq_true rfl, Nat.le_of_ble_eq_true rfl⟩) (Pw.preV hc no_bx (va_recv hE.1 hP (ci := 0) (q0 := 0) rfl rfl)) rfl rfl hl.1 rfl (lv_room (Nat.le_of_ble_eq_true rfl)) dX1_clear_8 ⟨Nat.le_of_ble_eq_true rfl, Nat.le_of_ble_eq_true rfl⟩) hP hD hS hc (List.Perm.refl _) (fun _ H locs _ hP hD hS => ?_)
  have hP : va_P G.1 clz (ho_ o (cm_ G (dr_ i)) ar 0 :: oa_ G ar cap f :: dsk_ d fa np :: fil_ G fa fo :: rs) _ := hP
  have hD : va_D A (ho_ o (cm_ G (dr_ i)) ar 0 :: oa_ G ar cap f :: dsk_ d fa np :: fil_ G fa fo :: rs) := hD
  rw [hrs] at hP hD
  have hP := wP_perm hP (wdk_back G d np fa fo R nw hi (o, ar, 0, cap, f))
  have hD := wD_perm hD (wdk_back G d np fa fo R nw hi (o, ar, 0, cap, f))
  have hDR2 : DkR G np (va_up C i []) fo (va_up R i (o, ar, 0, cap, f)) nw := hDR.put hi (fun _ h => h) (HO.none o ar f hcap.2) hfo (fun _ _ => rfl) (by have h1 := tl_up C hi []; have h2 := hDR.2.1; rw [List.length_nil] at h1; omega) hDR.2.2
  exact W.vret hx hb hr (fun t ht hW => ⟨⟨_, rfl, ⟨fa, fo, _, nw, rfl, hDR2⟩, by rw [ht]; exact hP, hD⟩, hS.F ht⟩) hS.2.2 dX1_clear_11
set_option maxHeartbeats 4000000 in
set_option maxRecDepth 100000 in
/-- takeLeast(r): the foremost key, taken away, or -1 -/
theorem mX1_takeLeast (l : Launch) (G : gT) (d np sz i : Nat) (C : Nat → List Int32) (w : va_W) (r : Int32) (hi : i < 4) (hri : r &&& 3 = nI i) (hDk : Dk G d np C w) : Met l yX1_takeLeast (ws_ yX1_takeLeast cX1_takeLeast 3 (some .int)) (rm_ 5 1 129 112) (Pw G (fun _ => 0) [] [.ref d, .int r] sz w) (va_Qi (fun (x : Int32) (u : va_W) => x = (C i).headD (-1) ∧ Dk G d np (va_up C i (C i).tail) u) (Bw G (va_A w sz) (fun u => u)) (va_A w sz)) 1 129 (va_A w sz) := by
  refine Met.ofW (cc := cX1_takeLeast) (maxL := 3) (ret := some .int) (by decide) rfl ?_
  intro p e s m args below meth c s₁ B hml hv
  obtain ⟨rfl, hsz, hP, hD0, hE, hB⟩ := hv
  have hx := B.exec
  have hb := B.bytes
  have hr := B.returns
  have hts := atoms_spec (ws := ws_ yX1_takeLeast cX1_takeLeast 3 (some .int)) B.pre
  have hts : ∀ w ∈ lw_all, w.before _ s = true := fun w h => hts w (List.mem_cons_of_mem _ h)
  have hown : s.vm.findClass RX1 = some m.cls := findClass_of_methodNamed B.named
  have hlocks := B.notSynchronized
  subst hsz
  have hD := hD0.self (sz := s.heap.size)
  generalize hAe : va_A (w) s.heap.size = A at hD hE hB ⊢
  have hA : ∀ q : Nat, s.heap.size ≤ q → A q := fun q h => by rw [← hAe]; exact Or.inr h
  have hS : va_S A s.heap s.heap [] := va_S.rf
  have hl := lv_entry ([.ref d, .int r]) (n := 3) (Nat.le_of_ble_eq_true rfl)
  rw [lg_entry_eq]
  generalize (lg_sl ([.ref d, .int r]) ++ List.replicate (3 - (lg_sl ([.ref d, .int r])).length) Slot.unset).toArray = ls at hl ⊢
  have hl : lv_has ls 3 [(0, .ref d), (1, .int r)] := hl
  obtain ⟨fa, fo, R, nw, ew, hDR⟩ := hDk
  subst ew
  obtain ⟨hfo, hO⟩ := hDR.1 i hi
  have hP := wP_perm hP (wdk_perm G d np fa fo R nw hi)
  have hD := wD_perm hD (wdk_perm G d np fa fo R nw hi)
  obtain ⟨⟨o, ar, n, cap, f⟩, hRi⟩ : ∃ q : hR, q = R i := ⟨_, rfl⟩
  rw [← hRi] at hP hD hfo hO
  obtain ⟨rs, hrs⟩ : ∃ q : va_W, q = oth G R i ++ nw := ⟨_, rfl⟩
  rw [← hrs] at hP hD
  have hfo : fo i = some o := hfo
  have hcap : n ≤ cap ∧ 16 ≤ cap ∧ cap ≤ 128 := hO.1
  have hP : va_P G.1 clz (ho_ o (cm_ G (dr_ i)) ar n :: oa_ G ar cap f :: dsk_ d fa np :: fil_ G fa fo :: rs) _ := hP
  have hD : va_D A (ho_ o (cm_ G (dr_ i)) ar n :: oa_ G ar cap f :: dsk_ d fa np :: fil_ G fa fo :: rs) := hD
  refine lv_aload_n hx hb dX1_takeLeast_0 rfl (lv_at hl 0 rfl) ?_
  refine va_get (D := G.1) (ci := 1) (v := .ref fa) (C := RX1) (T := TX1) (N := 2) hx hb hts in_X1 hown hE.1 hP 2 rfl rfl 0 (by decide) (hts _ q175) (fun _ h9 => h9) rfl dX1_takeLeast_1 ?_
  refine lv_iload_n hx hb dX1_takeLeast_4 rfl (lv_at hl 1 rfl) ?_
  refine lv_iconst (v := 3) hx hb dX1_takeLeast_5 (by decide) ?_
  refine lv_iand hx hb dX1_takeLeast_6 ?_
  refine lt_i (y := nI i) (hri) ?_
  refine va_aldq hx hb hE.1 hP 3 1 rfl rfl (vp_in_nI hi (by omega)) dX1_takeLeast_7 ?_
  refine lt_q (y := .ref o) (by rw [nI_clamp (by omega), hfo]; rfl) ?_
  refine lv_astore_n (lv' := [(2, .ref o), (0, .ref d), (1, .int r)]) hx hb dX1_takeLeast_8 rfl hl (by decide) rfl (fun ls hl => ?_)
  refine lv_aload_n hx hb dX1_takeLeast_9 rfl (lv_at hl 0 rfl) ?_
  have hc := cut_ (wc := [ho_ o (cm_ G (dr_ i)) ar n]) (wr := oa_ G ar cap f :: dsk_ d fa np :: fil_ G fa fo :: rs) hE hP hD hS hA (List.Perm.refl _)
  refine vp_callSi (va_Run.run (va_runU (C := RX4) (As := []) (rest := []) ⟨hx, hb, hml, hown, hts⟩ (mX2_isEmpty l G o ar n _ (cm_ G (dr_ i)) (by omega)) (va_cwU 0 hts (lw_U q317 q318 q320 q321 q4 q322) rfl rfl rfl rfl (by decide +kernel) ⟨Nat.le_of_ble_eq_true rfl, Nat.le_of_ble_eq_true rfl⟩) (Pw.preV hc no_bx (va_recv hE.1 hP (ci := 0) (q0 := 0) rfl rfl)) rfl rfl hl.1 rfl (lv_room (Nat.le_of_ble_eq_true rfl)) dX1_takeLeast_10 ⟨Nat.le_of_ble_eq_true rfl, Nat.le_of_ble_eq_true rfl⟩)) (fun x e_x => ?_)
  refine lv_if_eq (tgt := 18) hx hb dX1_takeLeast_13 (by decide) (fun c1 => ?_) (fun c1 => ?_)
  · have h0 : 1 ≤ n := Nat.pos_of_ne_zero (e_ne e_x c1)
    obtain ⟨val, L, h3, h4, h5, h6⟩ := hO.use
    obtain ⟨y, hy, ey⟩ := h4 1 (Nat.le_refl 1) h0
    obtain ⟨t9, e9⟩ := take_head h0 h3 hO.2.1 h6
    refine lv_aload_n hx hb dX1_takeLeast_18 rfl (lv_at hl 0 rfl) ?_
    have hc := cut_ (wc := hw_ G o (cm_ G (dr_ i)) ar n cap f) (wr := dsk_ d fa np :: fil_ G fa fo :: rs) hE hP hD hS hA (List.Perm.refl _)
    have hbx : ∀ z ∈ L, bx (va_A (hw_ G o (cm_ G (dr_ i)) ar n cap f) _) s _ z (val z) := fun z hz => isbox.out (wr := dsk_ d fa np :: fil_ G fa fo :: rs) ((h5 z hz).mono (fun q hq => List.mem_cons_of_mem _ (List.mem_cons_of_mem _ (by rw [hrs]; exact List.mem_append_right _ hq)))) hts hE hP hD hS hA (List.Perm.refl _)
    refine cq_ (va_runU (C := RX4) (As := []) (rest := []) ⟨hx, hb, hml, hown, hts⟩ (mX3_deleteMin l G (dr_ i) val L o ar n cap _ f h0 hcap.1 hcap.2.1 hcap.2.2 h4 h3) (va_cwU 0 hts (lw_U q354 q355 q357 q358 q5 q359) rfl rfl rfl rfl (by decide +kernel) ⟨Nat.le_of_ble_eq_true rfl, Nat.le_of_ble_eq_true rfl⟩) (Pw.preV hc hbx (va_recv hE.1 hP (ci := 0) (q0 := 0) rfl rfl)) rfl rfl hl.1 rfl (lv_room (Nat.le_of_ble_eq_true rfl)) dX1_takeLeast_19 ⟨Nat.le_of_ble_eq_true rfl, Nat.le_of_ble_eq_true rfl⟩) hP hD hS hc (List.Perm.refl _) (fun x2 u H locs hq hP hD hS => ?_)
    obtain ⟨ar2, cap2, f2⟩ := u
    obtain ⟨e_x2, hc2, hp2, hF2⟩ := hq
    have hc2 : n - 1 ≤ cap2 ∧ 16 ≤ cap2 ∧ cap2 ≤ 128 := hc2
    refine lt_q (y := .ref y) (by rw [e_x2, ey]; rfl) ?_
    have hP : va_P G.1 clz (ho_ o (cm_ G (dr_ i)) ar2 (n - 1) :: oa_ G ar2 cap2 f2 :: dsk_ d fa np :: fil_ G fa fo :: rs) _ := hP
    have hD : va_D A (ho_ o (cm_ G (dr_ i)) ar2 (n - 1) :: oa_ G ar2 cap2 f2 :: dsk_ d fa np :: fil_ G fa fo :: rs) := hD
    have hbx2 : bx0 s _ y (val y) := ((h5 y hy).mono (fun q hq => mem4 (by rw [hrs]; exact List.mem_append_right _ hq))).now hts (hE.kept hS.2.1) hP
    refine va_castE hx hb hown (hts _ q255) (bx.recv hbx2) dX1_takeLeast_22 ?_
    refine vp_callSi (va_Run.run (va_runV (As := []) (rest := []) ⟨hx, hb, hml, hown, hts⟩ (mJ7_intValue l y (val y)) (cwV 0 hts (lw_V q256 q257 q258 q14 q259) rfl rfl rfl (by decide +kernel) ⟨Nat.le_of_ble_eq_true rfl, Nat.le_of_ble_eq_true rfl⟩) (Pb.preV (one_bx hbx2) (bx.recv hbx2)) rfl rfl hl.1 rfl (lv_room (Nat.le_of_ble_eq_true rfl)) dX1_takeLeast_25 ⟨Nat.le_of_ble_eq_true rfl, Nat.le_of_ble_eq_true rfl⟩)) (fun x3 e_x3 => ?_)
    subst x3
    have hO2 : HO G nw i (o, ar2, n - 1, cap2, f2) t9 := HO.take o ar2 h0 hc2 hp2 h4 h5 (by rw [← e9]; exact hO.2.1) (by rw [← e9]; exact h6) hF2
    rw [hrs] at hP hD
    have hP := wP_perm hP (wdk_back G d np fa fo R nw hi (o, ar2, n - 1, cap2, f2))
    have hD := wD_perm hD (wdk_back G d np fa fo R nw hi (o, ar2, n - 1, cap2, f2))
    have hDR2 : DkR G np (va_up C i t9) fo (va_up R i (o, ar2, n - 1, cap2, f2)) nw := hDR.put hi (fun _ h => h) hO2 hfo (fun _ _ => rfl) (by have h1 := tl_up C hi t9; have h2 := hDR.2.1; rw [e9, List.length_cons] at h1; omega) hDR.2.2
    exact W.iret (v := val y) hx hb hr (fun t ht hW => ⟨⟨val y, _, rfl, ⟨by rw [e9, ey]; rfl, fa, fo, _, nw, rfl, by rw [e9]; exact hDR2⟩, by rw [ht]; exact hP, hD⟩, hS.F ht⟩) hS.2.2 dX1_takeLeast_28
  · refine lv_iconst (v := (-1)) hx hb dX1_takeLeast_16 (by decide) ?_
    have e9 : C i = [] := hO.zero (e_eq e_x c1)
    rw [hrs] at hP hD
    have hP := wP_perm hP (wdk_back G d np fa fo R nw hi (o, ar, n, cap, f))
    have hD := wD_perm hD (wdk_back G d np fa fo R nw hi (o, ar, n, cap, f))
    have hDR2 : DkR G np (va_up C i (C i).tail) fo (va_up R i (o, ar, n, cap, f)) nw := hDR.put hi (fun _ h => h) (by rw [e9]; rw [e9] at hO; exact hO) hfo (fun _ _ => rfl) (by have h1 := tl_up C hi (C i).tail; have h2 := hDR.2.1; rw [e9] at h1 ⊢; rw [List.tail_nil] at h1 ⊢; omega) hDR.2.2
    refine W.widen (k := 1) (n := 129) (Nat.le_of_ble_eq_true rfl) (Nat.le_of_ble_eq_true rfl) ?_
    exact W.iret (v := -1) hx hb hr (fun t ht hW => ⟨⟨-1, _, rfl, ⟨by rw [e9]; rfl, fa, fo, _, nw, rfl, hDR2⟩, by rw [ht]; exact hP, hD⟩, hS.F ht⟩) hS.2.2 dX1_takeLeast_17
set_option maxHeartbeats 4000000 in
set_option maxRecDepth 100000 in
/-- put(r, k), when fewer than 64 keys were put -/
theorem mX1_put (l : Launch) (G : gT) (d np sz i : Nat) (C : Nat → List Int32) (w : va_W) (r k : Int32) (hi : i < 4) (hri : r &&& 3 = nI i) (hp : np < 64) (hDk : Dk G d np C w) : Met l yX1_put (ws_ yX1_put cX1_put 3 (some .boolean)) (rm_ 5 2 130 109) (Pw G (fun _ => 0) [] [.ref d, .int r, .int k] sz w) (va_Qi (fun (x : Int32) (u : va_W) => x = 1 ∧ ∃ Ci, Dk G d (np + 1) (va_up C i Ci) u ∧ Ci.Perm ((k &&& 65535) :: C i)) (Bw G (va_A w sz) (fun u => u)) (va_A w sz)) 2 130 (va_A w sz) := by
  refine Met.ofW (cc := cX1_put) (maxL := 3) (ret := some .boolean) (by decide) rfl ?_
  intro p e s m args below meth c s₁ B hml hv
  obtain ⟨rfl, hsz, hP, hD0, hE, hB⟩ := hv
  have hx := B.exec
  have hb := B.bytes
  have hr := B.returns
  have hts := atoms_spec (ws := ws_ yX1_put cX1_put 3 (some .boolean)) B.pre
  have hts : ∀ w ∈ lw_all, w.before _ s = true := fun w h => hts w (List.mem_cons_of_mem _ h)
  have hown : s.vm.findClass RX1 = some m.cls := findClass_of_methodNamed B.named
  have hlocks := B.notSynchronized
  subst hsz
  have hD := hD0.self (sz := s.heap.size)
  generalize hAe : va_A (w) s.heap.size = A at hD hE hB ⊢
  have hA : ∀ q : Nat, s.heap.size ≤ q → A q := fun q h => by rw [← hAe]; exact Or.inr h
  have hS : va_S A s.heap s.heap [] := va_S.rf
  have hl := lv_entry ([.ref d, .int r, .int k]) (n := 3) (Nat.le_of_ble_eq_true rfl)
  rw [lg_entry_eq]
  generalize (lg_sl ([.ref d, .int r, .int k]) ++ List.replicate (3 - (lg_sl ([.ref d, .int r, .int k])).length) Slot.unset).toArray = ls at hl ⊢
  have hl : lv_has ls 3 [(0, .ref d), (1, .int r), (2, .int k)] := hl
  obtain ⟨fa, fo, R, nw, ew, hDR⟩ := hDk
  subst ew
  obtain ⟨hfo, hO⟩ := hDR.1 i hi
  have hP := wP_perm hP (wdk_perm G d np fa fo R nw hi)
  have hD := wD_perm hD (wdk_perm G d np fa fo R nw hi)
  obtain ⟨⟨o, ar, n, cap, f⟩, hRi⟩ : ∃ q : hR, q = R i := ⟨_, rfl⟩
  rw [← hRi] at hP hD hfo hO
  obtain ⟨rs, hrs⟩ : ∃ q : va_W, q = oth G R i ++ nw := ⟨_, rfl⟩
  rw [← hrs] at hP hD
  have hfo : fo i = some o := hfo
  have hcap : n ≤ cap ∧ 16 ≤ cap ∧ cap ≤ 128 := hO.1
  have hP : va_P G.1 clz (ho_ o (cm_ G (dr_ i)) ar n :: oa_ G ar cap f :: dsk_ d fa np :: fil_ G fa fo :: rs) _ := hP
  have hD : va_D A (ho_ o (cm_ G (dr_ i)) ar n :: oa_ G ar cap f :: dsk_ d fa np :: fil_ G fa fo :: rs) := hD
  refine lv_aload_n hx hb dX1_put_0 rfl (lv_at hl 0 rfl) ?_
  refine va_get (D := G.1) (ci := 1) (v := .int (nI np)) (C := RX1) (T := TX1) (N := 2) hx hb hts in_X1 hown hE.1 hP 2 rfl rfl 1 (by decide) (hts _ q176) (fun _ h9 => h9) rfl dX1_put_1 ?_
  refine lv_bipush (v := 64) hx hb dX1_put_4 (by decide) ?_
  refine lv_icmp_lt (tgt := 11) hx hb dX1_put_6 (by decide) (fun c1 => ?_) (fun c1 => ?_)
  · refine lv_aload_n hx hb dX1_put_11 rfl (lv_at hl 0 rfl) ?_
    refine lv_dup hx hb dX1_put_12 rfl ?_
    refine va_get (D := G.1) (ci := 1) (v := .int (nI np)) (C := RX1) (T := TX1) (N := 2) hx hb hts in_X1 hown hE.1 hP 2 rfl rfl 1 (by decide) (hts _ q176) (fun _ h9 => h9) rfl dX1_put_13 ?_
    refine lv_iconst (v := 1) hx hb dX1_put_16 (by decide) ?_
    refine lv_iadd hx hb dX1_put_17 ?_
    refine lt_i (y := nI (np + 1)) (nI_1 np) ?_
    refine va_put (D := G.1) (ci := 1) (v := .int (nI (np + 1))) (ty := .int) (C := RX1) (T := TX1) (N := 2) hx hb hts in_X1 tyX1 tyX1_ok nmX1 hown hE.1 hP hD hS 2 rfl rfl 1 (by decide) (hts _ q176) (fun _ h9 => h9) rfl (by decide +kernel) (rfl) (rfl) (Nat.le_of_ble_eq_true rfl) dX1_put_18 (fun H locs hP hD hS => ?_)
    have hP : va_P G.1 clz (ho_ o (cm_ G (dr_ i)) ar n :: oa_ G ar cap f :: dsk_ d fa (np + 1) :: fil_ G fa fo :: rs) _ := hP
    have hD : va_D A (ho_ o (cm_ G (dr_ i)) ar n :: oa_ G ar cap f :: dsk_ d fa (np + 1) :: fil_ G fa fo :: rs) := hD
    refine lv_aload_n hx hb dX1_put_21 rfl (lv_at hl 0 rfl) ?_
    refine va_get (D := G.1) (ci := 1) (v := .ref fa) (C := RX1) (T := TX1) (N := 2) hx hb hts in_X1 hown hE.1 hP 2 rfl rfl 0 (by decide) (hts _ q175) (fun _ h9 => h9) rfl dX1_put_22 ?_
    refine lv_iload_n hx hb dX1_put_25 rfl (lv_at hl 1 rfl) ?_
    refine lv_iconst (v := 3) hx hb dX1_put_26 (by decide) ?_
    refine lv_iand hx hb dX1_put_27 ?_
    refine lt_i (y := nI i) (hri) ?_
    refine va_aldq hx hb hE.1 hP 3 1 rfl rfl (vp_in_nI hi (by omega)) dX1_put_28 ?_
    refine lt_q (y := .ref o) (by rw [nI_clamp (by omega), hfo]; rfl) ?_
    refine lv_iload_n hx hb dX1_put_29 rfl (lv_at hl 2 rfl) ?_
    refine lv_ldc (v := 65535) hx hb hown (hts _ q186) dX1_put_30 ?_
    refine lv_iand hx hb dX1_put_32 ?_
    have hc := cut_ (wc := []) hE hP hD hS hA (List.Perm.refl _)
    refine cb_ (va_runS (As := [.int (k &&& 65535)]) (rest := [.ref o]) ⟨hx, hb, hml, hown, hts⟩ (mJ7_valueOf l G _ (k &&& 65535)) (va_cwS 1 hts (lw_S q187 q188 q14 q189) rfl rfl rfl (by decide +kernel) ⟨Nat.le_of_ble_eq_true rfl, Nat.le_of_ble_eq_true rfl⟩) (Pw.pre hc no_bx) rfl rfl hl.1 rfl (lv_room (Nat.le_of_ble_eq_true rfl)) dX1_put_33 ⟨Nat.le_of_ble_eq_true rfl, Nat.le_of_ble_eq_true rfl⟩) hP hD hS hc (fun u y H locs _ hby hP hD hS => ?_)
    have hP : va_P G.1 clz (ho_ o (cm_ G (dr_ i)) ar n :: oa_ G ar cap f :: dsk_ d fa (np + 1) :: fil_ G fa fo :: (rs ++ u)) _ := hP
    have hD : va_D A (ho_ o (cm_ G (dr_ i)) ar n :: oa_ G ar cap f :: dsk_ d fa (np + 1) :: fil_ G fa fo :: (rs ++ u)) := hD
    have hsub : ∀ q ∈ nw ++ u, q ∈ rs ++ u := by
      intro q hq
      rw [hrs]
      rcases List.mem_append.mp hq with h9 | h9
      · exact List.mem_append_left _ (List.mem_append_right _ h9)
      · exact List.mem_append_right _ h9
    obtain ⟨val, L, h3, h4, h5, hyL, hyv, h6⟩ := hO.ins (nw2 := nw ++ u) (fun q hq => List.mem_append_left _ hq) (hby.mono (fun q hq => List.mem_append_right _ hq)) (isbox.uniq hts (hE.kept hS.2.1) hP (fun q hq => mem4 (hsub q hq)))
    have hnl : n = (C i).length := hO.len
    have htl := tl_ge C hi
    have hdr := hDR.2
    have hc := cut_ (wc := hw_ G o (cm_ G (dr_ i)) ar n cap f) (wr := dsk_ d fa (np + 1) :: fil_ G fa fo :: (rs ++ u)) hE hP hD hS hA (List.Perm.refl _)
    have hbx : ∀ z ∈ L, bx (va_A (hw_ G o (cm_ G (dr_ i)) ar n cap f) _) s _ z (val z) := fun z hz => isbox.out (wr := dsk_ d fa (np + 1) :: fil_ G fa fo :: (rs ++ u)) ((h5 z hz).mono (fun q hq => List.mem_cons_of_mem _ (List.mem_cons_of_mem _ (hsub q hq)))) hts hE hP hD hS hA (List.Perm.refl _)
    refine cv_ (va_runU (C := RX4) (As := [.ref y]) (rest := []) ⟨hx, hb, hml, hown, hts⟩ (mX3_insert l G (dr_ i) val L o y ar n cap _ f hcap.1 hcap.2.1 hcap.2.2 (by omega) hyL h4 h3) (va_cwU 1 hts (lw_U q207 q208 q210 q211 q5 q212) rfl rfl rfl rfl (by decide +kernel) ⟨Nat.le_of_ble_eq_true rfl, Nat.le_of_ble_eq_true rfl⟩) (Pw.preV hc hbx (va_recv hE.1 hP (ci := 0) (q0 := 0) rfl rfl)) rfl rfl hl.1 rfl (lv_room (Nat.le_of_ble_eq_true rfl)) dX1_put_36 ⟨Nat.le_of_ble_eq_true rfl, Nat.le_of_ble_eq_true rfl⟩) hP hD hS hc (List.Perm.refl _) (fun u2 H locs hq hP hD hS => ?_)
    obtain ⟨ar2, cap2, f2⟩ := u2
    obtain ⟨hc2, hp2, hF2⟩ := hq
    have hc2 : n + 1 ≤ cap2 ∧ 16 ≤ cap2 ∧ cap2 ≤ 128 := hc2
    have hP : va_P G.1 clz (ho_ o (cm_ G (dr_ i)) ar2 (n + 1) :: oa_ G ar2 cap2 f2 :: dsk_ d fa (np + 1) :: fil_ G fa fo :: (rs ++ u)) _ := hP
    have hD : va_D A (ho_ o (cm_ G (dr_ i)) ar2 (n + 1) :: oa_ G ar2 cap2 f2 :: dsk_ d fa (np + 1) :: fil_ G fa fo :: (rs ++ u)) := hD
    obtain ⟨Ci, hO2, hpm⟩ := HO.mk (G := G) (nw := nw ++ u) (i := i) o ar2 hc2 hp2 hF2 (put_S h4 hyL) h5 (K := (k &&& 65535) :: C i) (by rw [List.map_cons, show kv_ val (some y) = k &&& 65535 from hyv]; exact List.Perm.cons _ h6)
    have hln := hpm.length_eq
    rw [List.length_cons] at hln
    rw [hrs, List.append_assoc] at hP hD
    have hP := wP_perm hP (wdk_back G d (np + 1) fa fo R (nw ++ u) hi (o, ar2, n + 1, cap2, f2))
    have hD := wD_perm hD (wdk_back G d (np + 1) fa fo R (nw ++ u) hi (o, ar2, n + 1, cap2, f2))
    have hDR2 : DkR G (np + 1) (va_up C i Ci) fo (va_up R i (o, ar2, n + 1, cap2, f2)) (nw ++ u) := hDR.put hi (fun q h => List.mem_append_left _ h) hO2 hfo (fun _ _ => rfl) (by have h1 := tl_up C hi Ci; omega) (by omega)
    refine lv_iconst (v := 1) hx hb dX1_put_39 (by decide) ?_
    exact W.zret (v := 1) hx hb hr rfl (fun t ht hW => ⟨⟨1, _, rfl, ⟨rfl, Ci, ⟨fa, fo, _, nw ++ u, rfl, hDR2⟩, hpm⟩, by rw [ht]; exact hP, hD⟩, hS.F ht⟩) hS.2.2 dX1_put_40
  · exact absurd (nI_lt (b := 64) hp (by omega)) c1
set_option maxHeartbeats 4000000 in
set_option maxRecDepth 100000 in
/-- put(r, k), when 64 keys were put -/
theorem mX1_put0 (l : Launch) (G : gT) (d np sz : Nat) (C : Nat → List Int32) (w : va_W) (r k : Int32) (hp : 64 ≤ np) (hDk : Dk G d np C w) : Met l yX1_put (ws_ yX1_put cX1_put 3 (some .boolean)) (rm_ 5 0 0 109) (Pw G (fun _ => 0) [] [.ref d, .int r, .int k] sz w) (vp_Si (fun x => x = 0)) 0 0 (fun _ => False) := by
  refine Met.ofW (cc := cX1_put) (maxL := 3) (ret := some .boolean) (by decide) rfl ?_
  intro p e s m args below meth c s₁ B hml hv
  obtain ⟨rfl, hsz, hP, hD0, hE, hB⟩ := hv
  have hx := B.exec
  have hb := B.bytes
  have hr := B.returns
  have hts := atoms_spec (ws := ws_ yX1_put cX1_put 3 (some .boolean)) B.pre
  have hts : ∀ w ∈ lw_all, w.before _ s = true := fun w h => hts w (List.mem_cons_of_mem _ h)
  have hown : s.vm.findClass RX1 = some m.cls := findClass_of_methodNamed B.named
  have hlocks := B.notSynchronized
  subst hsz
  have hD := hD0.self (sz := s.heap.size)
  generalize hAe : va_A (w) s.heap.size = A at hD hE hB ⊢
  have hA : ∀ q : Nat, s.heap.size ≤ q → A q := fun q h => by rw [← hAe]; exact Or.inr h
  have hS : va_S A s.heap s.heap [] := va_S.rf
  have hl := lv_entry ([.ref d, .int r, .int k]) (n := 3) (Nat.le_of_ble_eq_true rfl)
  rw [lg_entry_eq]
  generalize (lg_sl ([.ref d, .int r, .int k]) ++ List.replicate (3 - (lg_sl ([.ref d, .int r, .int k])).length) Slot.unset).toArray = ls at hl ⊢
  have hl : lv_has ls 3 [(0, .ref d), (1, .int r), (2, .int k)] := hl
  obtain ⟨fa, fo, R, nw, ew, hDR⟩ := hDk
  subst ew
  have hP : va_P G.1 clz (wdk G d np fa fo R nw) _ := hP
  have hD : va_D A (wdk G d np fa fo R nw) := hD
  refine lv_aload_n hx hb dX1_put_0 rfl (lv_at hl 0 rfl) ?_
  refine va_get (D := G.1) (ci := 1) (v := .int (nI np)) (C := RX1) (T := TX1) (N := 2) hx hb hts in_X1 hown hE.1 hP 0 rfl rfl 1 (by decide) (hts _ q176) (fun _ h9 => h9) rfl dX1_put_1 ?_
  refine lv_bipush (v := 64) hx hb dX1_put_4 (by decide) ?_
  refine lv_icmp_lt (tgt := 11) hx hb dX1_put_6 (by decide) (fun c1 => ?_) (fun c1 => ?_)
  · exact absurd c1 (nI_nlt (b := 64) hp (by have := hDR.2.2; omega))
  · refine lv_iconst (v := 0) hx hb dX1_put_9 (by decide) ?_
    exact W.zret (v := 0) hx hb hr rfl (fun t ht hW => ⟨0, rfl, rfl, ht⟩) no_loc dX1_put_10
set_option maxHeartbeats 4000000 in
set_option maxRecDepth 100000 in
/-- four(..), when more than 60 keys were put -/
theorem mX1_four0 (l : Launch) (G : gT) (d np sz : Nat) (C : Nat → List Int32) (w : va_W) (r k0 k1 k2 k3 : Int32) (hp : 60 < np) (hDk : Dk G d np C w) : Met l yX1_four (ws_ yX1_four cX1_four 8 (some .boolean)) (rm_ 5 0 0 112) (Pw G (fun _ => 0) [] [.ref d, .int r, .int k0, .int k1, .int k2, .int k3] sz w) (vp_Si (fun x => x = 0)) 0 0 (fun _ => False) := by
  refine Met.ofW (cc := cX1_four) (maxL := 8) (ret := some .boolean) (by decide) rfl ?_
  intro p e s m args below meth c s₁ B hml hv
  obtain ⟨rfl, hsz, hP, hD0, hE, hB⟩ := hv
  have hx := B.exec
  have hb := B.bytes
  have hr := B.returns
  have hts := atoms_spec (ws := ws_ yX1_four cX1_four 8 (some .boolean)) B.pre
  have hts : ∀ w ∈ lw_all, w.before _ s = true := fun w h => hts w (List.mem_cons_of_mem _ h)
  have hown : s.vm.findClass RX1 = some m.cls := findClass_of_methodNamed B.named
  have hlocks := B.notSynchronized
  subst hsz
  have hD := hD0.self (sz := s.heap.size)
  generalize hAe : va_A (w) s.heap.size = A at hD hE hB ⊢
  have hA : ∀ q : Nat, s.heap.size ≤ q → A q := fun q h => by rw [← hAe]; exact Or.inr h
  have hS : va_S A s.heap s.heap [] := va_S.rf
  have hl := lv_entry ([.ref d, .int r, .int k0, .int k1, .int k2, .int k3]) (n := 8) (Nat.le_of_ble_eq_true rfl)
  rw [lg_entry_eq]
  generalize (lg_sl ([.ref d, .int r, .int k0, .int k1, .int k2, .int k3]) ++ List.replicate (8 - (lg_sl ([.ref d, .int r, .int k0, .int k1, .int k2, .int k3])).length) Slot.unset).toArray = ls at hl ⊢
  have hl : lv_has ls 8 [(0, .ref d), (1, .int r), (2, .int k0), (3, .int k1), (4, .int k2), (5, .int k3)] := hl
  obtain ⟨fa, fo, R, nw, ew, hDR⟩ := hDk
  subst ew
  have hP : va_P G.1 clz (wdk G d np fa fo R nw) _ := hP
  have hD : va_D A (wdk G d np fa fo R nw) := hD
  refine lv_aload_n hx hb dX1_four_0 rfl (lv_at hl 0 rfl) ?_
  refine va_get (D := G.1) (ci := 1) (v := .int (nI np)) (C := RX1) (T := TX1) (N := 2) hx hb hts in_X1 hown hE.1 hP 0 rfl rfl 1 (by decide) (hts _ q176) (fun _ h9 => h9) rfl dX1_four_1 ?_
  refine lv_bipush (v := 60) hx hb dX1_four_4 (by decide) ?_
  refine lv_icmp_le (tgt := 11) hx hb dX1_four_6 (by decide) (fun c1 => ?_) (fun c1 => ?_)
  · exact absurd ((nI_leI (b := 60) (by have := hDR.2.2; omega) (by omega)).mp c1) (by omega)
  · refine lv_iconst (v := 0) hx hb dX1_four_9 (by decide) ?_
    exact W.zret (v := 0) hx hb hr rfl (fun t ht hW => ⟨0, rfl, rfl, ht⟩) no_loc dX1_four_10
theorem four_val {G : gT} {nw : va_W} {y0 y1 y2 y3 : Nat} {a0 a1 a2 a3 : Int32} (hu : ∀ z a b, isbox G nw z a → isbox G nw z b → a = b) (m0 : isbox G nw y0 a0) (m1 : isbox G nw y1 a1) (m2 : isbox G nw y2 a2) (m3 : isbox G nw y3 a3) : ∃ val : Nat → Int32, val y0 = a0 ∧ val y1 = a1 ∧ val y2 = a2 ∧ val y3 = a3 := by
  have hy : ∀ j, j < 4 → isbox G nw ((fun j : Nat => match j with | 0 => y0 | 1 => y1 | 2 => y2 | _ => y3) j) ((fun j : Nat => match j with | 0 => a0 | 1 => a1 | 2 => a2 | _ => a3) j) := fun j hj => lt4 (P := fun j => isbox G nw ((fun j : Nat => match j with | 0 => y0 | 1 => y1 | 2 => y2 | _ => y3) j) ((fun j : Nat => match j with | 0 => a0 | 1 => a1 | 2 => a2 | _ => a3) j)) hj m0 m1 m2 m3
  obtain ⟨val, hv⟩ := vals_of (N := 4) (y := fun j : Nat => match j with | 0 => y0 | 1 => y1 | 2 => y2 | _ => y3) (v := fun j : Nat => match j with | 0 => a0 | 1 => a1 | 2 => a2 | _ => a3) (fun a b ha hb e => hu _ _ _ (hy a ha) (Eq.mpr (congrArg (fun z => isbox G nw z _) e) (hy b hb)))
  exact ⟨val, hv 0 (by decide), hv 1 (by decide), hv 2 (by decide), hv 3 (by decide)⟩
theorem pw_drop {G : gT} {a b t : va_W} {H : Heap} (h : va_P G.1 clz (a ++ (b ++ t)) H) : va_P G.1 clz (a ++ t) H := wP_iff.mpr fun q hq => wP_iff.mp h q (by
  rcases List.mem_append.mp hq with h1 | h1
  · exact List.mem_append_left _ h1
  · exact List.mem_append_right _ (List.mem_append_right _ h1))
theorem dw_drop {A : Nat → Prop} {a b t : va_W} (h : va_D A (a ++ (b ++ t))) : va_D A (a ++ t) := wD_right (wc := b) (wD_perm h pm_3)
set_option maxHeartbeats 4000000 in
set_option maxRecDepth 100000 in
/-- four(..), when at most 60 keys were put -/
theorem mX1_four (l : Launch) (G : gT) (d np sz i : Nat) (C : Nat → List Int32) (w : va_W) (r k0 k1 k2 k3 : Int32) (hi : i < 4) (hri : r &&& 3 = nI i) (hp : np ≤ 60) (hDk : Dk G d np C w) : Met l yX1_four (ws_ yX1_four cX1_four 8 (some .boolean)) (rm_ 5 7 29 112) (Pw G (fun _ => 0) [] [.ref d, .int r, .int k0, .int k1, .int k2, .int k3] sz w) (va_Qi (fun (x : Int32) (u : va_W) => x = 1 ∧ ∃ Ci, Dk G d (np + 4) (va_up C i Ci) u ∧ Ci.Perm [k0 &&& 65535, k1 &&& 65535, k2 &&& 65535, k3 &&& 65535]) (Bw G (va_A w sz) (fun u => u)) (va_A w sz)) 7 29 (va_A w sz) := by
  refine Met.ofW (cc := cX1_four) (maxL := 8) (ret := some .boolean) (by decide) rfl ?_
  intro p e s m args below meth c s₁ B hml hv
  obtain ⟨rfl, hsz, hP, hD0, hE, hB⟩ := hv
  have hx := B.exec
  have hb := B.bytes
  have hr := B.returns
  have hts := atoms_spec (ws := ws_ yX1_four cX1_four 8 (some .boolean)) B.pre
  have hts : ∀ w ∈ lw_all, w.before _ s = true := fun w h => hts w (List.mem_cons_of_mem _ h)
  have hown : s.vm.findClass RX1 = some m.cls := findClass_of_methodNamed B.named
  have hlocks := B.notSynchronized
  subst hsz
  have hD := hD0.self (sz := s.heap.size)
  generalize hAe : va_A (w) s.heap.size = A at hD hE hB ⊢
  have hA : ∀ q : Nat, s.heap.size ≤ q → A q := fun q h => by rw [← hAe]; exact Or.inr h
  have hS : va_S A s.heap s.heap [] := va_S.rf
  have hl := lv_entry ([.ref d, .int r, .int k0, .int k1, .int k2, .int k3]) (n := 8) (Nat.le_of_ble_eq_true rfl)
  rw [lg_entry_eq]
  generalize (lg_sl ([.ref d, .int r, .int k0, .int k1, .int k2, .int k3]) ++ List.replicate (8 - (lg_sl ([.ref d, .int r, .int k0, .int k1, .int k2, .int k3])).length) Slot.unset).toArray = ls at hl ⊢
  have hl : lv_has ls 8 [(0, .ref d), (1, .int r), (2, .int k0), (3, .int k1), (4, .int k2), (5, .int k3)] := hl
  obtain ⟨fa, fo, R, nw, ew, hDR⟩ := hDk
  subst ew
  obtain ⟨hfo, hO⟩ := hDR.1 i hi
  have hP := wP_perm hP (wdk_perm G d np fa fo R nw hi)
  have hD := wD_perm hD (wdk_perm G d np fa fo R nw hi)
  obtain ⟨⟨o, ar, n, cap, f⟩, hRi⟩ : ∃ q : hR, q = R i := ⟨_, rfl⟩
  rw [← hRi] at hP hD hfo hO
  obtain ⟨rs, hrs⟩ : ∃ q : va_W, q = oth G R i ++ nw := ⟨_, rfl⟩
  rw [← hrs] at hP hD
  have hfo : fo i = some o := hfo
  have hcap : n ≤ cap ∧ 16 ≤ cap ∧ cap ≤ 128 := hO.1
  have hP : va_P G.1 clz (ho_ o (cm_ G (dr_ i)) ar n :: oa_ G ar cap f :: dsk_ d fa np :: fil_ G fa fo :: rs) _ := hP
  have hD : va_D A (ho_ o (cm_ G (dr_ i)) ar n :: oa_ G ar cap f :: dsk_ d fa np :: fil_ G fa fo :: rs) := hD
  refine lv_aload_n hx hb dX1_four_0 rfl (lv_at hl 0 rfl) ?_
  refine va_get (D := G.1) (ci := 1) (v := .int (nI np)) (C := RX1) (T := TX1) (N := 2) hx hb hts in_X1 hown hE.1 hP 2 rfl rfl 1 (by decide) (hts _ q176) (fun _ h9 => h9) rfl dX1_four_1 ?_
  refine lv_bipush (v := 60) hx hb dX1_four_4 (by decide) ?_
  refine lv_icmp_le (tgt := 11) hx hb dX1_four_6 (by decide) (fun c1 => ?_) (fun c1 => ?_)
  · refine lv_aload_n hx hb dX1_four_11 rfl (lv_at hl 0 rfl) ?_
    refine lv_dup hx hb dX1_four_12 rfl ?_
    refine va_get (D := G.1) (ci := 1) (v := .int (nI np)) (C := RX1) (T := TX1) (N := 2) hx hb hts in_X1 hown hE.1 hP 2 rfl rfl 1 (by decide) (hts _ q176) (fun _ h9 => h9) rfl dX1_four_13 ?_
    refine lv_iconst (v := 4) hx hb dX1_four_16 (by decide) ?_
    refine lv_iadd hx hb dX1_four_17 ?_
    refine lt_i (y := nI (np + 4)) (nn_a4 np) ?_
    refine va_put (D := G.1) (ci := 1) (v := .int (nI (np + 4))) (ty := .int) (C := RX1) (T := TX1) (N := 2) hx hb hts in_X1 tyX1 tyX1_ok nmX1 hown hE.1 hP hD hS 2 rfl rfl 1 (by decide) (hts _ q176) (fun _ h9 => h9) rfl (by decide +kernel) (rfl) (rfl) (Nat.le_of_ble_eq_true rfl) dX1_four_18 (fun H locs hP hD hS => ?_)
    have hP : va_P G.1 clz (ho_ o (cm_ G (dr_ i)) ar n :: oa_ G ar cap f :: dsk_ d fa (np + 4) :: fil_ G fa fo :: rs) _ := hP
    have hD : va_D A (ho_ o (cm_ G (dr_ i)) ar n :: oa_ G ar cap f :: dsk_ d fa (np + 4) :: fil_ G fa fo :: rs) := hD
    refine lv_iconst (v := 4) hx hb dX1_four_21 (by decide) ?_
    refine va_newq hx hb hown (hts _ q255) hE.2.1.1.2.2 hE.1 hP hD hS hA (N' := 4) (by decide) (by decide) (by decide) (Nat.le_of_ble_eq_true rfl) (Nat.le_of_ble_eq_true rfl) dX1_four_22 (fun rw9 cA H hK9 hP hD hS => ?_)
    have ecA : cA = gJ G := RA_uniq (hK9.2 5 (cA, .object "java/lang/Integer") rfl).2 (hE.1.2 2 (gJ G, .object "java/lang/Integer") rfl).2
    subst ecA
    have hP := wP_perm hP List.perm_append_comm
    have hD := wD_perm hD List.perm_append_comm
    have hP : va_P G.1 clz ((rw9, .inl (gJ G, 4, .inr (.inr (.inr (.inr (fun _ => none)))))) :: ho_ o (cm_ G (dr_ i)) ar n :: oa_ G ar cap f :: dsk_ d fa (np + 4) :: fil_ G fa fo :: rs) _ := hP
    have hD : va_D A ((rw9, .inl (gJ G, 4, .inr (.inr (.inr (.inr (fun _ => none)))))) :: ho_ o (cm_ G (dr_ i)) ar n :: oa_ G ar cap f :: dsk_ d fa (np + 4) :: fil_ G fa fo :: rs) := hD
    refine lv_dup hx hb dX1_four_25 rfl ?_
    refine lv_iconst (v := 0) hx hb dX1_four_26 (by decide) ?_
    refine lv_iload_n hx hb dX1_four_27 rfl (lv_at hl 2 rfl) ?_
    refine lv_ldc (v := 65535) hx hb hown (hts _ q186) dX1_four_28 ?_
    refine lv_iand hx hb dX1_four_30 ?_
    have hc := cut_ (wc := []) hE hP hD hS hA (List.Perm.refl _)
    refine cb_ (va_runS (As := [.int (k0 &&& 65535)]) (rest := [.int 0, .ref rw9, .ref rw9]) ⟨hx, hb, hml, hown, hts⟩ (mJ7_valueOf l G _ (k0 &&& 65535)) (va_cwS 1 hts (lw_S q187 q188 q14 q189) rfl rfl rfl (by decide +kernel) ⟨Nat.le_of_ble_eq_true rfl, Nat.le_of_ble_eq_true rfl⟩) (Pw.pre hc no_bx) rfl rfl hl.1 rfl (lv_room (Nat.le_of_ble_eq_true rfl)) dX1_four_31 ⟨Nat.le_of_ble_eq_true rfl, Nat.le_of_ble_eq_true rfl⟩) hP hD hS hc (fun u0 y0 H locs _ hb0 hP hD hS => ?_)
    have hP : va_P G.1 clz ((rw9, .inl (gJ G, 4, .inr (.inr (.inr (.inr (fun _ => none)))))) :: ho_ o (cm_ G (dr_ i)) ar n :: oa_ G ar cap f :: dsk_ d fa (np + 4) :: fil_ G fa fo :: (rs ++ u0)) _ := hP
    have hD : va_D A ((rw9, .inl (gJ G, 4, .inr (.inr (.inr (.inr (fun _ => none)))))) :: ho_ o (cm_ G (dr_ i)) ar n :: oa_ G ar cap f :: dsk_ d fa (np + 4) :: fil_ G fa fo :: (rs ++ u0)) := hD
    have hr0 := ((hb0.mono (fun q hq => List.mem_cons_of_mem _ (mem4 (List.mem_append_right _ hq)))).now hts (hE.kept hS.2.1) hP).recv
    refine vb_astq (E := "java/lang/Integer") (C := "java/lang/Integer") hx hb hE.1 hP hD hS 0 2 rfl rfl hr0 (fun c1 c2 => vb_asgS c1 c2) (vp_in_nI (n := 0) (by decide) (by decide)) dX1_four_34 (fun H locs hP hD hS => ?_)
    rw [show (0 : Int32).toNatClampNeg = 0 from by decide] at hP hD
    have hP : va_P G.1 clz ((rw9, .inl (gJ G, 4, .inr (.inr (.inr (.inr (va_up (fun _ => none) 0 (some y0))))))) :: ho_ o (cm_ G (dr_ i)) ar n :: oa_ G ar cap f :: dsk_ d fa (np + 4) :: fil_ G fa fo :: (rs ++ u0)) _ := hP
    have hD : va_D A ((rw9, .inl (gJ G, 4, .inr (.inr (.inr (.inr (va_up (fun _ => none) 0 (some y0))))))) :: ho_ o (cm_ G (dr_ i)) ar n :: oa_ G ar cap f :: dsk_ d fa (np + 4) :: fil_ G fa fo :: (rs ++ u0)) := hD
    refine lv_dup hx hb dX1_four_35 rfl ?_
    refine lv_iconst (v := 1) hx hb dX1_four_36 (by decide) ?_
    refine lv_iload_n hx hb dX1_four_37 rfl (lv_at hl 3 rfl) ?_
    refine lv_ldc (v := 65535) hx hb hown (hts _ q186) dX1_four_38 ?_
    refine lv_iand hx hb dX1_four_40 ?_
    have hc := cut_ (wc := []) hE hP hD hS hA (List.Perm.refl _)
    refine cb_ (va_runS (As := [.int (k1 &&& 65535)]) (rest := [.int 1, .ref rw9, .ref rw9]) ⟨hx, hb, hml, hown, hts⟩ (mJ7_valueOf l G _ (k1 &&& 65535)) (va_cwS 1 hts (lw_S q187 q188 q14 q189) rfl rfl rfl (by decide +kernel) ⟨Nat.le_of_ble_eq_true rfl, Nat.le_of_ble_eq_true rfl⟩) (Pw.pre hc no_bx) rfl rfl hl.1 rfl (lv_room (Nat.le_of_ble_eq_true rfl)) dX1_four_41 ⟨Nat.le_of_ble_eq_true rfl, Nat.le_of_ble_eq_true rfl⟩) hP hD hS hc (fun u1 y1 H locs _ hb1 hP hD hS => ?_)
    have hP : va_P G.1 clz ((rw9, .inl (gJ G, 4, .inr (.inr (.inr (.inr (va_up (fun _ => none) 0 (some y0))))))) :: ho_ o (cm_ G (dr_ i)) ar n :: oa_ G ar cap f :: dsk_ d fa (np + 4) :: fil_ G fa fo :: ((rs ++ u0) ++ u1)) _ := hP
    have hD : va_D A ((rw9, .inl (gJ G, 4, .inr (.inr (.inr (.inr (va_up (fun _ => none) 0 (some y0))))))) :: ho_ o (cm_ G (dr_ i)) ar n :: oa_ G ar cap f :: dsk_ d fa (np + 4) :: fil_ G fa fo :: ((rs ++ u0) ++ u1)) := hD
    have hr1 := ((hb1.mono (fun q hq => List.mem_cons_of_mem _ (mem4 (List.mem_append_right _ hq)))).now hts (hE.kept hS.2.1) hP).recv
    refine vb_astq (E := "java/lang/Integer") (C := "java/lang/Integer") hx hb hE.1 hP hD hS 0 2 rfl rfl hr1 (fun c1 c2 => vb_asgS c1 c2) (vp_in_nI (n := 1) (by decide) (by decide)) dX1_four_44 (fun H locs hP hD hS => ?_)
    rw [show (1 : Int32).toNatClampNeg = 1 from by decide] at hP hD
    have hP : va_P G.1 clz ((rw9, .inl (gJ G, 4, .inr (.inr (.inr (.inr (va_up (va_up (fun _ => none) 0 (some y0)) 1 (some y1))))))) :: ho_ o (cm_ G (dr_ i)) ar n :: oa_ G ar cap f :: dsk_ d fa (np + 4) :: fil_ G fa fo :: ((rs ++ u0) ++ u1)) _ := hP
    have hD : va_D A ((rw9, .inl (gJ G, 4, .inr (.inr (.inr (.inr (va_up (va_up (fun _ => none) 0 (some y0)) 1 (some y1))))))) :: ho_ o (cm_ G (dr_ i)) ar n :: oa_ G ar cap f :: dsk_ d fa (np + 4) :: fil_ G fa fo :: ((rs ++ u0) ++ u1)) := hD
    refine lv_dup hx hb dX1_four_45 rfl ?_
    refine lv_iconst (v := 2) hx hb dX1_four_46 (by decide) ?_
    refine lv_iload hx hb dX1_four_47 (lv_at hl 4 rfl) ?_
    refine lv_ldc (v := 65535) hx hb hown (hts _ q186) dX1_four_49 ?_
    refine lv_iand hx hb dX1_four_51 ?_
    have hc := cut_ (wc := []) hE hP hD hS hA (List.Perm.refl _)
    refine cb_ (va_runS (As := [.int (k2 &&& 65535)]) (rest := [.int 2, .ref rw9, .ref rw9]) ⟨hx, hb, hml, hown, hts⟩ (mJ7_valueOf l G _ (k2 &&& 65535)) (va_cwS 1 hts (lw_S q187 q188 q14 q189) rfl rfl rfl (by decide +kernel) ⟨Nat.le_of_ble_eq_true rfl, Nat.le_of_ble_eq_true rfl⟩) (Pw.pre hc no_bx) rfl rfl hl.1 rfl (lv_room (Nat.le_of_ble_eq_true rfl)) dX1_four_52 ⟨Nat.le_of_ble_eq_true rfl, Nat.le_of_ble_eq_true rfl⟩) hP hD hS hc (fun u2 y2 H locs _ hb2 hP hD hS => ?_)
    have hP : va_P G.1 clz ((rw9, .inl (gJ G, 4, .inr (.inr (.inr (.inr (va_up (va_up (fun _ => none) 0 (some y0)) 1 (some y1))))))) :: ho_ o (cm_ G (dr_ i)) ar n :: oa_ G ar cap f :: dsk_ d fa (np + 4) :: fil_ G fa fo :: (((rs ++ u0) ++ u1) ++ u2)) _ := hP
    have hD : va_D A ((rw9, .inl (gJ G, 4, .inr (.inr (.inr (.inr (va_up (va_up (fun _ => none) 0 (some y0)) 1 (some y1))))))) :: ho_ o (cm_ G (dr_ i)) ar n :: oa_ G ar cap f :: dsk_ d fa (np + 4) :: fil_ G fa fo :: (((rs ++ u0) ++ u1) ++ u2)) := hD
    have hr2 := ((hb2.mono (fun q hq => List.mem_cons_of_mem _ (mem4 (List.mem_append_right _ hq)))).now hts (hE.kept hS.2.1) hP).recv
    refine vb_astq (E := "java/lang/Integer") (C := "java/lang/Integer") hx hb hE.1 hP hD hS 0 2 rfl rfl hr2 (fun c1 c2 => vb_asgS c1 c2) (vp_in_nI (n := 2) (by decide) (by decide)) dX1_four_55 (fun H locs hP hD hS => ?_)
    rw [show (2 : Int32).toNatClampNeg = 2 from by decide] at hP hD
    have hP : va_P G.1 clz ((rw9, .inl (gJ G, 4, .inr (.inr (.inr (.inr (va_up (va_up (va_up (fun _ => none) 0 (some y0)) 1 (some y1)) 2 (some y2))))))) :: ho_ o (cm_ G (dr_ i)) ar n :: oa_ G ar cap f :: dsk_ d fa (np + 4) :: fil_ G fa fo :: (((rs ++ u0) ++ u1) ++ u2)) _ := hP
    have hD : va_D A ((rw9, .inl (gJ G, 4, .inr (.inr (.inr (.inr (va_up (va_up (va_up (fun _ => none) 0 (some y0)) 1 (some y1)) 2 (some y2))))))) :: ho_ o (cm_ G (dr_ i)) ar n :: oa_ G ar cap f :: dsk_ d fa (np + 4) :: fil_ G fa fo :: (((rs ++ u0) ++ u1) ++ u2)) := hD
    refine lv_dup hx hb dX1_four_56 rfl ?_
    refine lv_iconst (v := 3) hx hb dX1_four_57 (by decide) ?_
    refine lv_iload hx hb dX1_four_58 (lv_at hl 5 rfl) ?_
    refine lv_ldc (v := 65535) hx hb hown (hts _ q186) dX1_four_60 ?_
    refine lv_iand hx hb dX1_four_62 ?_
    have hc := cut_ (wc := []) hE hP hD hS hA (List.Perm.refl _)
    refine cb_ (va_runS (As := [.int (k3 &&& 65535)]) (rest := [.int 3, .ref rw9, .ref rw9]) ⟨hx, hb, hml, hown, hts⟩ (mJ7_valueOf l G _ (k3 &&& 65535)) (va_cwS 1 hts (lw_S q187 q188 q14 q189) rfl rfl rfl (by decide +kernel) ⟨Nat.le_of_ble_eq_true rfl, Nat.le_of_ble_eq_true rfl⟩) (Pw.pre hc no_bx) rfl rfl hl.1 rfl (lv_room (Nat.le_of_ble_eq_true rfl)) dX1_four_63 ⟨Nat.le_of_ble_eq_true rfl, Nat.le_of_ble_eq_true rfl⟩) hP hD hS hc (fun u3 y3 H locs _ hb3 hP hD hS => ?_)
    have hP : va_P G.1 clz ((rw9, .inl (gJ G, 4, .inr (.inr (.inr (.inr (va_up (va_up (va_up (fun _ => none) 0 (some y0)) 1 (some y1)) 2 (some y2))))))) :: ho_ o (cm_ G (dr_ i)) ar n :: oa_ G ar cap f :: dsk_ d fa (np + 4) :: fil_ G fa fo :: ((((rs ++ u0) ++ u1) ++ u2) ++ u3)) _ := hP
    have hD : va_D A ((rw9, .inl (gJ G, 4, .inr (.inr (.inr (.inr (va_up (va_up (va_up (fun _ => none) 0 (some y0)) 1 (some y1)) 2 (some y2))))))) :: ho_ o (cm_ G (dr_ i)) ar n :: oa_ G ar cap f :: dsk_ d fa (np + 4) :: fil_ G fa fo :: ((((rs ++ u0) ++ u1) ++ u2) ++ u3)) := hD
    have hr3 := ((hb3.mono (fun q hq => List.mem_cons_of_mem _ (mem4 (List.mem_append_right _ hq)))).now hts (hE.kept hS.2.1) hP).recv
    refine vb_astq (E := "java/lang/Integer") (C := "java/lang/Integer") hx hb hE.1 hP hD hS 0 2 rfl rfl hr3 (fun c1 c2 => vb_asgS c1 c2) (vp_in_nI (n := 3) (by decide) (by decide)) dX1_four_66 (fun H locs hP hD hS => ?_)
    rw [show (3 : Int32).toNatClampNeg = 3 from by decide] at hP hD
    have hP : va_P G.1 clz ((rw9, .inl (gJ G, 4, .inr (.inr (.inr (.inr (va_up (va_up (va_up (va_up (fun _ => none) 0 (some y0)) 1 (some y1)) 2 (some y2)) 3 (some y3))))))) :: ho_ o (cm_ G (dr_ i)) ar n :: oa_ G ar cap f :: dsk_ d fa (np + 4) :: fil_ G fa fo :: ((((rs ++ u0) ++ u1) ++ u2) ++ u3)) _ := hP
    have hD : va_D A ((rw9, .inl (gJ G, 4, .inr (.inr (.inr (.inr (va_up (va_up (va_up (va_up (fun _ => none) 0 (some y0)) 1 (some y1)) 2 (some y2)) 3 (some y3))))))) :: ho_ o (cm_ G (dr_ i)) ar n :: oa_ G ar cap f :: dsk_ d fa (np + 4) :: fil_ G fa fo :: ((((rs ++ u0) ++ u1) ++ u2) ++ u3)) := hD
    refine lv_astore (lv' := [(6, .ref rw9), (0, .ref d), (1, .int r), (2, .int k0), (3, .int k1), (4, .int k2), (5, .int k3)]) hx hb dX1_four_67 hl (by decide) rfl (fun ls hl => ?_)
    refine lv_iload_n hx hb dX1_four_69 rfl (lv_at hl 2 rfl) ?_
    refine lv_iconst (v := 3) hx hb dX1_four_70 (by decide) ?_
    refine lv_iand hx hb dX1_four_71 ?_
    refine lt_i (y := nI i) (hri) ?_
    refine lv_istore (lv' := [(7, .int (nI i)), (6, .ref rw9), (0, .ref d), (1, .int r), (2, .int k0), (3, .int k1), (4, .int k2), (5, .int k3)]) hx hb dX1_four_72 hl (by decide) rfl (fun ls hl => ?_)
    refine lv_aload_n hx hb dX1_four_74 rfl (lv_at hl 2 rfl) ?_
    refine va_get (D := G.1) (ci := 1) (v := .ref fa) (C := RX1) (T := TX1) (N := 2) hx hb hts in_X1 hown hE.1 hP 3 rfl rfl 0 (by decide) (hts _ q175) (fun _ h9 => h9) rfl dX1_four_75 ?_
    refine lv_iload hx hb dX1_four_78 (lv_at hl 0 rfl) ?_
    refine lv_iload hx hb dX1_four_80 (lv_at hl 0 rfl) ?_
    refine lv_iconst (v := 2) hx hb dX1_four_82 (by decide) ?_
    have ers : ((((rs ++ u0) ++ u1) ++ u2) ++ u3) = oth G R i ++ (nw ++ (u0 ++ (u1 ++ (u2 ++ u3)))) := by rw [hrs]; simp only [List.append_assoc]
    rw [ers] at hP hD
    have hsub : ∀ q ∈ (nw ++ (u0 ++ (u1 ++ (u2 ++ u3)))), q ∈ (rw9, .inl (gJ G, 4, .inr (.inr (.inr (.inr (va_up (va_up (va_up (va_up (fun _ => none) 0 (some y0)) 1 (some y1)) 2 (some y2)) 3 (some y3))))))) :: ho_ o (cm_ G (dr_ i)) ar n :: oa_ G ar cap f :: dsk_ d fa (np + 4) :: fil_ G fa fo :: (oth G R i ++ (nw ++ (u0 ++ (u1 ++ (u2 ++ u3))))) := fun q hq => List.mem_cons_of_mem _ (mem4 (List.mem_append_right _ hq))
    have m0 : isbox G (nw ++ (u0 ++ (u1 ++ (u2 ++ u3)))) y0 (k0 &&& 65535) := hb0.mono (fun q hq => List.mem_append_right _ (List.mem_append_left _ hq))
    have m1 : isbox G (nw ++ (u0 ++ (u1 ++ (u2 ++ u3)))) y1 (k1 &&& 65535) := hb1.mono (fun q hq => List.mem_append_right _ (List.mem_append_right _ (List.mem_append_left _ hq)))
    have m2 : isbox G (nw ++ (u0 ++ (u1 ++ (u2 ++ u3)))) y2 (k2 &&& 65535) := hb2.mono (fun q hq => List.mem_append_right _ (List.mem_append_right _ (List.mem_append_right _ (List.mem_append_left _ hq))))
    have m3 : isbox G (nw ++ (u0 ++ (u1 ++ (u2 ++ u3)))) y3 (k3 &&& 65535) := hb3.mono (fun q hq => List.mem_append_right _ (List.mem_append_right _ (List.mem_append_right _ (List.mem_append_right _ hq))))
    have hun := isbox.uniq hts (hE.kept hS.2.1) hP hsub
    obtain ⟨val, v0, v1, v2, v3⟩ := four_val hun m0 m1 m2 m3
    have hL : ∀ z ∈ [y0, y1, y2, y3], isbox G (nw ++ (u0 ++ (u1 ++ (u2 ++ u3)))) z (val z) := by
      intro z hz
      simp only [List.mem_cons, List.not_mem_nil, or_false] at hz
      rcases hz with rfl | rfl | rfl | rfl
      · rw [v0]; exact m0
      · rw [v1]; exact m1
      · rw [v2]; exact m2
      · rw [v3]; exact m3
    have hm : ∀ j, j < 4 → ∃ z, z ∈ [y0, y1, y2, y3] ∧ (va_up (va_up (va_up (va_up (fun _ => none) 0 (some y0)) 1 (some y1)) 2 (some y2)) 3 (some y3)) j = some z := by
      intro j hj
      refine lt4 (P := fun j => ∃ z, z ∈ [y0, y1, y2, y3] ∧ (va_up (va_up (va_up (va_up (fun _ => none) 0 (some y0)) 1 (some y1)) 2 (some y2)) 3 (some y3)) j = some z) hj ⟨y0, by simp, rfl⟩ ⟨y1, by simp, rfl⟩ ⟨y2, by simp, rfl⟩ ⟨y3, by simp, rfl⟩
    have hc := cut_ (wc := [(rw9, .inl (gJ G, 4, .inr (.inr (.inr (.inr (va_up (va_up (va_up (va_up (fun _ => none) 0 (some y0)) 1 (some y1)) 2 (some y2)) 3 (some y3)))))))]) (wr := ho_ o (cm_ G (dr_ i)) ar n :: oa_ G ar cap f :: dsk_ d fa (np + 4) :: fil_ G fa fo :: (oth G R i ++ (nw ++ (u0 ++ (u1 ++ (u2 ++ u3)))))) hE hP hD hS hA (List.Perm.refl _)
    have hbx : ∀ z ∈ [y0, y1, y2, y3], bx (va_A [(rw9, .inl (gJ G, 4, .inr (.inr (.inr (.inr (va_up (va_up (va_up (va_up (fun _ => none) 0 (some y0)) 1 (some y1)) 2 (some y2)) 3 (some y3)))))))] _) s _ z (val z) := fun z hz => isbox.out (wr := ho_ o (cm_ G (dr_ i)) ar n :: oa_ G ar cap f :: dsk_ d fa (np + 4) :: fil_ G fa fo :: (oth G R i ++ (nw ++ (u0 ++ (u1 ++ (u2 ++ u3)))))) ((hL z hz).mono (fun q hq => mem4 (List.mem_append_right _ hq))) hts hE hP hD hS hA (List.Perm.refl _)
    refine lv_icmp_ge (tgt := 94) hx hb dX1_four_83 (by decide) (fun c2 => ?_) (fun c2 => ?_)
    · have edr : dr_ i = true := decide_eq_true ((nI_leI (a := 2) (by omega) (by omega)).mp c2)
      refine lv_aload hx hb dX1_four_94 (lv_at hl 1 rfl) ?_
      refine va_gets hx hb hE.2.2.2.2.2.2.1 hS hown (hts _ q170) (fun _ h9 => h9) dX1_four_96 ?_
      refine cr_ (va_runS (As := [.ref rw9, .ref (gW G)]) (rest := [.int (nI i), .ref fa]) ⟨hx, hb, hml, hown, hts⟩ (mX4_heapify_2 l G val [y0, y1, y2, y3] rw9 _ (va_up (va_up (va_up (va_up (fun _ => none) 0 (some y0)) 1 (some y1)) 2 (some y2)) 3 (some y3)) hm) (va_cwS 2 hts (lw_S q302 q303 q6 q304) rfl rfl rfl (by decide +kernel) ⟨Nat.le_of_ble_eq_true rfl, Nat.le_of_ble_eq_true rfl⟩) (Pw.pre hc hbx) rfl rfl hl.1 rfl (lv_room (Nat.le_of_ble_eq_true rfl)) dX1_four_99 ⟨Nat.le_of_ble_eq_true rfl, Nat.le_of_ble_eq_true rfl⟩) hP hD hS hc (List.Perm.refl _) (fun u q H locs hq hP hD hS => ?_)
      rw [← edr] at hq
      have hP : va_P G.1 clz (ho_ q (cm_ G (dr_ i)) u.1 4 :: oa_ G u.1 16 u.2 :: ho_ o (cm_ G (dr_ i)) ar n :: oa_ G ar cap f :: dsk_ d fa (np + 4) :: fil_ G fa fo :: (oth G R i ++ (nw ++ (u0 ++ (u1 ++ (u2 ++ u3)))))) H := by rw [edr] at hP ⊢; exact hP
      have hD : va_D A (ho_ q (cm_ G (dr_ i)) u.1 4 :: oa_ G u.1 16 u.2 :: ho_ o (cm_ G (dr_ i)) ar n :: oa_ G ar cap f :: dsk_ d fa (np + 4) :: fil_ G fa fo :: (oth G R i ++ (nw ++ (u0 ++ (u1 ++ (u2 ++ u3)))))) := by rw [edr] at hD ⊢; exact hD
      refine va_astq hx hb hE.1 hP hD hS 5 1 0 0 (r := (RX4, TX4, 4)) rfl rfl rfl rfl (vp_in_nI hi (by omega)) dX1_four_102 (fun H locs hP hD hS => ?_)
      rw [nI_clamp (by omega)] at hP hD
      have hP : va_P G.1 clz (ho_ q (cm_ G (dr_ i)) u.1 4 :: oa_ G u.1 16 u.2 :: ho_ o (cm_ G (dr_ i)) ar n :: oa_ G ar cap f :: dsk_ d fa (np + 4) :: fil_ G fa (va_up fo i (some q)) :: (oth G R i ++ (nw ++ (u0 ++ (u1 ++ (u2 ++ u3)))))) _ := hP
      have hD : va_D A (ho_ q (cm_ G (dr_ i)) u.1 4 :: oa_ G u.1 16 u.2 :: ho_ o (cm_ G (dr_ i)) ar n :: oa_ G ar cap f :: dsk_ d fa (np + 4) :: fil_ G fa (va_up fo i (some q)) :: (oth G R i ++ (nw ++ (u0 ++ (u1 ++ (u2 ++ u3)))))) := hD
      have hP := pw_drop (a := [ho_ q (cm_ G (dr_ i)) u.1 4, oa_ G u.1 16 u.2]) (b := [ho_ o (cm_ G (dr_ i)) ar n, oa_ G ar cap f]) hP
      have hD := dw_drop (a := [ho_ q (cm_ G (dr_ i)) u.1 4, oa_ G u.1 16 u.2]) (b := [ho_ o (cm_ G (dr_ i)) ar n, oa_ G ar cap f]) hD
      have hP : va_P G.1 clz (ho_ q (cm_ G (dr_ i)) u.1 4 :: oa_ G u.1 16 u.2 :: dsk_ d fa (np + 4) :: fil_ G fa (va_up fo i (some q)) :: (oth G R i ++ (nw ++ (u0 ++ (u1 ++ (u2 ++ u3)))))) _ := hP
      have hD : va_D A (ho_ q (cm_ G (dr_ i)) u.1 4 :: oa_ G u.1 16 u.2 :: dsk_ d fa (np + 4) :: fil_ G fa (va_up fo i (some q)) :: (oth G R i ++ (nw ++ (u0 ++ (u1 ++ (u2 ++ u3)))))) := hD
      obtain ⟨Ci, hO2, hpm⟩ := HO.mk (G := G) (nw := (nw ++ (u0 ++ (u1 ++ (u2 ++ u3))))) (i := i) q u.1 (n := 4) (cap := 16) (by decide) hq.1 hq.2 (L := [y0, y1, y2, y3]) (fun z hz => by
        simp only [List.mem_cons, List.not_mem_nil, or_false] at hz
        rcases hz with rfl | rfl | rfl | rfl
        · exact hm 0 (by decide)
        · exact hm 1 (by decide)
        · exact hm 2 (by decide)
        · exact hm 3 (by decide)) hL (K := [k0 &&& 65535, k1 &&& 65535, k2 &&& 65535, k3 &&& 65535]) (by rw [← v0, ← v1, ← v2, ← v3]; exact List.Perm.refl _)
      have hln : Ci.length = 4 := hpm.length_eq
      have hP := wP_perm hP (wdk_back G d (np + 4) fa (va_up fo i (some q)) R (nw ++ (u0 ++ (u1 ++ (u2 ++ u3)))) hi (q, u.1, 4, 16, u.2))
      have hD := wD_perm hD (wdk_back G d (np + 4) fa (va_up fo i (some q)) R (nw ++ (u0 ++ (u1 ++ (u2 ++ u3)))) hi (q, u.1, 4, 16, u.2))
      have hDR2 : DkR G (np + 4) (va_up C i Ci) (va_up fo i (some q)) (va_up R i (q, u.1, 4, 16, u.2)) (nw ++ (u0 ++ (u1 ++ (u2 ++ u3)))) := hDR.put hi (fun q h => List.mem_append_left _ h) hO2 (va_up_self _ _ _) (fun j hj => va_up_ne _ _ hj) (by have h1 := tl_up C hi Ci; have h2 := hDR.2.1; omega) (by omega)
      refine lv_iconst (v := 1) hx hb dX1_four_103 (by decide) ?_
      exact W.zret (v := 1) hx hb hr rfl (fun t ht hW => ⟨⟨1, _, rfl, ⟨rfl, Ci, ⟨fa, (va_up fo i (some q)), _, (nw ++ (u0 ++ (u1 ++ (u2 ++ u3)))), rfl, hDR2⟩, hpm⟩, by rw [ht]; exact hP, hD⟩, hS.F ht⟩) hS.2.2 dX1_four_104
    · have edr : dr_ i = false := decide_eq_false (fun h9 => c2 (nI_le (a := 2) h9 (by omega)))
      refine lv_aload hx hb dX1_four_86 (lv_at hl 1 rfl) ?_
      refine cr_ (va_runS (As := [.ref rw9]) (rest := [.int (nI i), .ref fa]) ⟨hx, hb, hml, hown, hts⟩ (mX4_heapify l G val [y0, y1, y2, y3] rw9 _ (va_up (va_up (va_up (va_up (fun _ => none) 0 (some y0)) 1 (some y1)) 2 (some y2)) 3 (some y3)) hm) (va_cwS 1 hts (lw_S q287 q288 q6 q289) rfl rfl rfl (by decide +kernel) ⟨Nat.le_of_ble_eq_true rfl, Nat.le_of_ble_eq_true rfl⟩) (Pw.pre hc hbx) rfl rfl hl.1 rfl (lv_room (Nat.le_of_ble_eq_true rfl)) dX1_four_88 ⟨Nat.le_of_ble_eq_true rfl, Nat.le_of_ble_eq_true rfl⟩) hP hD hS hc (List.Perm.refl _) (fun u q H locs hq hP hD hS => ?_)
      rw [← edr] at hq
      refine lv_goto (tgt := 102) hx hb dX1_four_91 (by decide) ?_
      have hP : va_P G.1 clz (ho_ q (cm_ G (dr_ i)) u.1 4 :: oa_ G u.1 16 u.2 :: ho_ o (cm_ G (dr_ i)) ar n :: oa_ G ar cap f :: dsk_ d fa (np + 4) :: fil_ G fa fo :: (oth G R i ++ (nw ++ (u0 ++ (u1 ++ (u2 ++ u3)))))) H := by rw [edr] at hP ⊢; exact hP
      have hD : va_D A (ho_ q (cm_ G (dr_ i)) u.1 4 :: oa_ G u.1 16 u.2 :: ho_ o (cm_ G (dr_ i)) ar n :: oa_ G ar cap f :: dsk_ d fa (np + 4) :: fil_ G fa fo :: (oth G R i ++ (nw ++ (u0 ++ (u1 ++ (u2 ++ u3)))))) := by rw [edr] at hD ⊢; exact hD
      refine va_astq hx hb hE.1 hP hD hS 5 1 0 0 (r := (RX4, TX4, 4)) rfl rfl rfl rfl (vp_in_nI hi (by omega)) dX1_four_102 (fun H locs hP hD hS => ?_)
      rw [nI_clamp (by omega)] at hP hD
      have hP : va_P G.1 clz (ho_ q (cm_ G (dr_ i)) u.1 4 :: oa_ G u.1 16 u.2 :: ho_ o (cm_ G (dr_ i)) ar n :: oa_ G ar cap f :: dsk_ d fa (np + 4) :: fil_ G fa (va_up fo i (some q)) :: (oth G R i ++ (nw ++ (u0 ++ (u1 ++ (u2 ++ u3)))))) _ := hP
      have hD : va_D A (ho_ q (cm_ G (dr_ i)) u.1 4 :: oa_ G u.1 16 u.2 :: ho_ o (cm_ G (dr_ i)) ar n :: oa_ G ar cap f :: dsk_ d fa (np + 4) :: fil_ G fa (va_up fo i (some q)) :: (oth G R i ++ (nw ++ (u0 ++ (u1 ++ (u2 ++ u3)))))) := hD
      have hP := pw_drop (a := [ho_ q (cm_ G (dr_ i)) u.1 4, oa_ G u.1 16 u.2]) (b := [ho_ o (cm_ G (dr_ i)) ar n, oa_ G ar cap f]) hP
      have hD := dw_drop (a := [ho_ q (cm_ G (dr_ i)) u.1 4, oa_ G u.1 16 u.2]) (b := [ho_ o (cm_ G (dr_ i)) ar n, oa_ G ar cap f]) hD
      have hP : va_P G.1 clz (ho_ q (cm_ G (dr_ i)) u.1 4 :: oa_ G u.1 16 u.2 :: dsk_ d fa (np + 4) :: fil_ G fa (va_up fo i (some q)) :: (oth G R i ++ (nw ++ (u0 ++ (u1 ++ (u2 ++ u3)))))) _ := hP
      have hD : va_D A (ho_ q (cm_ G (dr_ i)) u.1 4 :: oa_ G u.1 16 u.2 :: dsk_ d fa (np + 4) :: fil_ G fa (va_up fo i (some q)) :: (oth G R i ++ (nw ++ (u0 ++ (u1 ++ (u2 ++ u3)))))) := hD
      obtain ⟨Ci, hO2, hpm⟩ := HO.mk (G := G) (nw := (nw ++ (u0 ++ (u1 ++ (u2 ++ u3))))) (i := i) q u.1 (n := 4) (cap := 16) (by decide) hq.1 hq.2 (L := [y0, y1, y2, y3]) (fun z hz => by
        simp only [List.mem_cons, List.not_mem_nil, or_false] at hz
        rcases hz with rfl | rfl | rfl | rfl
        · exact hm 0 (by decide)
        · exact hm 1 (by decide)
        · exact hm 2 (by decide)
        · exact hm 3 (by decide)) hL (K := [k0 &&& 65535, k1 &&& 65535, k2 &&& 65535, k3 &&& 65535]) (by rw [← v0, ← v1, ← v2, ← v3]; exact List.Perm.refl _)
      have hln : Ci.length = 4 := hpm.length_eq
      have hP := wP_perm hP (wdk_back G d (np + 4) fa (va_up fo i (some q)) R (nw ++ (u0 ++ (u1 ++ (u2 ++ u3)))) hi (q, u.1, 4, 16, u.2))
      have hD := wD_perm hD (wdk_back G d (np + 4) fa (va_up fo i (some q)) R (nw ++ (u0 ++ (u1 ++ (u2 ++ u3)))) hi (q, u.1, 4, 16, u.2))
      have hDR2 : DkR G (np + 4) (va_up C i Ci) (va_up fo i (some q)) (va_up R i (q, u.1, 4, 16, u.2)) (nw ++ (u0 ++ (u1 ++ (u2 ++ u3)))) := hDR.put hi (fun q h => List.mem_append_left _ h) hO2 (va_up_self _ _ _) (fun j hj => va_up_ne _ _ hj) (by have h1 := tl_up C hi Ci; have h2 := hDR.2.1; omega) (by omega)
      refine lv_iconst (v := 1) hx hb dX1_four_103 (by decide) ?_
      exact W.zret (v := 1) hx hb hr rfl (fun t ht hW => ⟨⟨1, _, rfl, ⟨rfl, Ci, ⟨fa, (va_up fo i (some q)), _, (nw ++ (u0 ++ (u1 ++ (u2 ++ u3)))), rfl, hDR2⟩, hpm⟩, by rw [ht]; exact hP, hD⟩, hS.F ht⟩) hS.2.2 dX1_four_104
  · exact absurd (nI_le (b := 60) hp (by omega)) c1
end
section
/-! THE DESK: pour, and how it is made -/
set_option maxRecDepth 100000
theorem up4 {α : Type} {C : Nat → α} {i j : Nat} {X Y t Z : α} : va_up (va_up (va_up (va_up C j X) i Y) j t) i Z = va_up (va_up C j t) i Z := by
  funext k
  by_cases h1 : k = i
  · subst h1
    rw [va_up_self, va_up_self]
  · rw [va_up_ne _ _ h1, va_up_ne _ _ h1]
    by_cases h2 : k = j
    · subst h2
      rw [va_up_self, va_up_self]
    · rw [va_up_ne _ _ h2, va_up_ne _ _ h2, va_up_ne _ _ h1, va_up_ne _ _ h2]
def mk_R (o0 ar0 o1 ar1 o2 ar2 o3 ar3 : Nat) : Nat → hR
  | 0 => (o0, ar0, 0, 16, fun _ => none)
  | 1 => (o1, ar1, 0, 16, fun _ => none)
  | 2 => (o2, ar2, 0, 16, fun _ => none)
  | _ => (o3, ar3, 0, 16, fun _ => none)
theorem pour_pm {v : Int32} {Y t Ci D : List Int32} (h : Ci.Perm (v :: Y)) (h2 : (Y ++ v :: t).Perm D) : (Ci ++ t).Perm D := (h.append_right t).trans (List.perm_middle.symm.trans h2)
set_option maxHeartbeats 4000000 in
set_option maxRecDepth 100000 in
/-- pour(r, r): -1 -/
theorem mX1_pour0 (l : Launch) (G : gT) (d sz i : Nat) (w : va_W) (r1 r2 : Int32) (hri : r1 &&& 3 = nI i) (hrj2 : r2 &&& 3 = nI i) : Met l yX1_pour (ws_ yX1_pour cX1_pour 6 (some .int)) (rm_ 5 0 0 112) (Pw G (fun _ => 0) [] [.ref d, .int r1, .int r2] sz w) (vp_Si (fun x => x = -1)) 0 0 (fun _ => False) := by
  refine Met.ofW (cc := cX1_pour) (maxL := 6) (ret := some .int) (by decide) rfl ?_
  intro p e s m args below meth c s₁ B hml hv
  obtain ⟨rfl, hsz, hP, hD0, hE, hB⟩ := hv
  have hx := B.exec
  have hb := B.bytes
  have hr := B.returns
  have hts := atoms_spec (ws := ws_ yX1_pour cX1_pour 6 (some .int)) B.pre
  have hts : ∀ w ∈ lw_all, w.before _ s = true := fun w h => hts w (List.mem_cons_of_mem _ h)
  have hown : s.vm.findClass RX1 = some m.cls := findClass_of_methodNamed B.named
  have hlocks := B.notSynchronized
  subst hsz
  have hD := hD0.self (sz := s.heap.size)
  generalize hAe : va_A (w) s.heap.size = A at hD hE hB ⊢
  have hA : ∀ q : Nat, s.heap.size ≤ q → A q := fun q h => by rw [← hAe]; exact Or.inr h
  have hS : va_S A s.heap s.heap [] := va_S.rf
  have hl := lv_entry ([.ref d, .int r1, .int r2]) (n := 6) (Nat.le_of_ble_eq_true rfl)
  rw [lg_entry_eq]
  generalize (lg_sl ([.ref d, .int r1, .int r2]) ++ List.replicate (6 - (lg_sl ([.ref d, .int r1, .int r2])).length) Slot.unset).toArray = ls at hl ⊢
  have hl : lv_has ls 6 [(0, .ref d), (1, .int r1), (2, .int r2)] := hl
  have hP : va_P G.1 clz (w) _ := hP
  have hD : va_D A (w) := hD
  refine lv_iload_n hx hb dX1_pour_0 rfl (lv_at hl 1 rfl) ?_
  refine lv_iconst (v := 3) hx hb dX1_pour_1 (by decide) ?_
  refine lv_iand hx hb dX1_pour_2 ?_
  refine lt_i (y := nI i) (hri) ?_
  refine lv_istore_n (lv' := [(3, .int (nI i)), (0, .ref d), (1, .int r1), (2, .int r2)]) hx hb dX1_pour_3 rfl hl (by decide) rfl (fun ls hl => ?_)
  refine lv_iload_n hx hb dX1_pour_4 rfl (lv_at hl 3 rfl) ?_
  refine lv_iconst (v := 3) hx hb dX1_pour_5 (by decide) ?_
  refine lv_iand hx hb dX1_pour_6 ?_
  refine lt_i (y := nI i) (hrj2) ?_
  refine lv_istore (lv' := [(4, .int (nI i)), (3, .int (nI i)), (0, .ref d), (1, .int r1), (2, .int r2)]) hx hb dX1_pour_7 hl (by decide) rfl (fun ls hl => ?_)
  refine lv_iconst (v := 0) hx hb dX1_pour_9 (by decide) ?_
  refine lt_i (y := nI 0) (nI_0.symm) ?_
  refine lv_istore (lv' := [(5, .int (nI 0)), (4, .int (nI i)), (3, .int (nI i)), (0, .ref d), (1, .int r1), (2, .int r2)]) hx hb dX1_pour_10 hl (by decide) rfl (fun ls hl => ?_)
  refine lv_iload_n hx hb dX1_pour_12 rfl (lv_at hl 2 rfl) ?_
  refine lv_iload hx hb dX1_pour_13 (lv_at hl 1 rfl) ?_
  refine lv_icmp_ne (tgt := 20) hx hb dX1_pour_15 (by decide) (fun c1 => ?_) (fun c1 => ?_)
  · exact absurd rfl c1
  · refine lv_iconst (v := (-1)) hx hb dX1_pour_18 (by decide) ?_
    exact W.iret (v := -1) hx hb hr (fun t ht hW => ⟨-1, rfl, rfl, ht⟩) no_loc dX1_pour_19
set_option maxHeartbeats 4000000 in
set_option maxRecDepth 100000 in
/-- pour(r1, r2): heap j goes into heap i -/
theorem mX1_pour (l : Launch) (G : gT) (d np sz i j : Nat) (C : Nat → List Int32) (w : va_W) (r1 r2 : Int32) (hi : i < 4) (hj : j < 4) (hij : i ≠ j) (hri : r1 &&& 3 = nI i) (hrj : r2 &&& 3 = nI j) (hDk : Dk G d np C w) : Met l yX1_pour (ws_ yX1_pour cX1_pour 6 (some .int)) (rm_ 5 128 16512 112) (Pw G (fun _ => 0) [] [.ref d, .int r1, .int r2] sz w) (va_Qi (fun (x : Int32) (u : va_W) => x = nI (C j).length ∧ ∃ Ci, Dk G d np (va_up (va_up C j []) i Ci) u ∧ Ci.Perm (C i ++ C j)) (Bw G (va_A w sz) (fun u => u)) (va_A w sz)) 128 16512 (va_A w sz) := by
  refine Met.ofW (cc := cX1_pour) (maxL := 6) (ret := some .int) (by decide) rfl ?_
  intro p e s m args below meth c s₁ B hml hv
  obtain ⟨rfl, hsz, hP, hD0, hE, hB⟩ := hv
  have hx := B.exec
  have hb := B.bytes
  have hr := B.returns
  have hts := atoms_spec (ws := ws_ yX1_pour cX1_pour 6 (some .int)) B.pre
  have hts : ∀ w ∈ lw_all, w.before _ s = true := fun w h => hts w (List.mem_cons_of_mem _ h)
  have hown : s.vm.findClass RX1 = some m.cls := findClass_of_methodNamed B.named
  have hlocks := B.notSynchronized
  subst hsz
  have hD := hD0.self (sz := s.heap.size)
  generalize hAe : va_A (w) s.heap.size = A at hD hE hB ⊢
  have hA : ∀ q : Nat, s.heap.size ≤ q → A q := fun q h => by rw [← hAe]; exact Or.inr h
  have hS : va_S A s.heap s.heap [] := va_S.rf
  have hl := lv_entry ([.ref d, .int r1, .int r2]) (n := 6) (Nat.le_of_ble_eq_true rfl)
  rw [lg_entry_eq]
  generalize (lg_sl ([.ref d, .int r1, .int r2]) ++ List.replicate (6 - (lg_sl ([.ref d, .int r1, .int r2])).length) Slot.unset).toArray = ls at hl ⊢
  have hl : lv_has ls 6 [(0, .ref d), (1, .int r1), (2, .int r2)] := hl
  have hP : va_P G.1 clz (w) _ := hP
  have hD : va_D A (w) := hD
  refine lv_iload_n hx hb dX1_pour_0 rfl (lv_at hl 1 rfl) ?_
  refine lv_iconst (v := 3) hx hb dX1_pour_1 (by decide) ?_
  refine lv_iand hx hb dX1_pour_2 ?_
  refine lt_i (y := nI i) (hri) ?_
  refine lv_istore_n (lv' := [(3, .int (nI i)), (0, .ref d), (1, .int r1), (2, .int r2)]) hx hb dX1_pour_3 rfl hl (by decide) rfl (fun ls hl => ?_)
  refine lv_iload_n hx hb dX1_pour_4 rfl (lv_at hl 3 rfl) ?_
  refine lv_iconst (v := 3) hx hb dX1_pour_5 (by decide) ?_
  refine lv_iand hx hb dX1_pour_6 ?_
  refine lt_i (y := nI j) (hrj) ?_
  refine lv_istore (lv' := [(4, .int (nI j)), (3, .int (nI i)), (0, .ref d), (1, .int r1), (2, .int r2)]) hx hb dX1_pour_7 hl (by decide) rfl (fun ls hl => ?_)
  refine lv_iconst (v := 0) hx hb dX1_pour_9 (by decide) ?_
  refine lt_i (y := nI 0) (nI_0.symm) ?_
  refine lv_istore (lv' := [(5, .int (nI 0)), (4, .int (nI j)), (3, .int (nI i)), (0, .ref d), (1, .int r1), (2, .int r2)]) hx hb dX1_pour_10 hl (by decide) rfl (fun ls hl => ?_)
  refine lv_iload_n hx hb dX1_pour_12 rfl (lv_at hl 2 rfl) ?_
  refine lv_iload hx hb dX1_pour_13 (lv_at hl 1 rfl) ?_
  refine lv_icmp_ne (tgt := 20) hx hb dX1_pour_15 (by decide) (fun c1 => ?_) (fun c1 => ?_)
  · have loop : ∀ (N : Nat) (X Y : List Int32) (cnt : Nat) (w1 : va_W) (H : Heap) (locs : List Loc) (ls : Array Slot) (cells slots : Nat), X.length = N → cnt + N = (C j).length → Dk G d np (va_up (va_up C j X) i Y) w1 → (Y ++ X).Perm (C i ++ C j) → cells + 2 * N ≤ 128 → slots + 258 * N ≤ 16512 → va_P G.1 clz w1 H → va_D A w1 → va_S A s.heap H locs → lv_has ls 6 [(0, .ref d), (3, .int (nI i)), (4, .int (nI j)), (5, .int (nI cnt))] → W p l e (headSpec (ws_ yX1_pour cX1_pour 6 (some .int)) (rm_ 5 128 16512 112)).room s m ([.ref d, .int r1, .int r2] : List Value).toArray below meth c H locs cells slots (MQ below (va_Qi (fun (x : Int32) (u : va_W) => x = nI (C j).length ∧ ∃ Ci, Dk G d np (va_up (va_up C j []) i Ci) u ∧ Ci.Perm (C i ++ C j)) (Bw G A (fun u => u)) A) ([.ref d, .int r1, .int r2] : List Value).toArray s 128 16512 A) (F0 m 20 ls []) := by
      intro N
      induction N with
      | zero =>
        intro X Y cnt w1 H locs ls cells slots hX hcnt hDk1 hpm hce hsl hP hD hS hl
        obtain ⟨fa, fo, R, nw, ew, hDR⟩ := hDk1
        subst ew
        have hP0 := hP
        have hD0 := hD
        obtain ⟨hfob, hOb⟩ := hDR.1 j hj
        have hP := wP_perm hP (wdk_perm G d np fa fo R nw hj)
        have hD := wD_perm hD (wdk_perm G d np fa fo R nw hj)
        obtain ⟨⟨ob, arb, nb, capb, fb⟩, hRib⟩ : ∃ q : hR, q = R j := ⟨_, rfl⟩
        rw [← hRib] at hP hD hfob hOb
        obtain ⟨rsb, hrsb⟩ : ∃ q : va_W, q = oth G R j ++ nw := ⟨_, rfl⟩
        rw [← hrsb] at hP hD
        have hfob : fo j = some ob := hfob
        have hcapb : nb ≤ capb ∧ 16 ≤ capb ∧ capb ≤ 128 := hOb.1
        have eCj : (va_up (va_up C j X) i Y) j = X := by rw [va_up_ne _ _ (Ne.symm hij), va_up_self]
        have eCi : (va_up (va_up C j X) i Y) i = Y := va_up_self _ _ _
        rw [eCj] at hOb
        have hnb : nb = X.length := hOb.len
        have hP : va_P G.1 clz (ho_ ob (cm_ G (dr_ j)) arb nb :: oa_ G arb capb fb :: dsk_ d fa np :: fil_ G fa fo :: rsb) _ := hP
        have hD : va_D A (ho_ ob (cm_ G (dr_ j)) arb nb :: oa_ G arb capb fb :: dsk_ d fa np :: fil_ G fa fo :: rsb) := hD
        refine lv_aload_n hx hb dX1_pour_20 rfl (lv_at hl 0 rfl) ?_
        refine va_get (D := G.1) (ci := 1) (v := .ref fa) (C := RX1) (T := TX1) (N := 2) hx hb hts in_X1 hown hE.1 hP 2 rfl rfl 0 (by decide) (hts _ q175) (fun _ h9 => h9) rfl dX1_pour_21 ?_
        refine lv_iload hx hb dX1_pour_24 (lv_at hl 2 rfl) ?_
        refine va_aldq hx hb hE.1 hP 3 1 rfl rfl (vp_in_nI hj (by omega)) dX1_pour_26 ?_
        refine lt_q (y := .ref ob) (by rw [nI_clamp (by omega), hfob]; rfl) ?_
        have hc := cut_ (wc := [ho_ ob (cm_ G (dr_ j)) arb nb]) (wr := oa_ G arb capb fb :: dsk_ d fa np :: fil_ G fa fo :: rsb) hE hP hD hS hA (List.Perm.refl _)
        refine vp_callSi (va_Run.run (va_runU (C := RX4) (As := []) (rest := []) ⟨hx, hb, hml, hown, hts⟩ (mX2_isEmpty l G ob arb nb _ (cm_ G (dr_ j)) (by omega)) (va_cwU 0 hts (lw_U q317 q318 q320 q321 q4 q322) rfl rfl rfl rfl (by decide +kernel) ⟨Nat.le_of_ble_eq_true rfl, Nat.le_of_ble_eq_true rfl⟩) (Pw.preV hc no_bx (va_recv hE.1 hP (ci := 0) (q0 := 0) rfl rfl)) rfl rfl hl.1 rfl (lv_room (Nat.le_of_ble_eq_true rfl)) dX1_pour_27 ⟨by show cells + 0 ≤ 128; omega, by show slots + 0 ≤ 16512; omega⟩)) (fun x e_x => ?_)
        refine lv_if_ne (tgt := 61) hx hb dX1_pour_30 (by decide) (fun c2 => ?_) (fun c2 => ?_)
        · refine lv_iload hx hb dX1_pour_61 (lv_at hl 3 rfl) ?_
          have eX : X = [] := List.eq_nil_of_length_eq_zero hX
          subst eX
          refine W.widen (k := 128) (n := 16512) (by omega) (by omega) ?_
          exact W.iret (v := nI cnt) hx hb hr (fun t ht hW => ⟨⟨nI cnt, _, rfl, ⟨congrArg nI hcnt, Y, ⟨fa, fo, R, nw, rfl, hDR⟩, by rw [List.append_nil] at hpm; exact hpm⟩, by rw [ht]; exact hP0, hD0⟩, hS.F ht⟩) hS.2.2 dX1_pour_63
        · exact absurd (hnb.trans hX) (e_ne e_x c2)
      | succ N ih =>
        intro X Y cnt w1 H locs ls cells slots hX hcnt hDk1 hpm hce hsl hP hD hS hl
        obtain ⟨fa, fo, R, nw, ew, hDR⟩ := hDk1
        subst ew
        have hP0 := hP
        have hD0 := hD
        obtain ⟨hfob, hOb⟩ := hDR.1 j hj
        have hP := wP_perm hP (wdk_perm G d np fa fo R nw hj)
        have hD := wD_perm hD (wdk_perm G d np fa fo R nw hj)
        obtain ⟨⟨ob, arb, nb, capb, fb⟩, hRib⟩ : ∃ q : hR, q = R j := ⟨_, rfl⟩
        rw [← hRib] at hP hD hfob hOb
        obtain ⟨rsb, hrsb⟩ : ∃ q : va_W, q = oth G R j ++ nw := ⟨_, rfl⟩
        rw [← hrsb] at hP hD
        have hfob : fo j = some ob := hfob
        have hcapb : nb ≤ capb ∧ 16 ≤ capb ∧ capb ≤ 128 := hOb.1
        have eCj : (va_up (va_up C j X) i Y) j = X := by rw [va_up_ne _ _ (Ne.symm hij), va_up_self]
        have eCi : (va_up (va_up C j X) i Y) i = Y := va_up_self _ _ _
        rw [eCj] at hOb
        have hnb : nb = X.length := hOb.len
        have hP : va_P G.1 clz (ho_ ob (cm_ G (dr_ j)) arb nb :: oa_ G arb capb fb :: dsk_ d fa np :: fil_ G fa fo :: rsb) _ := hP
        have hD : va_D A (ho_ ob (cm_ G (dr_ j)) arb nb :: oa_ G arb capb fb :: dsk_ d fa np :: fil_ G fa fo :: rsb) := hD
        refine lv_aload_n hx hb dX1_pour_20 rfl (lv_at hl 0 rfl) ?_
        refine va_get (D := G.1) (ci := 1) (v := .ref fa) (C := RX1) (T := TX1) (N := 2) hx hb hts in_X1 hown hE.1 hP 2 rfl rfl 0 (by decide) (hts _ q175) (fun _ h9 => h9) rfl dX1_pour_21 ?_
        refine lv_iload hx hb dX1_pour_24 (lv_at hl 2 rfl) ?_
        refine va_aldq hx hb hE.1 hP 3 1 rfl rfl (vp_in_nI hj (by omega)) dX1_pour_26 ?_
        refine lt_q (y := .ref ob) (by rw [nI_clamp (by omega), hfob]; rfl) ?_
        have hc := cut_ (wc := [ho_ ob (cm_ G (dr_ j)) arb nb]) (wr := oa_ G arb capb fb :: dsk_ d fa np :: fil_ G fa fo :: rsb) hE hP hD hS hA (List.Perm.refl _)
        refine vp_callSi (va_Run.run (va_runU (C := RX4) (As := []) (rest := []) ⟨hx, hb, hml, hown, hts⟩ (mX2_isEmpty l G ob arb nb _ (cm_ G (dr_ j)) (by omega)) (va_cwU 0 hts (lw_U q317 q318 q320 q321 q4 q322) rfl rfl rfl rfl (by decide +kernel) ⟨Nat.le_of_ble_eq_true rfl, Nat.le_of_ble_eq_true rfl⟩) (Pw.preV hc no_bx (va_recv hE.1 hP (ci := 0) (q0 := 0) rfl rfl)) rfl rfl hl.1 rfl (lv_room (Nat.le_of_ble_eq_true rfl)) dX1_pour_27 ⟨by show cells + 0 ≤ 128; omega, by show slots + 0 ≤ 16512; omega⟩)) (fun x e_x => ?_)
        refine lv_if_ne (tgt := 61) hx hb dX1_pour_30 (by decide) (fun c2 => ?_) (fun c2 => ?_)
        · exact absurd (hnb.symm.trans (e_eq e_x c2)) (by omega)
        · have h0 : 1 ≤ nb := by omega
          obtain ⟨val, L, h3, h4, h5, h6⟩ := hOb.use
          obtain ⟨y, hy, ey⟩ := h4 1 (Nat.le_refl 1) h0
          obtain ⟨t9, e9⟩ := take_head h0 h3 hOb.2.1 h6
          obtain ⟨oi, hoi⟩ : ∃ q, fo i = some q := ⟨_, (hDR.1 i hi).1⟩
          refine lv_aload_n hx hb dX1_pour_33 rfl (lv_at hl 0 rfl) ?_
          refine va_get (D := G.1) (ci := 1) (v := .ref fa) (C := RX1) (T := TX1) (N := 2) hx hb hts in_X1 hown hE.1 hP 2 rfl rfl 0 (by decide) (hts _ q175) (fun _ h9 => h9) rfl dX1_pour_34 ?_
          refine lv_iload_n hx hb dX1_pour_37 rfl (lv_at hl 1 rfl) ?_
          refine va_aldq hx hb hE.1 hP 3 1 rfl rfl (vp_in_nI hi (by omega)) dX1_pour_38 ?_
          refine lt_q (y := .ref oi) (by rw [nI_clamp (by omega), hoi]; rfl) ?_
          refine lv_aload_n hx hb dX1_pour_39 rfl (lv_at hl 0 rfl) ?_
          refine va_get (D := G.1) (ci := 1) (v := .ref fa) (C := RX1) (T := TX1) (N := 2) hx hb hts in_X1 hown hE.1 hP 2 rfl rfl 0 (by decide) (hts _ q175) (fun _ h9 => h9) rfl dX1_pour_40 ?_
          refine lv_iload hx hb dX1_pour_43 (lv_at hl 2 rfl) ?_
          refine va_aldq hx hb hE.1 hP 3 1 rfl rfl (vp_in_nI hj (by omega)) dX1_pour_45 ?_
          refine lt_q (y := .ref ob) (by rw [nI_clamp (by omega), hfob]; rfl) ?_
          have hc := cut_ (wc := hw_ G ob (cm_ G (dr_ j)) arb nb capb fb) (wr := dsk_ d fa np :: fil_ G fa fo :: rsb) hE hP hD hS hA (List.Perm.refl _)
          have hbx : ∀ z ∈ L, bx (va_A (hw_ G ob (cm_ G (dr_ j)) arb nb capb fb) _) s _ z (val z) := fun z hz => isbox.out (wr := dsk_ d fa np :: fil_ G fa fo :: rsb) ((h5 z hz).mono (fun q hq => List.mem_cons_of_mem _ (List.mem_cons_of_mem _ (by rw [hrsb]; exact List.mem_append_right _ hq)))) hts hE hP hD hS hA (List.Perm.refl _)
          refine cq_ (va_runU (C := RX4) (As := []) (rest := [.ref oi]) ⟨hx, hb, hml, hown, hts⟩ (mX3_deleteMin l G (dr_ j) val L ob arb nb capb _ fb h0 hcapb.1 hcapb.2.1 hcapb.2.2 h4 h3) (va_cwU 0 hts (lw_U q354 q355 q357 q358 q5 q359) rfl rfl rfl rfl (by decide +kernel) ⟨Nat.le_of_ble_eq_true rfl, Nat.le_of_ble_eq_true rfl⟩) (Pw.preV hc hbx (va_recv hE.1 hP (ci := 0) (q0 := 0) rfl rfl)) rfl rfl hl.1 rfl (lv_room (Nat.le_of_ble_eq_true rfl)) dX1_pour_46 ⟨by show cells + 1 ≤ 128; omega, by show slots + 129 ≤ 16512; omega⟩) hP hD hS hc (List.Perm.refl _) (fun x2 u H locs hq hP hD hS => ?_)
          obtain ⟨ar2, cap2, f2⟩ := u
          obtain ⟨e_x2, hc2, hp2, hF2⟩ := hq
          have hc2 : nb - 1 ≤ cap2 ∧ 16 ≤ cap2 ∧ cap2 ≤ 128 := hc2
          refine lt_q (y := .ref y) (by rw [e_x2, ey]; rfl) ?_
          have hP : va_P G.1 clz (ho_ ob (cm_ G (dr_ j)) ar2 (nb - 1) :: oa_ G ar2 cap2 f2 :: dsk_ d fa np :: fil_ G fa fo :: rsb) _ := hP
          have hD : va_D A (ho_ ob (cm_ G (dr_ j)) ar2 (nb - 1) :: oa_ G ar2 cap2 f2 :: dsk_ d fa np :: fil_ G fa fo :: rsb) := hD
          have hbx2 : bx0 s _ y (val y) := ((h5 y hy).mono (fun q hq => mem4 (by rw [hrsb]; exact List.mem_append_right _ hq))).now hts (hE.kept hS.2.1) hP
          refine va_castE hx hb hown (hts _ q255) (bx.recv hbx2) dX1_pour_49 ?_
          have hO2 : HO G nw j (ob, ar2, nb - 1, cap2, f2) t9 := HO.take ob ar2 h0 hc2 hp2 h4 h5 (by rw [← e9]; exact hOb.2.1) (by rw [← e9]; exact h6) hF2
          have htl1 := hDR.2.1
          have htl2 := tl_two (va_up (va_up C j X) i Y) hi hj hij
          rw [eCi, eCj] at htl2
          have hnp := hDR.2.2
          have hXl : X.length = t9.length + 1 := by rw [e9]; rfl
          rw [hrsb] at hP hD
          have hP := wP_perm hP (wdk_back G d np fa fo R nw hj (ob, ar2, nb - 1, cap2, f2))
          have hD := wD_perm hD (wdk_back G d np fa fo R nw hj (ob, ar2, nb - 1, cap2, f2))
          have hDR : DkR G np (va_up (va_up (va_up C j X) i Y) j t9) fo (va_up R j (ob, ar2, nb - 1, cap2, f2)) nw := hDR.put hj (fun _ h => h) hO2 hfob (fun _ _ => rfl) (by have h1 := tl_up (va_up (va_up C j X) i Y) hj t9; rw [eCj] at h1; omega) hnp
          have hDR := hDR
          obtain ⟨hfoc, hOc⟩ := hDR.1 i hi
          have hP := wP_perm hP (wdk_perm G d np fa fo (va_up R j (ob, ar2, nb - 1, cap2, f2)) nw hi)
          have hD := wD_perm hD (wdk_perm G d np fa fo (va_up R j (ob, ar2, nb - 1, cap2, f2)) nw hi)
          obtain ⟨⟨oc, arc, nc, capc, fc⟩, hRic⟩ : ∃ q : hR, q = (va_up R j (ob, ar2, nb - 1, cap2, f2)) i := ⟨_, rfl⟩
          rw [← hRic] at hP hD hfoc hOc
          obtain ⟨rsc, hrsc⟩ : ∃ q : va_W, q = oth G (va_up R j (ob, ar2, nb - 1, cap2, f2)) i ++ nw := ⟨_, rfl⟩
          rw [← hrsc] at hP hD
          have hfoc : fo i = some oc := hfoc
          have hcapc : nc ≤ capc ∧ 16 ≤ capc ∧ capc ≤ 128 := hOc.1
          have eoi : oi = oc := Option.some.inj (hoi.symm.trans hfoc)
          subst eoi
          have eC2 : (va_up (va_up (va_up C j X) i Y) j t9) i = Y := by rw [va_up_ne _ _ hij, eCi]
          rw [eC2] at hOc
          have hnc : nc = Y.length := hOc.len
          have hP : va_P G.1 clz (ho_ oi (cm_ G (dr_ i)) arc nc :: oa_ G arc capc fc :: dsk_ d fa np :: fil_ G fa fo :: rsc) _ := hP
          have hD : va_D A (ho_ oi (cm_ G (dr_ i)) arc nc :: oa_ G arc capc fc :: dsk_ d fa np :: fil_ G fa fo :: rsc) := hD
          have hsub : ∀ q ∈ nw, q ∈ rsc := by
            intro q hq
            rw [hrsc]
            exact List.mem_append_right _ hq
          obtain ⟨val2, L2, g3, g4, g5, hyL, hyv, g6⟩ := hOc.ins (nw2 := nw) (fun _ h => h) (h5 y hy) (isbox.uniq hts (hE.kept hS.2.1) hP (fun q hq => mem4 (hsub q hq)))
          have hc := cut_ (wc := hw_ G oi (cm_ G (dr_ i)) arc nc capc fc) (wr := dsk_ d fa np :: fil_ G fa fo :: rsc) hE hP hD hS hA (List.Perm.refl _)
          have hbx3 : ∀ z ∈ L2, bx (va_A (hw_ G oi (cm_ G (dr_ i)) arc nc capc fc) _) s _ z (val2 z) := fun z hz => isbox.out (wr := dsk_ d fa np :: fil_ G fa fo :: rsc) ((g5 z hz).mono (fun q hq => List.mem_cons_of_mem _ (List.mem_cons_of_mem _ (hsub q hq)))) hts hE hP hD hS hA (List.Perm.refl _)
          refine cv_ (va_runU (C := RX4) (As := [.ref y]) (rest := []) ⟨hx, hb, hml, hown, hts⟩ (mX3_insert l G (dr_ i) val2 L2 oi y arc nc capc _ fc hcapc.1 hcapc.2.1 hcapc.2.2 (by omega) hyL g4 g3) (va_cwU 1 hts (lw_U q207 q208 q210 q211 q5 q212) rfl rfl rfl rfl (by decide +kernel) ⟨Nat.le_of_ble_eq_true rfl, Nat.le_of_ble_eq_true rfl⟩) (Pw.preV hc hbx3 (va_recv hE.1 hP (ci := 0) (q0 := 0) rfl rfl)) rfl rfl hl.1 rfl (lv_room (Nat.le_of_ble_eq_true rfl)) dX1_pour_52 ⟨by show cells + 1 + 1 ≤ 128; omega, by show slots + 129 + 129 ≤ 16512; omega⟩) hP hD hS hc (List.Perm.refl _) (fun u2 H locs hq hP hD hS => ?_)
          obtain ⟨ar3, cap3, f3⟩ := u2
          obtain ⟨hc3, hp3, hF3⟩ := hq
          have hc3 : nc + 1 ≤ cap3 ∧ 16 ≤ cap3 ∧ cap3 ≤ 128 := hc3
          have hP : va_P G.1 clz (ho_ oi (cm_ G (dr_ i)) ar3 (nc + 1) :: oa_ G ar3 cap3 f3 :: dsk_ d fa np :: fil_ G fa fo :: rsc) _ := hP
          have hD : va_D A (ho_ oi (cm_ G (dr_ i)) ar3 (nc + 1) :: oa_ G ar3 cap3 f3 :: dsk_ d fa np :: fil_ G fa fo :: rsc) := hD
          obtain ⟨Ci, hO3, hpm3⟩ := HO.mk (G := G) (nw := nw) (i := i) oi ar3 hc3 hp3 hF3 (put_S g4 hyL) g5 (K := val y :: Y) (by rw [List.map_cons, show kv_ val2 (some y) = val y from hyv]; exact List.Perm.cons _ g6)
          have hln := hpm3.length_eq
          rw [List.length_cons] at hln
          rw [hrsc] at hP hD
          have hP := wP_perm hP (wdk_back G d np fa fo (va_up R j (ob, ar2, nb - 1, cap2, f2)) nw hi (oi, ar3, nc + 1, cap3, f3))
          have hD := wD_perm hD (wdk_back G d np fa fo (va_up R j (ob, ar2, nb - 1, cap2, f2)) nw hi (oi, ar3, nc + 1, cap3, f3))
          have hDR3 : DkR G np (va_up (va_up (va_up (va_up C j X) i Y) j t9) i Ci) fo (va_up (va_up R j (ob, ar2, nb - 1, cap2, f2)) i (oi, ar3, nc + 1, cap3, f3)) nw := hDR.put hi (fun _ h => h) hO3 hfoc (fun _ _ => rfl) (by have h1 := tl_up (va_up (va_up (va_up C j X) i Y) j t9) hi Ci; have h2 := tl_up (va_up (va_up C j X) i Y) hj t9; rw [eC2] at h1; rw [eCj] at h2; omega) hnp
          refine lv_iinc (v := nI (cnt + 1)) (lv' := [(5, .int (nI (cnt + 1))), (0, .ref d), (3, .int (nI i)), (4, .int (nI j))]) hx hb dX1_pour_55 hl (k := 3) rfl (nI_1 cnt) (by decide) rfl (fun ls hl => ?_)
          refine lv_goto (tgt := 20) hx hb dX1_pour_58 (by decide) ?_
          rw [up4] at hDR3
          have ev : X = val y :: t9 := by rw [e9, ey]; rfl
          exact ih t9 Ci (cnt + 1) _ H locs ls (cells + 1 + 1) (slots + 129 + 129) (by omega) (by omega) ⟨fa, fo, _, nw, rfl, hDR3⟩ (pour_pm hpm3 (by rw [← ev]; exact hpm)) (by omega) (by omega) hP hD hS (lv_sub hl [1, 2, 3, 0] rfl)
    have hlt := tl_ge C hj
    have hnp9 : tl_ C ≤ 64 := by obtain ⟨_, _, _, _, _, h9⟩ := hDk; exact Nat.le_trans h9.2.1 h9.2.2
    have e0 : va_up (va_up C j (C j)) i (C i) = C := by
      funext k
      by_cases h1 : k = i
      · rw [h1, va_up_self]
      · rw [va_up_ne _ _ h1]
        by_cases h2 : k = j
        · rw [h2, va_up_self]
        · rw [va_up_ne _ _ h2]
    exact loop (C j).length (C j) (C i) 0 w _ _ ls 0 0 rfl (Nat.zero_add _) (by rw [e0]; exact hDk) (List.Perm.refl _) (by omega) (by omega) hP hD hS (lv_sub hl [3, 2, 1, 0] rfl)
  · exact absurd ((nI_eq (by omega) (by omega)).mp c1) hij
set_option maxHeartbeats 4000000 in
set_option maxRecDepth 100000 in
/-- fresh(i): an empty heap -/
theorem mX1_fresh (l : Launch) (G : gT) (sz i : Nat) (hi : i < 4) : Met l yX1_fresh (ws_ yX1_fresh cX1_fresh 1 (some (.object "BinaryArrayHeap"))) (rm_ 4 2 21 86) (Pw G (fun _ => 0) [] [.int (nI i)] sz []) (va_Qr (fun _ : Nat => True) (fun (u q : Nat) (t : State) => Bw G (va_A [] sz) (fun u : Nat => hw_ G q (cm_ G (dr_ i)) u 0 16 (fun _ => none)) u t) (va_A [] sz)) 2 21 (va_A [] sz) := by
  refine Met.ofW (cc := cX1_fresh) (maxL := 1) (ret := some (.object "BinaryArrayHeap")) (by decide) rfl ?_
  intro p e s m args below meth c s₁ B hml hv
  obtain ⟨rfl, hsz, hP, hD0, hE, hB⟩ := hv
  have hx := B.exec
  have hb := B.bytes
  have hr := B.returns
  have hts := atoms_spec (ws := ws_ yX1_fresh cX1_fresh 1 (some (.object "BinaryArrayHeap"))) B.pre
  have hts : ∀ w ∈ lw_all, w.before _ s = true := fun w h => hts w (List.mem_cons_of_mem _ h)
  have hown : s.vm.findClass RX1 = some m.cls := findClass_of_methodNamed B.named
  have hlocks := B.notSynchronized
  subst hsz
  have hD := hD0.self (sz := s.heap.size)
  generalize hAe : va_A ([]) s.heap.size = A at hD hE hB ⊢
  have hA : ∀ q : Nat, s.heap.size ≤ q → A q := fun q h => by rw [← hAe]; exact Or.inr h
  have hS : va_S A s.heap s.heap [] := va_S.rf
  have hl := lv_entry ([.int (nI i)]) (n := 1) (Nat.le_of_ble_eq_true rfl)
  rw [lg_entry_eq]
  generalize (lg_sl ([.int (nI i)]) ++ List.replicate (1 - (lg_sl ([.int (nI i)])).length) Slot.unset).toArray = ls at hl ⊢
  have hl : lv_has ls 1 [(0, .int (nI i))] := hl
  have hP : va_P G.1 clz ([]) _ := hP
  have hD : va_D A ([]) := hD
  refine lv_iload_n hx hb dX1_fresh_0 rfl (lv_at hl 0 rfl) ?_
  refine lv_iconst (v := 2) hx hb dX1_fresh_1 (by decide) ?_
  refine lv_icmp_ge (tgt := 15) hx hb dX1_fresh_2 (by decide) (fun c1 => ?_) (fun c1 => ?_)
  · have edr : dr_ i = true := decide_eq_true ((nI_leI (a := 2) (by omega) (by omega)).mp c1)
    refine va_new (ci := 0) (fs := [.null, .null, .int 0, .int 0]) (C := RX4) (T := TX4) (N := 4) hx hb hts in_X4 tyX4 tyX4_ok hown (hts _ q29) (hts _ q34) (hts _ q6) hE.1 hP hD hS hA rfl (fun j hj => by rcases (show j = 0 ∨ j = 1 ∨ j = 2 ∨ j = 3 by omega) with rfl | rfl | rfl | rfl <;> rfl) (Nat.le_of_ble_eq_true rfl) (Nat.le_of_ble_eq_true rfl) dX1_fresh_15 (fun q H hP hD hS => ?_)
    have hP : va_P G.1 clz ([(q, .inr (0, [.null, .null, .int 0, .int 0]))]) _ := hP
    have hD : va_D A ([(q, .inr (0, [.null, .null, .int 0, .int 0]))]) := hD
    refine lv_dup hx hb dX1_fresh_18 rfl ?_
    refine va_gets hx hb hE.2.2.2.2.2.2.1 hS hown (hts _ q170) (fun _ h9 => h9) dX1_fresh_19 ?_
    have hc := cut_ (wc := [(q, .inr (0, [.null, .null, .int 0, .int 0]))]) (wr := []) hE hP hD hS hA (List.Perm.refl _)
    refine cv_ (va_runI (As := [va_rf (some (gW G))]) (rest := [.ref q]) ⟨hx, hb, hml, hown, hts⟩ (mX4_init_2 l G q _ (some (gW G))) (cwI 1 hts (lw_meth q174) rfl rfl rfl (hts _ q6) (hts _ q172) (hts _ q173) rfl (by decide +kernel) ⟨Nat.le_of_ble_eq_true rfl, Nat.le_of_ble_eq_true rfl⟩) (Pw.pre hc no_bx) rfl rfl hl.1 rfl (lv_room (Nat.le_of_ble_eq_true rfl)) dX1_fresh_22 ⟨Nat.le_of_ble_eq_true rfl, Nat.le_of_ble_eq_true rfl⟩) hP hD hS hc (List.Perm.refl _) (fun ar H locs _ hP hD hS => ?_)
    have hP : va_P G.1 clz (hw_ G q (cm_ G (dr_ i)) ar 0 16 (fun _ => none)) H := by rw [edr]; exact hP
    have hD : va_D A (hw_ G q (cm_ G (dr_ i)) ar 0 16 (fun _ => none)) := by rw [edr]; exact hD
    exact W.aret hx hb hr (Or.inl ⟨_, rfl⟩) (Or.inr ⟨q, rfl⟩) (fun t ht hW => ⟨⟨ar, q, rfl, trivial, by rw [ht]; exact hP, hD⟩, hS.F ht⟩) hS.2.2 dX1_fresh_25
  · have edr : dr_ i = false := decide_eq_false (fun h9 => c1 (nI_le (a := 2) h9 (by omega)))
    refine va_new (ci := 0) (fs := [.null, .null, .int 0, .int 0]) (C := RX4) (T := TX4) (N := 4) hx hb hts in_X4 tyX4 tyX4_ok hown (hts _ q29) (hts _ q34) (hts _ q6) hE.1 hP hD hS hA rfl (fun j hj => by rcases (show j = 0 ∨ j = 1 ∨ j = 2 ∨ j = 3 by omega) with rfl | rfl | rfl | rfl <;> rfl) (Nat.le_of_ble_eq_true rfl) (Nat.le_of_ble_eq_true rfl) dX1_fresh_5 (fun q H hP hD hS => ?_)
    have hP : va_P G.1 clz ([(q, .inr (0, [.null, .null, .int 0, .int 0]))]) _ := hP
    have hD : va_D A ([(q, .inr (0, [.null, .null, .int 0, .int 0]))]) := hD
    refine lv_dup hx hb dX1_fresh_8 rfl ?_
    have hc := cut_ (wc := [(q, .inr (0, [.null, .null, .int 0, .int 0]))]) (wr := []) hE hP hD hS hA (List.Perm.refl _)
    refine cv_ (va_runI (As := []) (rest := [.ref q]) ⟨hx, hb, hml, hown, hts⟩ (mX4_init l G q _) (cwI 0 hts (lw_meth q37) rfl rfl rfl (hts _ q6) (hts _ q35) (hts _ q36) rfl (by decide +kernel) ⟨Nat.le_of_ble_eq_true rfl, Nat.le_of_ble_eq_true rfl⟩) (Pw.pre hc no_bx) rfl rfl hl.1 rfl (lv_room (Nat.le_of_ble_eq_true rfl)) dX1_fresh_9 ⟨Nat.le_of_ble_eq_true rfl, Nat.le_of_ble_eq_true rfl⟩) hP hD hS hc (List.Perm.refl _) (fun ar H locs _ hP hD hS => ?_)
    refine lv_goto (tgt := 25) hx hb dX1_fresh_12 (by decide) ?_
    have hP : va_P G.1 clz (hw_ G q (cm_ G (dr_ i)) ar 0 16 (fun _ => none)) H := by rw [edr]; exact hP
    have hD : va_D A (hw_ G q (cm_ G (dr_ i)) ar 0 16 (fun _ => none)) := by rw [edr]; exact hD
    exact W.aret hx hb hr (Or.inl ⟨_, rfl⟩) (Or.inr ⟨q, rfl⟩) (fun t ht hW => ⟨⟨ar, q, rfl, trivial, by rw [ht]; exact hP, hD⟩, hS.F ht⟩) hS.2.2 dX1_fresh_25
set_option maxHeartbeats 4000000 in
set_option maxRecDepth 100000 in
/-- make(): four empty heaps -/
theorem mX1_make (l : Launch) (G : gT) (sz : Nat) : Met l yX1_make (ws_ yX1_make cX1_make 2 (some (.array (.object "BinaryArrayHeap")))) (rm_ 5 9 88 106) (Pw G (fun _ => 0) [] [] sz []) (va_Qr (fun u : (Nat → Option Nat) × (Nat → hR) => ∀ i, i < 4 → u.1 i = some (u.2 i).1 ∧ ∃ o ar : Nat, u.2 i = ((o, ar, 0, 16, fun _ => none) : hR)) (fun u q t => Bw G (va_A [] sz) (fun u : (Nat → Option Nat) × (Nat → hR) => fil_ G q u.1 :: (hwR G 0 (u.2 0) ++ (hwR G 1 (u.2 1) ++ (hwR G 2 (u.2 2) ++ hwR G 3 (u.2 3))))) u t) (va_A [] sz)) 9 88 (va_A [] sz) := by
  refine Met.ofW (cc := cX1_make) (maxL := 2) (ret := some (.array (.object "BinaryArrayHeap"))) (by decide) rfl ?_
  intro p e s m args below meth c s₁ B hml hv
  obtain ⟨rfl, hsz, hP, hD0, hE, hB⟩ := hv
  have hx := B.exec
  have hb := B.bytes
  have hr := B.returns
  have hts := atoms_spec (ws := ws_ yX1_make cX1_make 2 (some (.array (.object "BinaryArrayHeap")))) B.pre
  have hts : ∀ w ∈ lw_all, w.before _ s = true := fun w h => hts w (List.mem_cons_of_mem _ h)
  have hown : s.vm.findClass RX1 = some m.cls := findClass_of_methodNamed B.named
  have hlocks := B.notSynchronized
  subst hsz
  have hD := hD0.self (sz := s.heap.size)
  generalize hAe : va_A ([]) s.heap.size = A at hD hE hB ⊢
  have hA : ∀ q : Nat, s.heap.size ≤ q → A q := fun q h => by rw [← hAe]; exact Or.inr h
  have hS : va_S A s.heap s.heap [] := va_S.rf
  have hl := lv_entry ([]) (n := 2) (Nat.le_of_ble_eq_true rfl)
  rw [lg_entry_eq]
  generalize (lg_sl ([]) ++ List.replicate (2 - (lg_sl ([])).length) Slot.unset).toArray = ls at hl ⊢
  have hl : lv_has ls 2 [] := hl
  have hP : va_P G.1 clz ([]) _ := hP
  have hD : va_D A ([]) := hD
  refine lv_iconst (v := 4) hx hb dX1_make_0 (by decide) ?_
  refine va_newq hx hb hown (hts _ q29) hE.2.1.1.2.1 hE.1 hP hD hS hA (N' := 4) (by decide) (by decide) (by decide) (Nat.le_of_ble_eq_true rfl) (Nat.le_of_ble_eq_true rfl) dX1_make_1 (fun fa cA H hK9 hP hD hS => ?_)
  have ecA : cA = gF G := RA_uniq (hK9.2 5 (cA, .object "BinaryArrayHeap") rfl).2 (hE.1.2 1 (gF G, .object "BinaryArrayHeap") rfl).2
  subst ecA
  have hP : va_P G.1 clz ([fil_ G fa (fun _ => none)]) _ := hP
  have hD : va_D A ([fil_ G fa (fun _ => none)]) := hD
  refine lv_astore_n (lv' := [(0, .ref fa)]) hx hb dX1_make_4 rfl hl (by decide) rfl (fun ls hl => ?_)
  refine lv_iconst (v := 0) hx hb dX1_make_5 (by decide) ?_
  refine lt_i (y := nI 0) (nI_0.symm) ?_
  refine lv_istore_n (lv' := [(1, .int (nI 0)), (0, .ref fa)]) hx hb dX1_make_6 rfl hl (by decide) rfl (fun ls hl => ?_)
  refine lv_iload_n hx hb dX1_make_7 rfl (lv_at hl 0 rfl) ?_
  refine lv_iconst (v := 4) hx hb dX1_make_8 (by decide) ?_
  refine lv_icmp_ge (tgt := 25) hx hb dX1_make_9 (by decide) (fun c9 => absurd c9 (by decide)) (fun _ => ?_)
  refine lv_aload_n hx hb dX1_make_12 rfl (lv_at hl 1 rfl) ?_
  refine lv_iload_n hx hb dX1_make_13 rfl (lv_at hl 0 rfl) ?_
  refine lv_iload_n hx hb dX1_make_14 rfl (lv_at hl 0 rfl) ?_
  have hc := cut_ (wc := []) (wr := [fil_ G fa (fun _ => none)]) hE hP hD hS hA (List.Perm.refl _)
  refine cr_ (wr := [fil_ G fa (fun _ => none)]) (va_runS (As := [.int (nI 0)]) (rest := [.int (nI 0), .ref fa]) ⟨hx, hb, hml, hown, hts⟩ (mX1_fresh l G _ 0 (by decide)) (va_cwS 1 hts (lw_S q31 q32 q3 q33) rfl rfl rfl (by decide +kernel) ⟨Nat.le_of_ble_eq_true rfl, Nat.le_of_ble_eq_true rfl⟩) (Pw.pre hc no_bx) rfl rfl hl.1 rfl (lv_room (Nat.le_of_ble_eq_true rfl)) dX1_make_15 ⟨Nat.le_of_ble_eq_true rfl, Nat.le_of_ble_eq_true rfl⟩) hP hD hS hc (List.Perm.refl _) (fun ar0 o0 H locs _ hP hD hS => ?_)
  have hP : va_P G.1 clz ([ho_ o0 (cm_ G (dr_ 0)) ar0 0, oa_ G ar0 16 (fun _ => none), fil_ G fa (fun _ => none)]) _ := hP
  have hD : va_D A ([ho_ o0 (cm_ G (dr_ 0)) ar0 0, oa_ G ar0 16 (fun _ => none), fil_ G fa (fun _ => none)]) := hD
  refine va_astq hx hb hE.1 hP hD hS 2 1 0 0 (r := (RX4, TX4, 4)) rfl rfl rfl rfl (vp_in_nI (n := 0) (by decide) (by decide)) dX1_make_18 (fun H locs hP hD hS => ?_)
  rw [show (nI 0).toNatClampNeg = 0 from by decide] at hP hD
  have hP : va_P G.1 clz ([ho_ o0 (cm_ G (dr_ 0)) ar0 0, oa_ G ar0 16 (fun _ => none), fil_ G fa (va_up (fun _ => none) 0 (some o0))]) _ := hP
  have hD : va_D A ([ho_ o0 (cm_ G (dr_ 0)) ar0 0, oa_ G ar0 16 (fun _ => none), fil_ G fa (va_up (fun _ => none) 0 (some o0))]) := hD
  refine lv_iinc (v := nI 1) (lv' := [(1, .int (nI 1)), (0, .ref fa)]) hx hb dX1_make_19 hl (k := 0) rfl (by decide) (by decide) rfl (fun ls hl => ?_)
  refine lv_goto (tgt := 7) hx hb dX1_make_22 (by decide) ?_
  refine lv_iload_n hx hb dX1_make_7 rfl (lv_at hl 0 rfl) ?_
  refine lv_iconst (v := 4) hx hb dX1_make_8 (by decide) ?_
  refine lv_icmp_ge (tgt := 25) hx hb dX1_make_9 (by decide) (fun c9 => absurd c9 (by decide)) (fun _ => ?_)
  refine lv_aload_n hx hb dX1_make_12 rfl (lv_at hl 1 rfl) ?_
  refine lv_iload_n hx hb dX1_make_13 rfl (lv_at hl 0 rfl) ?_
  refine lv_iload_n hx hb dX1_make_14 rfl (lv_at hl 0 rfl) ?_
  have hc := cut_ (wc := []) (wr := [ho_ o0 (cm_ G (dr_ 0)) ar0 0, oa_ G ar0 16 (fun _ => none), fil_ G fa (va_up (fun _ => none) 0 (some o0))]) hE hP hD hS hA (List.Perm.refl _)
  refine cr_ (wr := [ho_ o0 (cm_ G (dr_ 0)) ar0 0, oa_ G ar0 16 (fun _ => none), fil_ G fa (va_up (fun _ => none) 0 (some o0))]) (va_runS (As := [.int (nI 1)]) (rest := [.int (nI 1), .ref fa]) ⟨hx, hb, hml, hown, hts⟩ (mX1_fresh l G _ 1 (by decide)) (va_cwS 1 hts (lw_S q31 q32 q3 q33) rfl rfl rfl (by decide +kernel) ⟨Nat.le_of_ble_eq_true rfl, Nat.le_of_ble_eq_true rfl⟩) (Pw.pre hc no_bx) rfl rfl hl.1 rfl (lv_room (Nat.le_of_ble_eq_true rfl)) dX1_make_15 ⟨Nat.le_of_ble_eq_true rfl, Nat.le_of_ble_eq_true rfl⟩) hP hD hS hc (List.Perm.refl _) (fun ar1 o1 H locs _ hP hD hS => ?_)
  have hP : va_P G.1 clz ([ho_ o1 (cm_ G (dr_ 1)) ar1 0, oa_ G ar1 16 (fun _ => none), ho_ o0 (cm_ G (dr_ 0)) ar0 0, oa_ G ar0 16 (fun _ => none), fil_ G fa (va_up (fun _ => none) 0 (some o0))]) _ := hP
  have hD : va_D A ([ho_ o1 (cm_ G (dr_ 1)) ar1 0, oa_ G ar1 16 (fun _ => none), ho_ o0 (cm_ G (dr_ 0)) ar0 0, oa_ G ar0 16 (fun _ => none), fil_ G fa (va_up (fun _ => none) 0 (some o0))]) := hD
  refine va_astq hx hb hE.1 hP hD hS 4 1 0 0 (r := (RX4, TX4, 4)) rfl rfl rfl rfl (vp_in_nI (n := 1) (by decide) (by decide)) dX1_make_18 (fun H locs hP hD hS => ?_)
  rw [show (nI 1).toNatClampNeg = 1 from by decide] at hP hD
  have hP : va_P G.1 clz ([ho_ o1 (cm_ G (dr_ 1)) ar1 0, oa_ G ar1 16 (fun _ => none), ho_ o0 (cm_ G (dr_ 0)) ar0 0, oa_ G ar0 16 (fun _ => none), fil_ G fa (va_up (va_up (fun _ => none) 0 (some o0)) 1 (some o1))]) _ := hP
  have hD : va_D A ([ho_ o1 (cm_ G (dr_ 1)) ar1 0, oa_ G ar1 16 (fun _ => none), ho_ o0 (cm_ G (dr_ 0)) ar0 0, oa_ G ar0 16 (fun _ => none), fil_ G fa (va_up (va_up (fun _ => none) 0 (some o0)) 1 (some o1))]) := hD
  refine lv_iinc (v := nI 2) (lv' := [(1, .int (nI 2)), (0, .ref fa)]) hx hb dX1_make_19 hl (k := 0) rfl (by decide) (by decide) rfl (fun ls hl => ?_)
  refine lv_goto (tgt := 7) hx hb dX1_make_22 (by decide) ?_
  refine lv_iload_n hx hb dX1_make_7 rfl (lv_at hl 0 rfl) ?_
  refine lv_iconst (v := 4) hx hb dX1_make_8 (by decide) ?_
  refine lv_icmp_ge (tgt := 25) hx hb dX1_make_9 (by decide) (fun c9 => absurd c9 (by decide)) (fun _ => ?_)
  refine lv_aload_n hx hb dX1_make_12 rfl (lv_at hl 1 rfl) ?_
  refine lv_iload_n hx hb dX1_make_13 rfl (lv_at hl 0 rfl) ?_
  refine lv_iload_n hx hb dX1_make_14 rfl (lv_at hl 0 rfl) ?_
  have hc := cut_ (wc := []) (wr := [ho_ o1 (cm_ G (dr_ 1)) ar1 0, oa_ G ar1 16 (fun _ => none), ho_ o0 (cm_ G (dr_ 0)) ar0 0, oa_ G ar0 16 (fun _ => none), fil_ G fa (va_up (va_up (fun _ => none) 0 (some o0)) 1 (some o1))]) hE hP hD hS hA (List.Perm.refl _)
  refine cr_ (wr := [ho_ o1 (cm_ G (dr_ 1)) ar1 0, oa_ G ar1 16 (fun _ => none), ho_ o0 (cm_ G (dr_ 0)) ar0 0, oa_ G ar0 16 (fun _ => none), fil_ G fa (va_up (va_up (fun _ => none) 0 (some o0)) 1 (some o1))]) (va_runS (As := [.int (nI 2)]) (rest := [.int (nI 2), .ref fa]) ⟨hx, hb, hml, hown, hts⟩ (mX1_fresh l G _ 2 (by decide)) (va_cwS 1 hts (lw_S q31 q32 q3 q33) rfl rfl rfl (by decide +kernel) ⟨Nat.le_of_ble_eq_true rfl, Nat.le_of_ble_eq_true rfl⟩) (Pw.pre hc no_bx) rfl rfl hl.1 rfl (lv_room (Nat.le_of_ble_eq_true rfl)) dX1_make_15 ⟨Nat.le_of_ble_eq_true rfl, Nat.le_of_ble_eq_true rfl⟩) hP hD hS hc (List.Perm.refl _) (fun ar2 o2 H locs _ hP hD hS => ?_)
  have hP : va_P G.1 clz ([ho_ o2 (cm_ G (dr_ 2)) ar2 0, oa_ G ar2 16 (fun _ => none), ho_ o1 (cm_ G (dr_ 1)) ar1 0, oa_ G ar1 16 (fun _ => none), ho_ o0 (cm_ G (dr_ 0)) ar0 0, oa_ G ar0 16 (fun _ => none), fil_ G fa (va_up (va_up (fun _ => none) 0 (some o0)) 1 (some o1))]) _ := hP
  have hD : va_D A ([ho_ o2 (cm_ G (dr_ 2)) ar2 0, oa_ G ar2 16 (fun _ => none), ho_ o1 (cm_ G (dr_ 1)) ar1 0, oa_ G ar1 16 (fun _ => none), ho_ o0 (cm_ G (dr_ 0)) ar0 0, oa_ G ar0 16 (fun _ => none), fil_ G fa (va_up (va_up (fun _ => none) 0 (some o0)) 1 (some o1))]) := hD
  refine va_astq hx hb hE.1 hP hD hS 6 1 0 0 (r := (RX4, TX4, 4)) rfl rfl rfl rfl (vp_in_nI (n := 2) (by decide) (by decide)) dX1_make_18 (fun H locs hP hD hS => ?_)
  rw [show (nI 2).toNatClampNeg = 2 from by decide] at hP hD
  have hP : va_P G.1 clz ([ho_ o2 (cm_ G (dr_ 2)) ar2 0, oa_ G ar2 16 (fun _ => none), ho_ o1 (cm_ G (dr_ 1)) ar1 0, oa_ G ar1 16 (fun _ => none), ho_ o0 (cm_ G (dr_ 0)) ar0 0, oa_ G ar0 16 (fun _ => none), fil_ G fa (va_up (va_up (va_up (fun _ => none) 0 (some o0)) 1 (some o1)) 2 (some o2))]) _ := hP
  have hD : va_D A ([ho_ o2 (cm_ G (dr_ 2)) ar2 0, oa_ G ar2 16 (fun _ => none), ho_ o1 (cm_ G (dr_ 1)) ar1 0, oa_ G ar1 16 (fun _ => none), ho_ o0 (cm_ G (dr_ 0)) ar0 0, oa_ G ar0 16 (fun _ => none), fil_ G fa (va_up (va_up (va_up (fun _ => none) 0 (some o0)) 1 (some o1)) 2 (some o2))]) := hD
  refine lv_iinc (v := nI 3) (lv' := [(1, .int (nI 3)), (0, .ref fa)]) hx hb dX1_make_19 hl (k := 0) rfl (by decide) (by decide) rfl (fun ls hl => ?_)
  refine lv_goto (tgt := 7) hx hb dX1_make_22 (by decide) ?_
  refine lv_iload_n hx hb dX1_make_7 rfl (lv_at hl 0 rfl) ?_
  refine lv_iconst (v := 4) hx hb dX1_make_8 (by decide) ?_
  refine lv_icmp_ge (tgt := 25) hx hb dX1_make_9 (by decide) (fun c9 => absurd c9 (by decide)) (fun _ => ?_)
  refine lv_aload_n hx hb dX1_make_12 rfl (lv_at hl 1 rfl) ?_
  refine lv_iload_n hx hb dX1_make_13 rfl (lv_at hl 0 rfl) ?_
  refine lv_iload_n hx hb dX1_make_14 rfl (lv_at hl 0 rfl) ?_
  have hc := cut_ (wc := []) (wr := [ho_ o2 (cm_ G (dr_ 2)) ar2 0, oa_ G ar2 16 (fun _ => none), ho_ o1 (cm_ G (dr_ 1)) ar1 0, oa_ G ar1 16 (fun _ => none), ho_ o0 (cm_ G (dr_ 0)) ar0 0, oa_ G ar0 16 (fun _ => none), fil_ G fa (va_up (va_up (va_up (fun _ => none) 0 (some o0)) 1 (some o1)) 2 (some o2))]) hE hP hD hS hA (List.Perm.refl _)
  refine cr_ (wr := [ho_ o2 (cm_ G (dr_ 2)) ar2 0, oa_ G ar2 16 (fun _ => none), ho_ o1 (cm_ G (dr_ 1)) ar1 0, oa_ G ar1 16 (fun _ => none), ho_ o0 (cm_ G (dr_ 0)) ar0 0, oa_ G ar0 16 (fun _ => none), fil_ G fa (va_up (va_up (va_up (fun _ => none) 0 (some o0)) 1 (some o1)) 2 (some o2))]) (va_runS (As := [.int (nI 3)]) (rest := [.int (nI 3), .ref fa]) ⟨hx, hb, hml, hown, hts⟩ (mX1_fresh l G _ 3 (by decide)) (va_cwS 1 hts (lw_S q31 q32 q3 q33) rfl rfl rfl (by decide +kernel) ⟨Nat.le_of_ble_eq_true rfl, Nat.le_of_ble_eq_true rfl⟩) (Pw.pre hc no_bx) rfl rfl hl.1 rfl (lv_room (Nat.le_of_ble_eq_true rfl)) dX1_make_15 ⟨Nat.le_of_ble_eq_true rfl, Nat.le_of_ble_eq_true rfl⟩) hP hD hS hc (List.Perm.refl _) (fun ar3 o3 H locs _ hP hD hS => ?_)
  have hP : va_P G.1 clz ([ho_ o3 (cm_ G (dr_ 3)) ar3 0, oa_ G ar3 16 (fun _ => none), ho_ o2 (cm_ G (dr_ 2)) ar2 0, oa_ G ar2 16 (fun _ => none), ho_ o1 (cm_ G (dr_ 1)) ar1 0, oa_ G ar1 16 (fun _ => none), ho_ o0 (cm_ G (dr_ 0)) ar0 0, oa_ G ar0 16 (fun _ => none), fil_ G fa (va_up (va_up (va_up (fun _ => none) 0 (some o0)) 1 (some o1)) 2 (some o2))]) _ := hP
  have hD : va_D A ([ho_ o3 (cm_ G (dr_ 3)) ar3 0, oa_ G ar3 16 (fun _ => none), ho_ o2 (cm_ G (dr_ 2)) ar2 0, oa_ G ar2 16 (fun _ => none), ho_ o1 (cm_ G (dr_ 1)) ar1 0, oa_ G ar1 16 (fun _ => none), ho_ o0 (cm_ G (dr_ 0)) ar0 0, oa_ G ar0 16 (fun _ => none), fil_ G fa (va_up (va_up (va_up (fun _ => none) 0 (some o0)) 1 (some o1)) 2 (some o2))]) := hD
  refine va_astq hx hb hE.1 hP hD hS 8 1 0 0 (r := (RX4, TX4, 4)) rfl rfl rfl rfl (vp_in_nI (n := 3) (by decide) (by decide)) dX1_make_18 (fun H locs hP hD hS => ?_)
  rw [show (nI 3).toNatClampNeg = 3 from by decide] at hP hD
  have hP : va_P G.1 clz ([ho_ o3 (cm_ G (dr_ 3)) ar3 0, oa_ G ar3 16 (fun _ => none), ho_ o2 (cm_ G (dr_ 2)) ar2 0, oa_ G ar2 16 (fun _ => none), ho_ o1 (cm_ G (dr_ 1)) ar1 0, oa_ G ar1 16 (fun _ => none), ho_ o0 (cm_ G (dr_ 0)) ar0 0, oa_ G ar0 16 (fun _ => none), fil_ G fa (va_up (va_up (va_up (va_up (fun _ => none) 0 (some o0)) 1 (some o1)) 2 (some o2)) 3 (some o3))]) _ := hP
  have hD : va_D A ([ho_ o3 (cm_ G (dr_ 3)) ar3 0, oa_ G ar3 16 (fun _ => none), ho_ o2 (cm_ G (dr_ 2)) ar2 0, oa_ G ar2 16 (fun _ => none), ho_ o1 (cm_ G (dr_ 1)) ar1 0, oa_ G ar1 16 (fun _ => none), ho_ o0 (cm_ G (dr_ 0)) ar0 0, oa_ G ar0 16 (fun _ => none), fil_ G fa (va_up (va_up (va_up (va_up (fun _ => none) 0 (some o0)) 1 (some o1)) 2 (some o2)) 3 (some o3))]) := hD
  refine lv_iinc (v := nI 4) (lv' := [(1, .int (nI 4)), (0, .ref fa)]) hx hb dX1_make_19 hl (k := 0) rfl (by decide) (by decide) rfl (fun ls hl => ?_)
  refine lv_goto (tgt := 7) hx hb dX1_make_22 (by decide) ?_
  refine lv_iload_n hx hb dX1_make_7 rfl (lv_at hl 0 rfl) ?_
  refine lv_iconst (v := 4) hx hb dX1_make_8 (by decide) ?_
  refine lv_icmp_ge (tgt := 25) hx hb dX1_make_9 (by decide) (fun _ => ?_) (fun c9 => absurd (show (4 : Int32) ≤ nI 4 by decide) c9)
  refine lv_aload_n hx hb dX1_make_25 rfl (lv_at hl 1 rfl) ?_
  have hP := hP.sub (ws' := fil_ G fa (va_up (va_up (va_up (va_up (fun _ => none) 0 (some o0)) 1 (some o1)) 2 (some o2)) 3 (some o3)) :: (hwR G 0 ((mk_R o0 ar0 o1 ar1 o2 ar2 o3 ar3) 0) ++ (hwR G 1 ((mk_R o0 ar0 o1 ar1 o2 ar2 o3 ar3) 1) ++ (hwR G 2 ((mk_R o0 ar0 o1 ar1 o2 ar2 o3 ar3) 2) ++ hwR G 3 ((mk_R o0 ar0 o1 ar1 o2 ar2 o3 ar3) 3))))) [8, 6, 7, 4, 5, 2, 3, 0, 1] rfl
  have hD := hD.sub (ws' := fil_ G fa (va_up (va_up (va_up (va_up (fun _ => none) 0 (some o0)) 1 (some o1)) 2 (some o2)) 3 (some o3)) :: (hwR G 0 ((mk_R o0 ar0 o1 ar1 o2 ar2 o3 ar3) 0) ++ (hwR G 1 ((mk_R o0 ar0 o1 ar1 o2 ar2 o3 ar3) 1) ++ (hwR G 2 ((mk_R o0 ar0 o1 ar1 o2 ar2 o3 ar3) 2) ++ hwR G 3 ((mk_R o0 ar0 o1 ar1 o2 ar2 o3 ar3) 3))))) [8, 6, 7, 4, 5, 2, 3, 0, 1] (by decide) rfl
  exact W.aret hx hb hr (Or.inr ⟨_, rfl⟩) (Or.inr ⟨fa, rfl⟩) (fun t ht hW => ⟨⟨((va_up (va_up (va_up (va_up (fun _ => none) 0 (some o0)) 1 (some o1)) 2 (some o2)) 3 (some o3)), (mk_R o0 ar0 o1 ar1 o2 ar2 o3 ar3)), fa, rfl, (fun i hi => lt4 (P := fun i => (va_up (va_up (va_up (va_up (fun _ => none) 0 (some o0)) 1 (some o1)) 2 (some o2)) 3 (some o3)) i = some ((mk_R o0 ar0 o1 ar1 o2 ar2 o3 ar3) i).1 ∧ ∃ o ar : Nat, (mk_R o0 ar0 o1 ar1 o2 ar2 o3 ar3) i = ((o, ar, 0, 16, fun _ => none) : hR)) hi ⟨rfl, _, _, rfl⟩ ⟨rfl, _, _, rfl⟩ ⟨rfl, _, _, rfl⟩ ⟨rfl, _, _, rfl⟩), by rw [ht]; exact hP, hD⟩, hS.F ht⟩) hS.2.2 dX1_make_26
set_option maxHeartbeats 4000000 in
set_option maxRecDepth 100000 in
/-- a new desk -/
theorem mX1_init (l : Launch) (G : gT) (d sz : Nat) : Met l yX1_init (ws_ yX1_init cX1_init 1 none) (rm_ 6 9 88 127) (Pw G (fun _ => 0) [] [.ref d] sz [(d, .inr (1, [.null, .int 0]))]) (va_Qv (fun u : va_W => Dk G d 0 (fun _ => []) u) (Bw G (va_A [(d, .inr (1, [.null, .int 0]))] sz) (fun u => u)) (va_A [(d, .inr (1, [.null, .int 0]))] sz)) 9 88 (va_A [(d, .inr (1, [.null, .int 0]))] sz) := by
  refine Met.ofW (cc := cX1_init) (maxL := 1) (ret := none) (by decide) rfl ?_
  intro p e s m args below meth c s₁ B hml hv
  obtain ⟨rfl, hsz, hP, hD0, hE, hB⟩ := hv
  have hx := B.exec
  have hb := B.bytes
  have hr := B.returns
  have hts := atoms_spec (ws := ws_ yX1_init cX1_init 1 none) B.pre
  have hts : ∀ w ∈ lw_all, w.before _ s = true := fun w h => hts w (List.mem_cons_of_mem _ h)
  have hin : meth.name = "<init>" := (name_of_methodNamed B.named B.method).1
  have hown : s.vm.findClass RX1 = some m.cls := findClass_of_methodNamed B.named
  have hlocks := B.notSynchronized
  subst hsz
  have hD := hD0.self (sz := s.heap.size)
  generalize hAe : va_A ([(d, .inr (1, [.null, .int 0]))]) s.heap.size = A at hD hE hB ⊢
  have hA : ∀ q : Nat, s.heap.size ≤ q → A q := fun q h => by rw [← hAe]; exact Or.inr h
  have hS : va_S A s.heap s.heap [] := va_S.rf
  have hl := lv_entry ([.ref d]) (n := 1) (Nat.le_of_ble_eq_true rfl)
  rw [lg_entry_eq]
  generalize (lg_sl ([.ref d]) ++ List.replicate (1 - (lg_sl ([.ref d])).length) Slot.unset).toArray = ls at hl ⊢
  have hl : lv_has ls 1 [(0, .ref d)] := hl
  have hP : va_P G.1 clz ([(d, .inr (1, [.null, .int 0]))]) _ := hP
  have hD : va_D A ([(d, .inr (1, [.null, .int 0]))]) := hD
  refine lv_aload_n hx hb dX1_init_0 rfl (lv_at hl 0 rfl) ?_
  refine W.objInit hx hb hown (hts _ q23) (hts _ q24) (hts _ q25) rfl (by rw [hml]; exact hl.1) rfl dX1_init_1 (Nat.le_of_ble_eq_true rfl) (Nat.le_of_ble_eq_true rfl) ?_
  refine W.eq (g2 := F0 m 4 ls []) rfl ?_
  refine lv_aload_n hx hb dX1_init_4 rfl (lv_at hl 0 rfl) ?_
  have hc := cut_ (wc := []) (wr := [(d, .inr (1, [.null, .int 0]))]) hE hP hD hS hA (List.Perm.refl _)
  refine cr_ (wr := [(d, .inr (1, [.null, .int 0]))]) (va_runS (As := []) (rest := [.ref d]) ⟨hx, hb, hml, hown, hts⟩ (mX1_make l G _) (va_cwS 0 hts (lw_S q26 q27 q3 q28) rfl rfl rfl (by decide +kernel) ⟨Nat.le_of_ble_eq_true rfl, Nat.le_of_ble_eq_true rfl⟩) (Pw.pre hc no_bx) rfl rfl hl.1 rfl (lv_room (Nat.le_of_ble_eq_true rfl)) dX1_init_5 ⟨Nat.le_of_ble_eq_true rfl, Nat.le_of_ble_eq_true rfl⟩) hP hD hS hc (List.Perm.refl _) (fun u fa H locs hq hP hD hS => ?_)
  obtain ⟨fo, R⟩ := u
  have hP : va_P G.1 clz ((fil_ G fa fo :: (hwR G 0 (R 0) ++ (hwR G 1 (R 1) ++ (hwR G 2 (R 2) ++ hwR G 3 (R 3))))) ++ [(d, .inr (1, [.null, .int 0]))]) _ := hP
  have hD : va_D A ((fil_ G fa fo :: (hwR G 0 (R 0) ++ (hwR G 1 (R 1) ++ (hwR G 2 (R 2) ++ hwR G 3 (R 3))))) ++ [(d, .inr (1, [.null, .int 0]))]) := hD
  refine va_putF (D := G.1) (ci := 1) (v := .ref fa) (ty := .array (.object "BinaryArrayHeap")) (C := RX1) (T := TX1) (N := 2) hx hb hts in_X1 tyX1 tyX1_ok nmX1 hown hE.1 hP hD hS 9 rfl rfl 0 (by decide) (hts _ q175) (fun _ h9 => h9) rfl hin rfl (by decide +kernel) (rfl) (rfl) (Nat.le_of_ble_eq_true rfl) dX1_init_8 (fun H locs hP hD hS => ?_)
  have hP : va_P G.1 clz ((fil_ G fa fo :: (hwR G 0 (R 0) ++ (hwR G 1 (R 1) ++ (hwR G 2 (R 2) ++ hwR G 3 (R 3))))) ++ [dsk_ d fa 0]) _ := hP
  have hD : va_D A ((fil_ G fa fo :: (hwR G 0 (R 0) ++ (hwR G 1 (R 1) ++ (hwR G 2 (R 2) ++ hwR G 3 (R 3))))) ++ [dsk_ d fa 0]) := hD
  have hP := hP.sub (ws' := wdk G d 0 fa fo R []) [9, 0, 1, 2, 3, 4, 5, 6, 7, 8] rfl
  have hD := hD.sub (ws' := wdk G d 0 fa fo R []) [9, 0, 1, 2, 3, 4, 5, 6, 7, 8] (by decide) rfl
  have hDR : DkR G 0 (fun _ => []) fo R [] := ⟨fun i hi => ⟨(hq i hi).1, by obtain ⟨o, ar, e9⟩ := (hq i hi).2; rw [show R i = ((o, ar, 0, 16, fun _ => none) : hR) from e9]; exact HO.none o ar _ (by decide)⟩, Nat.le_refl _, Nat.zero_le _⟩
  exact W.vret hx hb hr (fun t ht hW => ⟨⟨_, rfl, ⟨fa, fo, R, [], rfl, hDR⟩, by rw [ht]; exact hP, hD⟩, hS.F ht⟩) hS.2.2 dX1_init_11
end
section
/-! THE LAW: at, ahead, drain -/
set_option maxRecDepth 100000
theorem an3 {i : Nat} (hi : i < 4) : nI i &&& 3 = nI i := by
  have h := pk_andN (n := i) (by omega) (m := 3) 2 (by decide)
  rw [h, Nat.mod_eq_of_lt (by omega)]
theorem Dk.recv {G : gT} {d np : Nat} {C : Nat → List Int32} {w : va_W} {s : State} {H : Heap} {tys : List (ClassId × FieldType)} (h : Dk G d np C w) (hP : va_P G.1 clz w H) (hK : va_K G.1 clz tys s) : ∃ cell : Cell, H[d]? = some cell ∧ cell.vm.isStatics = false ∧ s.vm.findClass RX1 = some cell.cls := by
  obtain ⟨fa, fo, R, nw, rfl, -⟩ := h
  exact va_recv hK hP (ci := 1) (q0 := 0) rfl rfl
theorem Dk.so {G : gT} {d np : Nat} {C : Nat → List Int32} {w : va_W} (h : Dk G d np C w) {i : Nat} (hi : i < 4) : so_ (dr_ i) (C i) := by
  obtain ⟨fa, fo, R, nw, rfl, hDR⟩ := h
  exact (hDR.1 i hi).2.2.1
theorem Dk.tl {G : gT} {d np : Nat} {C : Nat → List Int32} {w : va_W} (h : Dk G d np C w) : tl_ C ≤ np ∧ np ≤ 64 := by
  obtain ⟨fa, fo, R, nw, rfl, hDR⟩ := h
  exact hDR.2
abbrev ia_ (G : gT) (q : Nat) (f : Nat → Int32) : Nat × va_E := (q, .inl (gI G, 64, .inl f))
abbrev za_ (G : gT) (q : Nat) (f : Nat → Int32) : Nat × va_E := (q, .inl (gZ G, 64, .inl f))
/-- the keys that aren't gone -/
def rem_ (kf gf : Nat → Int32) (n : Nat) : List Int32 := ((List.range n).filter (fun j => decide (gf j = 0))).map kf
theorem rem_0 (kf : Nat → Int32) (n : Nat) : rem_ kf (fun _ => 0) n = (List.range n).map kf := by
  unfold rem_
  rw [List.filter_eq_self.mpr (fun a _ => by simp)]
theorem rem_succ (kf gf : Nat → Int32) (n : Nat) : rem_ kf gf (n + 1) = rem_ kf gf n ++ (if gf n = 0 then [kf n] else []) := by
  unfold rem_
  rw [List.range_succ, List.filter_append, List.map_append]
  by_cases e : gf n = 0
  · simp [e]
  · simp [e]
theorem rem_congr {kf gf hf : Nat → Int32} {n : Nat} (h : ∀ j, j < n → hf j = gf j) : rem_ kf hf n = rem_ kf gf n := by
  unfold rem_
  rw [List.filter_congr (fun j hj => by rw [h j (List.mem_range.mp hj)])]
theorem rem_mem {kf gf : Nat → Int32} {n : Nat} {a : Int32} (h : a ∈ rem_ kf gf n) : ∃ j, j < n ∧ gf j = 0 ∧ kf j = a := by
  obtain ⟨j, hj, e⟩ := List.mem_map.mp h
  obtain ⟨h1, h2⟩ := List.mem_filter.mp hj
  exact ⟨j, List.mem_range.mp h1, of_decide_eq_true h2, e⟩
theorem rem_set {kf gf : Nat → Int32} {j : Nat} (h0 : gf j = 0) : ∀ {n : Nat}, j < n → (kf j :: rem_ kf (upd gf j 1) n).Perm (rem_ kf gf n) := by
  intro n
  induction n with
  | zero => intro h; exact absurd h (Nat.not_lt_zero j)
  | succ n ih =>
    intro hj
    rw [rem_succ, rem_succ]
    by_cases e : j = n
    · subst e
      rw [pk_us, if_neg (by decide), if_pos h0, List.append_nil, rem_congr (fun t ht => pk_un (by omega))]
      exact List.perm_append_comm (l₁ := [kf j])
    · rw [pk_un (fun h => e h.symm)]
      exact (ih (by omega)).append_right _
theorem lt_no {x a b : Int} {y : Int32} (e : y = if a < b then 1 else 0) (h : b ≤ a) : y = 0 := by
  rw [e, if_neg (by omega)]
/-- the script's int at i, or 0 -/
def at_ (L : Nat) (xs : Nat → Int32) (i : Nat) : Int32 := if i < L then xs i else 0
def Px (b L : Nat) (xs : Nat → Int32) (av : List Value) : Array Value → State → Prop := va_Pc av (fun U => va_X b L xs U U.heap)
theorem Px.pre {b L : Nat} {xs : Nat → Int32} {As : List Value} {s : State} {H : Heap} (h : va_X b L xs s H) : PreS s H (Px b L xs As) As := by
  refine ⟨fun a U g mk q => ⟨q.1, va_X.moved (u := U) (U := U.calling g mk a) (Vm.Alike.refl U.vm) q.2⟩, fun U hU hW => ⟨rfl, ?_⟩⟩
  show va_X b L xs U U.heap
  rw [hU]
  exact va_X.moved hW.alike h
theorem wt_lt {i : Nat} {a b : Int32} (h : dr_ i = false) : (wt_ (dr_ i) a < wt_ (dr_ i) b) ↔ a < b := by
  rw [h, Int32.lt_iff_toInt_lt]
  exact Iff.rfl
theorem wt_gt {i : Nat} {a b : Int32} (h : dr_ i = true) : (wt_ (dr_ i) a < wt_ (dr_ i) b) ↔ b < a := by
  rw [h, Int32.lt_iff_toInt_lt]
  show -a.toInt < -b.toInt ↔ _
  omega
theorem if_t {c : Prop} [Decidable c] (h : c) : (1 : Int32) = if c then 1 else 0 := (if_pos h).symm
theorem if_f {c : Prop} [Decidable c] (h : ¬ c) : (0 : Int32) = if c then 1 else 0 := (if_neg h).symm
set_option maxHeartbeats 4000000 in
set_option maxRecDepth 100000 in
/-- at(s, i) -/
theorem mX0_at (l : Launch) (b L i : Nat) (xs : Nat → Int32) (hL : L ≤ 55) (hi : i ≤ 1000) : Met l yX0_at (ws_ yX0_at cX0_at 2 (some .int)) (rm_ 0 0 0 0) (Px b L xs [.ref b, .int (nI i)]) (vp_Si (fun x => x = at_ L xs i)) 0 0 (fun _ => False) := by
  refine Met.ofW (cc := cX0_at) (maxL := 2) (ret := some .int) (by decide) rfl ?_
  intro p e s m args below meth c s₁ B hml hv
  obtain ⟨rfl, hX⟩ := hv
  have hx := B.exec
  have hb := B.bytes
  have hr := B.returns
  have hts := atoms_spec (ws := ws_ yX0_at cX0_at 2 (some .int)) B.pre
  have hts : ∀ w ∈ lw_all, w.before _ s = true := fun w h => hts w (List.mem_cons_of_mem _ h)
  have hown : s.vm.findClass RX0 = some m.cls := findClass_of_methodNamed B.named
  have hlocks := B.notSynchronized
  have hl := lv_entry ([.ref b, .int (nI i)]) (n := 2) (Nat.le_of_ble_eq_true rfl)
  rw [lg_entry_eq]
  generalize (lg_sl ([.ref b, .int (nI i)]) ++ List.replicate (2 - (lg_sl ([.ref b, .int (nI i)])).length) Slot.unset).toArray = ls at hl ⊢
  have hl : lv_has ls 2 [(0, .ref b), (1, .int (nI i))] := hl
  refine lv_iload_n hx hb dX0_at_0 rfl (lv_at hl 1 rfl) ?_
  refine lv_aload_n hx hb dX0_at_1 rfl (lv_at hl 0 rfl) ?_
  have hbl : b < s.heap.size := by obtain ⟨scr, h1, -⟩ := hX; exact (Array.getElem?_eq_some_iff.mp h1).1
  refine va_slen hx hb hX hbl (A := fun _ => False) (fun z => z) va_S.rf dX0_at_2 ?_
  refine lv_icmp_ge (tgt := 12) hx hb dX0_at_3 (by decide) (fun c1 => ?_) (fun c1 => ?_)
  · refine lv_iconst (v := 0) hx hb dX0_at_12 (by decide) ?_
    exact W.iret (v := 0) hx hb hr (fun t ht hW => ⟨0, rfl, (if_neg (Nat.not_lt.mpr ((nI_leI (by omega) (by omega)).mp c1))).symm, ht⟩) no_loc dX0_at_13
  · have hlt : i < L := by rcases Nat.lt_or_ge i L with h9 | h9; exact h9; exact absurd (nI_le h9 (by omega)) c1
    refine lv_aload_n hx hb dX0_at_6 rfl (lv_at hl 0 rfl) ?_
    refine lv_iload_n hx hb dX0_at_7 rfl (lv_at hl 1 rfl) ?_
    refine va_sld hx hb hX hbl (A := fun _ => False) (fun z => z) va_S.rf (vp_in_nI hlt (by omega)) dX0_at_8 ?_
    refine lt_i (y := xs i) (by rw [nI_clamp (by omega)]) ?_
    refine lv_goto (tgt := 13) hx hb dX0_at_9 (by decide) ?_
    exact W.iret (v := xs i) hx hb hr (fun t ht hW => ⟨xs i, rfl, (if_pos hlt).symm, ht⟩) no_loc dX0_at_13
set_option maxHeartbeats 4000000 in
set_option maxRecDepth 100000 in
/-- ahead(r, a, b) -/
theorem mX0_ahead (l : Launch) (i : Nat) (a b : Int32) (hi : i < 4) : Met l yX0_ahead (ws_ yX0_ahead cX0_ahead 3 (some .boolean)) (rm_ 0 0 0 0) (va_Pc [.int (nI i), .int a, .int b] (fun _ => True)) (vp_Si (fun x => x = if wt_ (dr_ i) a < wt_ (dr_ i) b then 1 else 0)) 0 0 (fun _ => False) := by
  refine Met.ofW (cc := cX0_ahead) (maxL := 3) (ret := some .boolean) (by decide) rfl ?_
  intro p e s m args below meth c s₁ B hml hv
  obtain ⟨rfl, -⟩ := hv
  have hx := B.exec
  have hb := B.bytes
  have hr := B.returns
  have hts := atoms_spec (ws := ws_ yX0_ahead cX0_ahead 3 (some .boolean)) B.pre
  have hts : ∀ w ∈ lw_all, w.before _ s = true := fun w h => hts w (List.mem_cons_of_mem _ h)
  have hown : s.vm.findClass RX0 = some m.cls := findClass_of_methodNamed B.named
  have hlocks := B.notSynchronized
  have hl := lv_entry ([.int (nI i), .int a, .int b]) (n := 3) (Nat.le_of_ble_eq_true rfl)
  rw [lg_entry_eq]
  generalize (lg_sl ([.int (nI i), .int a, .int b]) ++ List.replicate (3 - (lg_sl ([.int (nI i), .int a, .int b])).length) Slot.unset).toArray = ls at hl ⊢
  have hl : lv_has ls 3 [(0, .int (nI i)), (1, .int a), (2, .int b)] := hl
  refine lv_iload_n hx hb dX0_ahead_0 rfl (lv_at hl 0 rfl) ?_
  refine lv_iconst (v := 2) hx hb dX0_ahead_1 (by decide) ?_
  refine lv_icmp_ge (tgt := 18) hx hb dX0_ahead_2 (by decide) (fun c1 => ?_) (fun c1 => ?_)
  · have edr : dr_ i = true := decide_eq_true ((nI_leI (a := 2) (by omega) (by omega)).mp c1)
    refine lv_iload_n hx hb dX0_ahead_18 rfl (lv_at hl 1 rfl) ?_
    refine lv_iload_n hx hb dX0_ahead_19 rfl (lv_at hl 2 rfl) ?_
    refine lv_icmp_le (tgt := 27) hx hb dX0_ahead_20 (by decide) (fun c2 => ?_) (fun c2 => ?_)
    · refine lv_iconst (v := 0) hx hb dX0_ahead_27 (by decide) ?_
      exact W.zret (v := 0) hx hb hr rfl (fun t ht hW => ⟨0, rfl, if_f (fun h9 => absurd ((wt_gt edr).mp h9) (Int32.not_lt.mpr c2)), ht⟩) no_loc dX0_ahead_28
    · refine lv_iconst (v := 1) hx hb dX0_ahead_23 (by decide) ?_
      refine lv_goto (tgt := 28) hx hb dX0_ahead_24 (by decide) ?_
      exact W.zret (v := 1) hx hb hr rfl (fun t ht hW => ⟨1, rfl, if_t ((wt_gt edr).mpr (Int32.not_le.mp c2)), ht⟩) no_loc dX0_ahead_28
  · have edr : dr_ i = false := decide_eq_false (fun h9 => c1 (nI_le (a := 2) h9 (by omega)))
    refine lv_iload_n hx hb dX0_ahead_5 rfl (lv_at hl 1 rfl) ?_
    refine lv_iload_n hx hb dX0_ahead_6 rfl (lv_at hl 2 rfl) ?_
    refine lv_icmp_ge (tgt := 14) hx hb dX0_ahead_7 (by decide) (fun c2 => ?_) (fun c2 => ?_)
    · refine lv_iconst (v := 0) hx hb dX0_ahead_14 (by decide) ?_
      refine lv_goto (tgt := 28) hx hb dX0_ahead_15 (by decide) ?_
      exact W.zret (v := 0) hx hb hr rfl (fun t ht hW => ⟨0, rfl, if_f (fun h9 => absurd ((wt_lt edr).mp h9) (Int32.not_lt.mpr c2)), ht⟩) no_loc dX0_ahead_28
    · refine lv_iconst (v := 1) hx hb dX0_ahead_10 (by decide) ?_
      refine lv_goto (tgt := 28) hx hb dX0_ahead_11 (by decide) ?_
      exact W.zret (v := 1) hx hb hr rfl (fun t ht hW => ⟨1, rfl, if_t ((wt_lt edr).mpr (Int32.not_le.mp c2)), ht⟩) no_loc dX0_ahead_28
theorem up_id {α : Type} {C : Nat → α} {i : Nat} : va_up C i (C i) = C := by
  funext k
  by_cases h : k = i
  · rw [h, va_up_self]
  · exact va_up_ne _ _ h
set_option maxHeartbeats 4000000 in
set_option maxRecDepth 100000 in
/-- drain(x, r, keys, n): all is told in order -/
theorem mX0_drain (l : Launch) (G : gT) (d np sz i n ks : Nat) (kf : Nat → Int32) (C : Nat → List Int32) (w : va_W) (hi : i < 4) (hDk : Dk G d np C w) (hpm : (C i).Perm ((List.range n).map kf)) : Met l yX0_drain (ws_ yX0_drain cX0_drain 9 (some .boolean)) (rm_ 6 66 8449 134) (Pw G (fun _ => 0) [] [.ref d, .int (nI i), .ref ks, .int (nI n)] sz (ia_ G ks kf :: w)) (va_Qi (fun (x : Int32) (u : va_W) => x = 1 ∧ Dk G d np (va_up C i []) u) (Bw G (va_A (ia_ G ks kf :: w) sz) (fun u => ia_ G ks kf :: u)) (va_A (ia_ G ks kf :: w) sz)) 66 8449 (va_A (ia_ G ks kf :: w) sz) := by
  refine Met.ofW (cc := cX0_drain) (maxL := 9) (ret := some .boolean) (by decide) rfl ?_
  intro p e s m args below meth c s₁ B hml hv
  obtain ⟨rfl, hsz, hP, hD0, hE, hB⟩ := hv
  have hx := B.exec
  have hb := B.bytes
  have hr := B.returns
  have hts := atoms_spec (ws := ws_ yX0_drain cX0_drain 9 (some .boolean)) B.pre
  have hts : ∀ w ∈ lw_all, w.before _ s = true := fun w h => hts w (List.mem_cons_of_mem _ h)
  have hown : s.vm.findClass RX0 = some m.cls := findClass_of_methodNamed B.named
  have hlocks := B.notSynchronized
  subst hsz
  have hD := hD0.self (sz := s.heap.size)
  generalize hAe : va_A (ia_ G ks kf :: w) s.heap.size = A at hD hE hB ⊢
  have hA : ∀ q : Nat, s.heap.size ≤ q → A q := fun q h => by rw [← hAe]; exact Or.inr h
  have hS : va_S A s.heap s.heap [] := va_S.rf
  have hl := lv_entry ([.ref d, .int (nI i), .ref ks, .int (nI n)]) (n := 9) (Nat.le_of_ble_eq_true rfl)
  rw [lg_entry_eq]
  generalize (lg_sl ([.ref d, .int (nI i), .ref ks, .int (nI n)]) ++ List.replicate (9 - (lg_sl ([.ref d, .int (nI i), .ref ks, .int (nI n)])).length) Slot.unset).toArray = ls at hl ⊢
  have hl : lv_has ls 9 [(0, .ref d), (1, .int (nI i)), (2, .ref ks), (3, .int (nI n))] := hl
  have hP : va_P G.1 clz (ia_ G ks kf :: w) _ := hP
  have hD : va_D A (ia_ G ks kf :: w) := hD
  refine lv_bipush (v := 64) hx hb dX0_drain_0 (by decide) ?_
  refine va_newa (atype := .boolean) (ty := .boolean) (N' := 64) (a0 := (64, .inl (fun _ => 0))) hx hb (hts _ q405) rfl hE.1 hP hD hS hA (fun cA => rfl) (by decide) (by decide) (by decide) (Nat.le_of_ble_eq_true rfl) (Nat.le_of_ble_eq_true rfl) dX0_drain_2 (fun gn cA H hK9 hP hD hS => ?_)
  have ecA : cA = gZ G := RA_uniq (hK9.2 5 (cA, .boolean) rfl).2 (hE.1.2 4 (gZ G, .boolean) rfl).2
  subst ecA
  have hP := wP_perm hP (List.Perm.cons (ia_ G ks kf) List.perm_append_comm)
  have hD := wD_perm hD (List.Perm.cons (ia_ G ks kf) List.perm_append_comm)
  have hP : va_P G.1 clz (ia_ G ks kf :: za_ G gn (fun _ => 0) :: w) _ := hP
  have hD : va_D A (ia_ G ks kf :: za_ G gn (fun _ => 0) :: w) := hD
  refine lv_astore (lv' := [(4, .ref gn), (0, .ref d), (1, .int (nI i)), (2, .ref ks), (3, .int (nI n))]) hx hb dX0_drain_4 hl (by decide) rfl (fun ls hl => ?_)
  refine lv_iconst (v := 0) hx hb dX0_drain_6 (by decide) ?_
  refine lv_istore (lv' := [(5, .int 0), (4, .ref gn), (0, .ref d), (1, .int (nI i)), (2, .ref ks), (3, .int (nI n))]) hx hb dX0_drain_7 hl (by decide) rfl (fun ls hl => ?_)
  refine lv_iconst (v := 0) hx hb dX0_drain_9 (by decide) ?_
  refine lt_i (y := nI 0) (nI_0.symm) ?_
  refine lv_istore (lv' := [(6, .int (nI 0)), (5, .int 0), (4, .ref gn), (0, .ref d), (1, .int (nI i)), (2, .ref ks), (3, .int (nI n))]) hx hb dX0_drain_10 hl (by decide) rfl (fun ls hl => ?_)
  have hso := hDk.so hi
  have hlen : (C i).length = n := by have h9 := hpm.length_eq; rw [List.length_map, List.length_range] at h9; exact h9
  have hdc : tl_ C ≤ np ∧ np ≤ 64 := hDk.tl
  have hle := tl_ge C hi
  have loop : ∀ (N k : Nat) (w1 : va_W) (gf : Nat → Int32) (last : Int32) (H : Heap) (locs : List Loc) (ls : Array Slot) (cells slots : Nat), k + N = n → Dk G d np (va_up C i ((C i).drop k)) w1 → (rem_ kf gf n).Perm ((C i).drop k) → (k = 0 ∨ ∀ b ∈ (C i).drop k, wt_ (dr_ i) last ≤ wt_ (dr_ i) b) → cells + (N + 1) ≤ 66 → slots + 129 * (N + 1) ≤ 8449 → va_P G.1 clz (ia_ G ks kf :: za_ G gn gf :: w1) H → va_D A (ia_ G ks kf :: za_ G gn gf :: w1) → va_S A s.heap H locs → lv_has ls 9 [(0, .ref d), (1, .int (nI i)), (2, .ref ks), (3, .int (nI n)), (4, .ref gn), (5, .int last), (6, .int (nI k))] → W p l e (headSpec (ws_ yX0_drain cX0_drain 9 (some .boolean)) (rm_ 6 66 8449 134)).room s m ([.ref d, .int (nI i), .ref ks, .int (nI n)] : List Value).toArray below meth c H locs cells slots (MQ below (va_Qi (fun (x : Int32) (u : va_W) => x = 1 ∧ Dk G d np (va_up C i []) u) (Bw G A (fun u => ia_ G ks kf :: u)) A) ([.ref d, .int (nI i), .ref ks, .int (nI n)] : List Value).toArray s 66 8449 A) (F0 m 12 ls []) := by
    intro N
    induction N with
    | zero =>
      intro k w1 gf last H locs ls cells slots hk hDk1 hrem hlast hce hsl hP hD hS hl
      refine lv_iload hx hb dX0_drain_12 (lv_at hl 6 rfl) ?_
      refine lv_iload_n hx hb dX0_drain_14 rfl (lv_at hl 3 rfl) ?_
      refine lv_icmp_ge (tgt := 131) hx hb dX0_drain_15 (by decide) (fun c1 => ?_) (fun c1 => ?_)
      · have ek : k = n := by omega
        have e0 : (C i).drop k = [] := List.drop_eq_nil_of_le (by omega)
        refine lv_aload_n hx hb dX0_drain_131 rfl (lv_at hl 0 rfl) ?_
        refine lv_iload_n hx hb dX0_drain_132 rfl (lv_at hl 1 rfl) ?_
        have hc := cut_ (wc := w1) (wr := [ia_ G ks kf, za_ G gn gf]) hE hP hD hS hA (List.perm_append_comm (l₁ := [ia_ G ks kf, za_ G gn gf]))
        refine vp_callSi (va_Run.run (va_runV (As := [.int (nI i)]) (rest := []) ⟨hx, hb, hml, hown, hts⟩ (mX1_size l G d np _ i (va_up C i ((C i).drop k)) w1 (nI i) hi (an3 hi) hDk1) (cwV 1 hts (lw_V q368 q369 q370 q3 q371) rfl rfl rfl (by decide +kernel) ⟨Nat.le_of_ble_eq_true rfl, Nat.le_of_ble_eq_true rfl⟩) (Pw.preV hc no_bx (hDk1.recv hc.1 hE.1)) rfl rfl hl.1 rfl (lv_room (Nat.le_of_ble_eq_true rfl)) dX0_drain_133 ⟨by show cells + 0 ≤ 66; omega, by show slots + 0 ≤ 8449; omega⟩)) (fun x1 e_x1 => ?_)
        have e_x1 : x1 = 0 := by rw [e_x1, va_up_self, e0]; rfl
        refine lv_if_ne (tgt := 169) hx hb dX0_drain_136 (by decide) (fun c2 => ?_) (fun c2 => ?_)
        · exact absurd e_x1 c2
        · refine lv_aload_n hx hb dX0_drain_139 rfl (lv_at hl 0 rfl) ?_
          refine lv_iload_n hx hb dX0_drain_140 rfl (lv_at hl 1 rfl) ?_
          have hc := cut_ (wc := w1) (wr := [ia_ G ks kf, za_ G gn gf]) hE hP hD hS hA (List.perm_append_comm (l₁ := [ia_ G ks kf, za_ G gn gf]))
          refine vp_callSi (va_Run.run (va_runV (As := [.int (nI i)]) (rest := []) ⟨hx, hb, hml, hown, hts⟩ (mX1_isEmpty l G d np _ i (va_up C i ((C i).drop k)) w1 (nI i) hi (an3 hi) hDk1) (cwV 1 hts (lw_V q378 q379 q380 q3 q381) rfl rfl rfl (by decide +kernel) ⟨Nat.le_of_ble_eq_true rfl, Nat.le_of_ble_eq_true rfl⟩) (Pw.preV hc no_bx (hDk1.recv hc.1 hE.1)) rfl rfl hl.1 rfl (lv_room (Nat.le_of_ble_eq_true rfl)) dX0_drain_141 ⟨by show cells + 0 ≤ 66; omega, by show slots + 0 ≤ 8449; omega⟩)) (fun x2 e_x2 => ?_)
          have e_x2 : x2 = 1 := by rw [e_x2, va_up_self, e0]; rfl
          refine lv_if_eq (tgt := 169) hx hb dX0_drain_144 (by decide) (fun c3 => ?_) (fun c3 => ?_)
          · exact absurd c3 (by rw [e_x2]; decide)
          · refine lv_aload_n hx hb dX0_drain_147 rfl (lv_at hl 0 rfl) ?_
            refine lv_iload_n hx hb dX0_drain_148 rfl (lv_at hl 1 rfl) ?_
            have hc := cut_ (wc := w1) (wr := [ia_ G ks kf, za_ G gn gf]) hE hP hD hS hA (List.perm_append_comm (l₁ := [ia_ G ks kf, za_ G gn gf]))
            refine vp_callSi (va_Run.run (va_runV (As := [.int (nI i)]) (rest := []) ⟨hx, hb, hml, hown, hts⟩ (mX1_least l G d np _ i (va_up C i ((C i).drop k)) w1 (nI i) hi (an3 hi) hDk1) (cwV 1 hts (lw_V q313 q314 q315 q3 q316) rfl rfl rfl (by decide +kernel) ⟨Nat.le_of_ble_eq_true rfl, Nat.le_of_ble_eq_true rfl⟩) (Pw.preV hc no_bx (hDk1.recv hc.1 hE.1)) rfl rfl hl.1 rfl (lv_room (Nat.le_of_ble_eq_true rfl)) dX0_drain_149 ⟨by show cells + 0 ≤ 66; omega, by show slots + 0 ≤ 8449; omega⟩)) (fun x3 e_x3 => ?_)
            have e_x3 : x3 = -1 := by rw [e_x3, va_up_self, e0]; rfl
            refine lv_iconst (v := (-1)) hx hb dX0_drain_152 (by decide) ?_
            refine lv_icmp_ne (tgt := 169) hx hb dX0_drain_153 (by decide) (fun c4 => ?_) (fun c4 => ?_)
            · exact absurd e_x3 c4
            · refine lv_aload_n hx hb dX0_drain_156 rfl (lv_at hl 0 rfl) ?_
              refine lv_iload_n hx hb dX0_drain_157 rfl (lv_at hl 1 rfl) ?_
              have hc := cut_ (wc := w1) (wr := [ia_ G ks kf, za_ G gn gf]) hE hP hD hS hA (List.perm_append_comm (l₁ := [ia_ G ks kf, za_ G gn gf]))
              refine ci_ (va_runV (As := [.int (nI i)]) (rest := []) ⟨hx, hb, hml, hown, hts⟩ (mX1_takeLeast l G d np _ i (va_up C i ((C i).drop k)) w1 (nI i) hi (an3 hi) hDk1) (cwV 1 hts (lw_V q350 q351 q352 q3 q353) rfl rfl rfl (by decide +kernel) ⟨Nat.le_of_ble_eq_true rfl, Nat.le_of_ble_eq_true rfl⟩) (Pw.preV hc no_bx (hDk1.recv hc.1 hE.1)) rfl rfl hl.1 rfl (lv_room (Nat.le_of_ble_eq_true rfl)) dX0_drain_158 ⟨by show cells + 1 ≤ 66; omega, by show slots + 129 ≤ 8449; omega⟩) hP hD hS hc (List.perm_append_comm (l₁ := [ia_ G ks kf, za_ G gn gf])) (fun x4 u H locs hq hP hD hS => ?_)
              have hP := wP_perm hP List.perm_append_comm
              have hD := wD_perm hD List.perm_append_comm
              have hP : va_P G.1 clz (ia_ G ks kf :: za_ G gn gf :: u) _ := hP
              have hD : va_D A (ia_ G ks kf :: za_ G gn gf :: u) := hD
              have e_x4 : x4 = -1 := by rw [hq.1, va_up_self, e0]; rfl
              refine lv_iconst (v := (-1)) hx hb dX0_drain_161 (by decide) ?_
              refine lv_icmp_ne (tgt := 169) hx hb dX0_drain_162 (by decide) (fun c5 => ?_) (fun c5 => ?_)
              · exact absurd e_x4 c5
              · refine lv_iconst (v := 1) hx hb dX0_drain_165 (by decide) ?_
                refine lv_goto (tgt := 170) hx hb dX0_drain_166 (by decide) ?_
                have hDk2 : Dk G d np (va_up C i []) u := by have h9 := hq.2; rw [va_up_self, e0, bx_uu] at h9; exact h9
                have hP : va_P G.1 clz (ia_ G ks kf :: u) _ := pw_drop (a := [ia_ G ks kf]) (b := [za_ G gn gf]) hP
                have hD : va_D A (ia_ G ks kf :: u) := dw_drop (a := [ia_ G ks kf]) (b := [za_ G gn gf]) hD
                refine W.widen (k := 66) (n := 8449) (by omega) (by omega) ?_
                exact W.zret (v := 1) hx hb hr rfl (fun t ht hW => ⟨⟨1, u, rfl, ⟨rfl, hDk2⟩, by rw [ht]; exact hP, hD⟩, hS.F ht⟩) hS.2.2 dX0_drain_170
      · exact absurd (nI_le (by omega) (by omega)) c1
    | succ N ih =>
      intro k w1 gf last H locs ls cells slots hk hDk1 hrem hlast hce hsl hP hD hS hl
      refine lv_iload hx hb dX0_drain_12 (lv_at hl 6 rfl) ?_
      refine lv_iload_n hx hb dX0_drain_14 rfl (lv_at hl 3 rfl) ?_
      refine lv_icmp_ge (tgt := 131) hx hb dX0_drain_15 (by decide) (fun c1 => ?_) (fun c1 => ?_)
      · exact absurd ((nI_leI (by omega) (by omega)).mp c1) (by omega)
      · have hkn : k < n := by omega
        obtain ⟨a, ea⟩ : ∃ a, (C i).drop k = a :: (C i).drop (k + 1) := ⟨_, List.drop_eq_getElem_cons (by omega)⟩
        refine lv_aload_n hx hb dX0_drain_18 rfl (lv_at hl 0 rfl) ?_
        refine lv_iload_n hx hb dX0_drain_19 rfl (lv_at hl 1 rfl) ?_
        have hc := cut_ (wc := w1) (wr := [ia_ G ks kf, za_ G gn gf]) hE hP hD hS hA (List.perm_append_comm (l₁ := [ia_ G ks kf, za_ G gn gf]))
        refine vp_callSi (va_Run.run (va_runV (As := [.int (nI i)]) (rest := []) ⟨hx, hb, hml, hown, hts⟩ (mX1_size l G d np _ i (va_up C i ((C i).drop k)) w1 (nI i) hi (an3 hi) hDk1) (cwV 1 hts (lw_V q368 q369 q370 q3 q371) rfl rfl rfl (by decide +kernel) ⟨Nat.le_of_ble_eq_true rfl, Nat.le_of_ble_eq_true rfl⟩) (Pw.preV hc no_bx (hDk1.recv hc.1 hE.1)) rfl rfl hl.1 rfl (lv_room (Nat.le_of_ble_eq_true rfl)) dX0_drain_20 ⟨by show cells + 0 ≤ 66; omega, by show slots + 0 ≤ 8449; omega⟩)) (fun x1 e_x1 => ?_)
        have e_x1 : x1 = nI (n - k) := by rw [e_x1, va_up_self, List.length_drop, hlen]
        refine lv_iload_n hx hb dX0_drain_23 rfl (lv_at hl 3 rfl) ?_
        refine lv_iload hx hb dX0_drain_24 (lv_at hl 6 rfl) ?_
        refine lv_isub hx hb dX0_drain_26 ?_
        refine lt_i (y := nI (n - k)) (pk_sub (by omega)) ?_
        refine lv_icmp_ne (tgt := 38) hx hb dX0_drain_27 (by decide) (fun c2 => ?_) (fun c2 => ?_)
        · exact absurd e_x1 c2
        · refine lv_aload_n hx hb dX0_drain_30 rfl (lv_at hl 0 rfl) ?_
          refine lv_iload_n hx hb dX0_drain_31 rfl (lv_at hl 1 rfl) ?_
          have hc := cut_ (wc := w1) (wr := [ia_ G ks kf, za_ G gn gf]) hE hP hD hS hA (List.perm_append_comm (l₁ := [ia_ G ks kf, za_ G gn gf]))
          refine vp_callSi (va_Run.run (va_runV (As := [.int (nI i)]) (rest := []) ⟨hx, hb, hml, hown, hts⟩ (mX1_isEmpty l G d np _ i (va_up C i ((C i).drop k)) w1 (nI i) hi (an3 hi) hDk1) (cwV 1 hts (lw_V q378 q379 q380 q3 q381) rfl rfl rfl (by decide +kernel) ⟨Nat.le_of_ble_eq_true rfl, Nat.le_of_ble_eq_true rfl⟩) (Pw.preV hc no_bx (hDk1.recv hc.1 hE.1)) rfl rfl hl.1 rfl (lv_room (Nat.le_of_ble_eq_true rfl)) dX0_drain_32 ⟨by show cells + 0 ≤ 66; omega, by show slots + 0 ≤ 8449; omega⟩)) (fun x2 e_x2 => ?_)
          have e_x2 : x2 = 0 := by rw [e_x2, va_up_self, ea]; rfl
          refine lv_if_eq (tgt := 40) hx hb dX0_drain_35 (by decide) (fun c3 => ?_) (fun c3 => ?_)
          · refine lv_aload_n hx hb dX0_drain_40 rfl (lv_at hl 0 rfl) ?_
            refine lv_iload_n hx hb dX0_drain_41 rfl (lv_at hl 1 rfl) ?_
            have hc := cut_ (wc := w1) (wr := [ia_ G ks kf, za_ G gn gf]) hE hP hD hS hA (List.perm_append_comm (l₁ := [ia_ G ks kf, za_ G gn gf]))
            refine vp_callSi (va_Run.run (va_runV (As := [.int (nI i)]) (rest := []) ⟨hx, hb, hml, hown, hts⟩ (mX1_least l G d np _ i (va_up C i ((C i).drop k)) w1 (nI i) hi (an3 hi) hDk1) (cwV 1 hts (lw_V q313 q314 q315 q3 q316) rfl rfl rfl (by decide +kernel) ⟨Nat.le_of_ble_eq_true rfl, Nat.le_of_ble_eq_true rfl⟩) (Pw.preV hc no_bx (hDk1.recv hc.1 hE.1)) rfl rfl hl.1 rfl (lv_room (Nat.le_of_ble_eq_true rfl)) dX0_drain_42 ⟨by show cells + 0 ≤ 66; omega, by show slots + 0 ≤ 8449; omega⟩)) (fun x3 e_x3 => ?_)
            refine lt_i (y := a) (by rw [e_x3, va_up_self, ea]; rfl) ?_
            refine lv_istore (lv' := [(7, .int a), (0, .ref d), (1, .int (nI i)), (2, .ref ks), (3, .int (nI n)), (4, .ref gn), (5, .int last), (6, .int (nI k))]) hx hb dX0_drain_45 hl (by decide) rfl (fun ls hl => ?_)
            refine lv_aload_n hx hb dX0_drain_47 rfl (lv_at hl 1 rfl) ?_
            refine lv_iload_n hx hb dX0_drain_48 rfl (lv_at hl 2 rfl) ?_
            have hc := cut_ (wc := w1) (wr := [ia_ G ks kf, za_ G gn gf]) hE hP hD hS hA (List.perm_append_comm (l₁ := [ia_ G ks kf, za_ G gn gf]))
            refine ci_ (va_runV (As := [.int (nI i)]) (rest := []) ⟨hx, hb, hml, hown, hts⟩ (mX1_takeLeast l G d np _ i (va_up C i ((C i).drop k)) w1 (nI i) hi (an3 hi) hDk1) (cwV 1 hts (lw_V q350 q351 q352 q3 q353) rfl rfl rfl (by decide +kernel) ⟨Nat.le_of_ble_eq_true rfl, Nat.le_of_ble_eq_true rfl⟩) (Pw.preV hc no_bx (hDk1.recv hc.1 hE.1)) rfl rfl hl.1 rfl (lv_room (Nat.le_of_ble_eq_true rfl)) dX0_drain_49 ⟨by show cells + 1 ≤ 66; omega, by show slots + 129 ≤ 8449; omega⟩) hP hD hS hc (List.perm_append_comm (l₁ := [ia_ G ks kf, za_ G gn gf])) (fun x4 u H locs hq hP hD hS => ?_)
            have hP := wP_perm hP List.perm_append_comm
            have hD := wD_perm hD List.perm_append_comm
            have hP : va_P G.1 clz (ia_ G ks kf :: za_ G gn gf :: u) _ := hP
            have hD : va_D A (ia_ G ks kf :: za_ G gn gf :: u) := hD
            have e_x4 : x4 = a := by rw [hq.1, va_up_self, ea]; rfl
            have hDk2 : Dk G d np (va_up C i ((C i).drop (k + 1))) u := by have h9 := hq.2; rw [va_up_self, ea, bx_uu] at h9; exact h9
            have on : ∀ ls : Array Slot, lv_has ls 9 [(7, .int a), (0, .ref d), (1, .int (nI i)), (2, .ref ks), (3, .int (nI n)), (4, .ref gn), (5, .int last), (6, .int (nI k))] → W p l e (headSpec (ws_ yX0_drain cX0_drain 9 (some .boolean)) (rm_ 6 66 8449 134)).room s m ([.ref d, .int (nI i), .ref ks, .int (nI n)] : List Value).toArray below meth c H locs (cells + 1) (slots + 129) (MQ below (va_Qi (fun (x : Int32) (u : va_W) => x = 1 ∧ Dk G d np (va_up C i []) u) (Bw G A (fun u => ia_ G ks kf :: u)) A) ([.ref d, .int (nI i), .ref ks, .int (nI n)] : List Value).toArray s 66 8449 A) (F0 m 75 ls []) := by
              intro ls hl
              refine lv_iconst (v := 0) hx hb dX0_drain_75 (by decide) ?_
              refine lt_i (y := nI 0) (nI_0.symm) ?_
              refine lv_istore (lv' := [(8, .int (nI 0)), (7, .int a), (0, .ref d), (1, .int (nI i)), (2, .ref ks), (3, .int (nI n)), (4, .ref gn), (5, .int last), (6, .int (nI k))]) hx hb dX0_drain_76 hl (by decide) rfl (fun ls hl => ?_)
              have inner : ∀ (M j : Nat) (ls : Array Slot), j + M = n → (∀ t, t < j → gf t ≠ 0 ∨ kf t ≠ a) → lv_has ls 9 [(8, .int (nI j)), (7, .int a), (0, .ref d), (1, .int (nI i)), (2, .ref ks), (3, .int (nI n)), (4, .ref gn), (5, .int last), (6, .int (nI k))] → W p l e (headSpec (ws_ yX0_drain cX0_drain 9 (some .boolean)) (rm_ 6 66 8449 134)).room s m ([.ref d, .int (nI i), .ref ks, .int (nI n)] : List Value).toArray below meth c H locs (cells + 1) (slots + 129) (MQ below (va_Qi (fun (x : Int32) (u : va_W) => x = 1 ∧ Dk G d np (va_up C i []) u) (Bw G A (fun u => ia_ G ks kf :: u)) A) ([.ref d, .int (nI i), .ref ks, .int (nI n)] : List Value).toArray s 66 8449 A) (F0 m 78 ls []) := by
                intro M
                induction M with
                | zero =>
                  intro j ls hj hno hl
                  obtain ⟨t, h1, h2, h3⟩ := rem_mem (hrem.mem_iff.mpr (show a ∈ (C i).drop k by rw [ea]; exact List.mem_cons_self))
                  rcases hno t (by omega) with h9 | h9
                  · exact absurd h2 h9
                  · exact absurd h3 h9
                | succ M ihM =>
                  intro j ls hj hno hl
                  refine lv_iload hx hb dX0_drain_78 (lv_at hl 0 rfl) ?_
                  refine lv_iload_n hx hb dX0_drain_80 rfl (lv_at hl 5 rfl) ?_
                  refine lv_icmp_ge (tgt := 107) hx hb dX0_drain_81 (by decide) (fun cj => ?_) (fun cj => ?_)
                  · exact absurd ((nI_leI (by omega) (by omega)).mp cj) (by omega)
                  · refine lv_aload hx hb dX0_drain_84 (lv_at hl 6 rfl) ?_
                    refine lv_iload hx hb dX0_drain_86 (lv_at hl 0 rfl) ?_
                    refine va_zald hx hb hE.1 hP 1 4 rfl rfl (vp_in_nI (n := j) (by omega) (by omega)) dX0_drain_88 ?_
                    refine lt_i (y := gf j) (by rw [nI_clamp (by omega)]) ?_
                    refine lv_if_ne (tgt := 101) hx hb dX0_drain_89 (by decide) (fun c6 => ?_) (fun c6 => ?_)
                    · refine lv_iinc (v := nI (j + 1)) (lv' := [(8, .int (nI (j + 1))), (7, .int a), (0, .ref d), (1, .int (nI i)), (2, .ref ks), (3, .int (nI n)), (4, .ref gn), (5, .int last), (6, .int (nI k))]) hx hb dX0_drain_101 hl (k := 0) rfl (nI_1 j) (by decide) rfl (fun ls hl => ?_)
                      refine lv_goto (tgt := 78) hx hb dX0_drain_104 (by decide) ?_
                      exact ihM (j + 1) ls (by omega) (lt_s (p := fun t => gf t ≠ 0 ∨ kf t ≠ a) hno (Or.inl c6)) (lv_sub hl [0, 1, 2, 3, 4, 5, 6, 7, 8] rfl)
                    · refine lv_aload_n hx hb dX0_drain_92 rfl (lv_at hl 4 rfl) ?_
                      refine lv_iload hx hb dX0_drain_93 (lv_at hl 0 rfl) ?_
                      refine va_iald hx hb hE.1 hP 0 3 rfl rfl (vp_in_nI (n := j) (by omega) (by omega)) dX0_drain_95 ?_
                      refine lt_i (y := kf j) (by rw [nI_clamp (by omega)]) ?_
                      refine lv_iload hx hb dX0_drain_96 (lv_at hl 1 rfl) ?_
                      refine lv_icmp_eq (tgt := 107) hx hb dX0_drain_98 (by decide) (fun c7 => ?_) (fun c7 => ?_)
                      · refine lv_iload hx hb dX0_drain_107 (lv_at hl 0 rfl) ?_
                        refine lv_iload_n hx hb dX0_drain_109 rfl (lv_at hl 5 rfl) ?_
                        refine lv_icmp_ne (tgt := 115) hx hb dX0_drain_110 (by decide) (fun c8 => ?_) (fun c8 => ?_)
                        · refine lv_aload hx hb dX0_drain_115 (lv_at hl 6 rfl) ?_
                          refine lv_iload hx hb dX0_drain_117 (lv_at hl 0 rfl) ?_
                          refine lv_iconst (v := 1) hx hb dX0_drain_119 (by decide) ?_
                          refine va_zast hx hb hE.1 hP hD hS 1 4 rfl rfl (vp_in_nI (n := j) (by omega) (by omega)) dX0_drain_120 (fun H locs hP hD hS => ?_)
                          rw [nI_clamp (by omega), show vp_nar .boolean 1 = 1 from rfl] at hP hD
                          have hP : va_P G.1 clz (ia_ G ks kf :: za_ G gn (upd gf j 1) :: u) _ := hP
                          have hD : va_D A (ia_ G ks kf :: za_ G gn (upd gf j 1) :: u) := hD
                          refine lv_iload hx hb dX0_drain_121 (lv_at hl 1 rfl) ?_
                          refine lv_istore (lv' := [(5, .int a), (8, .int (nI j)), (7, .int a), (0, .ref d), (1, .int (nI i)), (2, .ref ks), (3, .int (nI n)), (4, .ref gn), (6, .int (nI k))]) hx hb dX0_drain_123 hl (by decide) rfl (fun ls hl => ?_)
                          refine lv_iinc (v := nI (k + 1)) (lv' := [(6, .int (nI (k + 1))), (5, .int a), (8, .int (nI j)), (7, .int a), (0, .ref d), (1, .int (nI i)), (2, .ref ks), (3, .int (nI n)), (4, .ref gn)]) hx hb dX0_drain_125 hl (k := 8) rfl (nI_1 k) (by decide) rfl (fun ls hl => ?_)
                          refine lv_goto (tgt := 12) hx hb dX0_drain_128 (by decide) ?_
                          have hrem2 : (rem_ kf (upd gf j 1) n).Perm ((C i).drop (k + 1)) := by
                            have h9 := (rem_set (kf := kf) c6 (n := n) (by omega)).trans hrem
                            rw [ea, c7] at h9
                            exact h9.cons_inv
                          have hso2 := so_drop k hso
                          rw [ea] at hso2
                          exact ih (k + 1) u (upd gf j 1) a H locs ls (cells + 1) (slots + 129) (by omega) hDk2 hrem2 (Or.inr fun b hb9 => so_head hso2 (List.mem_cons_of_mem _ hb9)) (by omega) (by omega) hP hD hS (lv_sub hl [4, 5, 6, 7, 8, 1, 0] rfl)
                        · exact absurd ((nI_eq (by omega) (by omega)).mp c8) (by omega)
                      · refine lv_iinc (v := nI (j + 1)) (lv' := [(8, .int (nI (j + 1))), (7, .int a), (0, .ref d), (1, .int (nI i)), (2, .ref ks), (3, .int (nI n)), (4, .ref gn), (5, .int last), (6, .int (nI k))]) hx hb dX0_drain_101 hl (k := 0) rfl (nI_1 j) (by decide) rfl (fun ls hl => ?_)
                        refine lv_goto (tgt := 78) hx hb dX0_drain_104 (by decide) ?_
                        exact ihM (j + 1) ls (by omega) (lt_s (p := fun t => gf t ≠ 0 ∨ kf t ≠ a) hno (Or.inr c7)) (lv_sub hl [0, 1, 2, 3, 4, 5, 6, 7, 8] rfl)
              exact inner n 0 ls (Nat.zero_add n) (fun t ht => absurd ht (Nat.not_lt_zero t)) (lv_sub hl [0, 1, 2, 3, 4, 5, 6, 7, 8] rfl)
            refine lv_iload hx hb dX0_drain_52 (lv_at hl 0 rfl) ?_
            refine lv_icmp_ne (tgt := 73) hx hb dX0_drain_54 (by decide) (fun c4 => ?_) (fun c4 => ?_)
            · exact absurd e_x4 c4
            · refine lv_iload hx hb dX0_drain_57 (lv_at hl 7 rfl) ?_
              refine lv_if_le (tgt := 75) hx hb dX0_drain_59 (by decide) (fun c5 => ?_) (fun c5 => ?_)
              · exact on ls (lv_sub hl [0, 1, 2, 3, 4, 5, 6, 7] rfl)
              · refine lv_iload_n hx hb dX0_drain_62 rfl (lv_at hl 2 rfl) ?_
                refine lv_iload hx hb dX0_drain_63 (lv_at hl 0 rfl) ?_
                refine lv_iload hx hb dX0_drain_65 (lv_at hl 6 rfl) ?_
                refine vp_callSi (va_Run.run (va_runS (As := [.int (nI i), .int a, .int last]) (rest := []) ⟨hx, hb, hml, hown, hts⟩ (mX0_ahead l i a last hi) (va_cwS 3 hts (lw_S q399 q400 q2 q401) rfl rfl rfl (by decide +kernel) ⟨Nat.le_of_ble_eq_true rfl, Nat.le_of_ble_eq_true rfl⟩) pre_any rfl rfl hl.1 rfl (lv_room (Nat.le_of_ble_eq_true rfl)) dX0_drain_67 ⟨by show cells + 1 + 0 ≤ 66; omega, by show slots + 129 + 0 ≤ 8449; omega⟩)) (fun x5 e_x5 => ?_)
                have e5 : x5 = 0 := by
                  rcases hlast with h9 | h9
                  · exact absurd (by rw [h9]; exact nI_0 ▸ Int32.le_refl _) c5
                  · exact lt_no (x := 0) e_x5 (h9 a (by rw [ea]; exact List.mem_cons_self))
                refine lv_if_eq (tgt := 75) hx hb dX0_drain_70 (by decide) (fun c6 => ?_) (fun c6 => ?_)
                · exact on ls (lv_sub hl [0, 1, 2, 3, 4, 5, 6, 7] rfl)
                · exact absurd e5 c6
          · exact absurd e_x2 c3
  exact loop n 0 w (fun _ => 0) 0 _ _ ls _ _ (Nat.zero_add n) (by rw [List.drop_zero, up_id]; exact hDk) (by rw [rem_0, List.drop_zero]; exact hpm.symm) (Or.inl rfl) (by omega) (by omega) hP hD hS (lv_sub hl [3, 4, 5, 6, 2, 1, 0] rfl)
end
section
/-! THE CLAIM OUT OF ONE WALK OF THE LAW'S BODY. Your part is whole_start (and what it stands on); all else here is the same for every law, but numbers. -/
def R_law : String := "BinaryArrayHeapDeskLaw"
def lw_P (b : Addr) (xs : List Int32) (args : Array Value) (s : State) : Prop := args = #[.ref b] ∧ s.IntsAt b xs ∧ xs.length ≤ 55 ∧ (Jvm.Cond.and given_1 narrow_1).before args s = true
def lw_Q (_ : Array Value) (s : State) (o : Outcome) (t : State) : Prop := o = .returned (some (.int 1)) ∧ Framed s o t [] 1200110 5501260
def lw_Z (below : List Frame) (a : Array Value) (s : State) : State → Prop := fun t => ∃ o, t.status = .running ∧ Ended t below o ∧ lw_Q a s o t
/-- the law's own end, with 1 on the stack, nothing written that was there before, its room as the claim has it -/
theorem lw_ret {p : Program} {l : Launch} {e : Env} {s : State} {m : MethodId} {below : List Frame} {meth : Method} {c : Code} {b : Nat} (hx : p.tables.exec = Jvm.exec) (hb : c.code = code) (hr : meth.sig.returnType = ret) (hlocks : meth.locks = false) {pc : Nat} {H : Heap} {ls : Array Slot} (hdg : decode code pc = .ok (.ireturn, 1)) : W p l e room_1 s m #[Value.ref b] below meth c H [] 1200110 5501260 (lw_Z below #[Value.ref b] s) (F0 m pc ls [.int 1]) := by
  intro T hT X
  obtain ⟨fs, hret, hrun, hended, hW, hframe⟩ := X.leave (v := some (.int 1)) (hlocks := hlocks) (fun h => by rw [hr] at h; cases h)
  have hmeth' : T.vm.method? m = some meth := X.method'
  refine ⟨T.setFrames fs, ?_, .returned (some (.int 1)), hrun, hended, rfl, ⟨_, rfl⟩, hW, hframe⟩
  jvm_step X.here [X.here.top, hx, hb, hdg, hmeth', hr, ret, narrow_b1]
  (try refine ⟨rfl, ?_⟩); (try refine ⟨rfl, ?_⟩)
  first | (intro acts; rw [hret _ acts rfl rfl rfl]) | rw [hret _ _ rfl rfl rfl]
  exact Steps.refl _
/-- what holds at the law's entry: the machine, the code, the tables' words (any of lw_tbl by 'hts w (by decide +kernel)'), the script of L ints xs at the cell b, what the Statement gives of the start (any of its parts by flat_of_before) -/
def lw_At (p : Program) (s : State) (m : MethodId) (meth : Method) (c : Code) (b L : Nat) (xs : Nat → Int32) : Prop :=
  p.tables.exec = Jvm.exec ∧ c.code = code ∧ meth.sig.returnType = ret ∧ c.maxLocals = 13 ∧ s.vm.findClass R_law = some m.cls ∧ (∀ w ∈ lw_tbl, w.before #[Value.ref b] s = true) ∧ va_X b L xs s s.heap ∧ b < s.heap.size ∧ meth.locks = false ∧ (Jvm.Cond.and given_1 narrow_1).before #[Value.ref b] s = true

/-! what every method is handed, at the law's entry -/
set_option maxRecDepth 100000
theorem all_less {args : Array Value} {s : State} {t : Term} {E U F : Cond} {v : Value} (hlen : (Term.length t).eval args s none [] s = some v) (h : (Cond.all t (.and (.and E U) F)).before args s = true) : (Cond.all t (.and E F)).before args s = true := by
  obtain ⟨a, cell, ht, hat, -⟩ := Term.length_spec hlen
  have h1 := Cond.all_elim ht hat (by simpa [Cond.before, Cond.holds] using h)
  have h2 : (Cond.all t (.and E F)).value args s none s [] = some true := Cond.all_intro ht hat (fun i hi => by
    obtain ⟨q1, q2⟩ := va_andE (h1 i hi)
    obtain ⟨q3, q4⟩ := va_andE q1
    simp [Cond.value, q3, q2])
  simpa [Cond.before, Cond.holds] using h2
theorem arr_of_over {args : Array Value} {s : State} {C : String} (h : (Cond.arrayOver (.object C)).before args s = true) : ∃ cA : ClassId, ArrOfT s cA (.object C) ∧ va_RA s cA (.object C) := by
  obtain ⟨comp, c, k, h1, -, h3, h4, h5⟩ := Cond.arrayOver_spec h
  exact ⟨c, fun N z => ⟨(fun k9 h9 => by cases h9), k, h3, comp, h4⟩, k, comp, h3, h4, h1, h5⟩
theorem arr_of_int {args : Array Value} {s : State} (h : (Cond.arrayClass .int).before args s = true) : ∃ cA : ClassId, ArrOfT s cA .int ∧ va_RA s cA .int := by
  obtain ⟨c, k, comp, h1, h2, h3⟩ := Cond.arrayClass_spec h
  exact ⟨c, fun N z => ⟨(fun k9 h9 => by cases h9), k, h2, comp, h3⟩, h1⟩
theorem arr_of_bool {args : Array Value} {s : State} (h : (Cond.arrayClass .boolean).before args s = true) : ∃ cA : ClassId, ArrOfT s cA .boolean ∧ va_RA s cA .boolean := by
  obtain ⟨c, k, comp, h1, h2, h3⟩ := Cond.arrayClass_spec h
  exact ⟨c, fun N z => ⟨(fun k9 h9 => by cases h9), k, h2, comp, h3⟩, h1⟩
set_option maxHeartbeats 4000000 in
theorem env_start {s : State} {b : Nat} (hts0 : ∀ w ∈ lw_tbl, w.before #[Value.ref b] s = true) (hgv : (Jvm.Cond.and given_1 narrow_1).before #[Value.ref b] s = true) : ∃ G : gT, Env_ G (fun q => s.heap.size ≤ q) s s.heap := by
  have hs := flat_of_before _ hgv
  have hA : ∀ a : Nat, a < s.heap.size → ¬ (fun q : Nat => s.heap.size ≤ q) a := fun a h z => Nat.not_le.mpr h z
  obtain ⟨c0, i0, k0⟩ := u_known (C := RX4) (T := TX4) (N := 4) (n := 4) hts0 (fun w h => lw_all_tbl (in_X4 w h)) (hts0 _ (lw_all_tbl q34))
  obtain ⟨c1, i1, k1⟩ := u_known (C := RX1) (T := TX1) (N := 2) (n := 2) hts0 (fun w h => lw_all_tbl (in_X1 w h)) (hts0 _ (lw_all_tbl q19))
  obtain ⟨c2, i2, k2⟩ := u_known (C := RJ7) (T := TJ7) (N := 1) (n := 1) hts0 (fun w h => lw_all_tbl (in_J7 w h)) (hts0 _ (lw_all_tbl q195))
  obtain ⟨cO, aO, rO⟩ := arr_of_over (hts0 _ q143)
  obtain ⟨cF, aF, rF⟩ := arr_of_over (hts0 _ q30)
  obtain ⟨cJ, aJ, rJ⟩ := arr_of_over (hts0 _ q286)
  obtain ⟨cI, aI, rI⟩ := arr_of_int (hts0 _ (lw_all_tbl q408))
  obtain ⟨cZ, aZ, rZ⟩ := arr_of_bool (hts0 _ (lw_all_tbl q405))
  have hlen : (Term.length (Jvm.Term.static "java/lang/Integer$IntegerCache" "cache" "[Ljava/lang/Integer;")).eval #[Value.ref b] s none [] s = some (.int (Int32.ofNat 256)) := va_eqt (hs (Cond.eq (Term.length (Jvm.Term.static "java/lang/Integer$IntegerCache" "cache" "[Ljava/lang/Integer;")) (Term.int 256)) (by decide +kernel))
  have hall : (Cond.all (Jvm.Term.static "java/lang/Integer$IntegerCache" "cache" "[Ljava/lang/Integer;") (.and (.and (.exactly (.elem (Jvm.Term.static "java/lang/Integer$IntegerCache" "cache" "[Ljava/lang/Integer;") (.index 0)) "java/lang/Integer") (.untouched (.elem (Jvm.Term.static "java/lang/Integer$IntegerCache" "cache" "[Ljava/lang/Integer;") (.index 0)))) (.eq (.field (.elem (Jvm.Term.static "java/lang/Integer$IntegerCache" "cache" "[Ljava/lang/Integer;") (.index 0)) "java/lang/Integer" "value" "I") (.sub (.index 0) (.int 128))))).before #[Value.ref b] s = true := hs _ (by decide +kernel)
  obtain ⟨ad, hC, hel⟩ := vb_Cof (A := fun q : Nat => s.heap.size ≤ q) rfl hlen (all_less hlen hall) hA
  obtain ⟨ca, hca, hT⟩ := va_Tof (N := 256) (f := fun k => .ref (ad k)) (A := fun q : Nat => s.heap.size ≤ q) (by decide) (hs (Cond.arrayOf (Jvm.Term.static "java/lang/Integer$IntegerCache" "cache" "[Ljava/lang/Integer;") (.object "java/lang/Integer")) (by decide +kernel)) hlen hel hA
  have hex : (Cond.exactly (Term.static "BinaryArrayHeapDesk" "DOWN" "LBinaryArrayHeapDesk$Down;") "BinaryArrayHeapDesk$Down").before #[Value.ref b] s = true := hs _ (by decide +kernel)
  obtain ⟨dn, _, _, _, hdn, -⟩ := Cond.exactly_spec hex
  have hhi : (Term.static "java/lang/Integer$IntegerCache" "high" "I").eval #[Value.ref b] s none [] s = some (.int 127) := va_eqi (hs (Cond.eq (Term.static "java/lang/Integer$IntegerCache" "high" "I") (Term.int 127)) (by decide +kernel))
  refine ⟨((fun k => if k = 0 then c0 else if k = 1 then c1 else c2, fun k => if k = 0 then i0 else if k = 1 then i1 else i2), cO, cF, cJ, cI, cZ, ca, ad, dn), ⟨?_, ?_⟩, ⟨?_, ?_, ?_, ?_⟩, ?_, ?_, ?_, ?_, ?_, ?_⟩
  · intro k q hq
    match k, hq with
    | 0, hq => cases hq; exact k0
    | 1, hq => cases hq; exact k1
    | 2, hq => cases hq; exact k2
    | k + 3, hq => simp [clz] at hq
  · intro k q hq
    match k, hq with
    | 0, hq => cases hq; exact ⟨aO, rO⟩
    | 1, hq => cases hq; exact ⟨aF, rF⟩
    | 2, hq => cases hq; exact ⟨aJ, rJ⟩
    | 3, hq => cases hq; exact ⟨aI, rI⟩
    | 4, hq => cases hq; exact ⟨aZ, rZ⟩
    | k + 5, hq => simp [tyz] at hq
  · exact ⟨va_AO.of (hts0 _ q143), va_AO.of (hts0 _ q30), va_AO.of (hts0 _ q286)⟩
  · exact ⟨va_Nw.of rfl (hts0 _ q411), va_Nw.of rfl (hts0 _ q418)⟩
  · intro x hx
    simp only [decls, List.mem_cons, List.not_mem_nil, or_false] at hx
    rcases hx with rfl | rfl | rfl | rfl | rfl | rfl
    · exact va_Nw.of rfl (hts0 _ q137)
    · exact va_Nw.of rfl (hts0 _ q233)
    · exact va_Nw.of rfl (hts0 _ q247)
    · exact va_Nw.of rfl (hts0 _ q262)
    · exact va_Nw.of rfl (hts0 _ q362)
    · exact va_Nw.of rfl (hts0 _ q366)
  · exact va_Fw.of (hts0 _ q269) (hts0 _ q268) (hts0 _ q274) (hts0 _ q272) (hts0 _ q270)
  · exact va_Zof (hts0 _ q191) (hts0 _ (lw_all_tbl q15)) hhi hA
  · exact va_Zref (hts0 _ q193) (hts0 _ (lw_all_tbl q15)) hca hA
  · exact hT
  · exact hC
  · exact va_Zof (hts0 _ q171) (hts0 _ (lw_all_tbl q3)) hdn hA
  · exact va_Oof hex hdn hA
/-- what holds all through the law's body -/
def LC (p : Program) (s : State) (m : MethodId) (meth : Method) (c : Code) (b L : Nat) (xs : Nat → Int32) (G : gT) (A : Nat → Prop) : Prop :=
  p.tables.exec = Jvm.exec ∧ c.code = cL_law ∧ meth.sig.returnType = ret ∧ meth.locks = false ∧ c.maxLocals = 13 ∧ s.vm.findClass RX0 = some m.cls ∧ (∀ w ∈ lw_all, w.before #[Value.ref b] s = true) ∧ va_X b L xs s s.heap ∧ ¬ A b ∧ b < s.heap.size ∧ L ≤ 55 ∧ Env_ G A s s.heap ∧ (∀ q, s.heap.size ≤ q → A q) ∧ ∀ q, A q → s.heap.size ≤ q

/-! pure rows for the law -/
theorem so_ins {d : Bool} {k : Int32} {C C2 : List Int32} (h2 : so_ d C2) (h : so_ d C) (p : C2.Perm (k :: C)) : (C = [] → C2.headD (-1) = k) ∧ (∀ a t, C = a :: t → C2.headD (-1) = if wt_ d k < wt_ d a then k else a) := by
  cases C2 with
  | nil => exact absurd p.length_eq (by simp)
  | cons x t2 =>
    refine ⟨fun e => ?_, fun a t e => ?_⟩
    · subst e
      exact (so_min h2 p (b := k) List.mem_cons_self (fun c hc => by
        rcases List.mem_cons.mp hc with e | e
        · rw [e]; exact Int.le_refl _
        · exact absurd e List.not_mem_nil)).symm
    · subst e
      by_cases hk : wt_ d k < wt_ d a
      · rw [if_pos hk]
        exact (so_min h2 p (b := k) List.mem_cons_self (fun c hc => by
          rcases List.mem_cons.mp hc with e | e
          · rw [e]; exact Int.le_refl _
          · have := so_head h e
            omega)).symm
      · rw [if_neg hk]
        exact (so_min h2 p (b := a) (List.mem_cons_of_mem _ List.mem_cons_self) (fun c hc => by
          rcases List.mem_cons.mp hc with e | e
          · rw [e]; omega
          · exact so_head h e)).symm
theorem rg_succ {f : Nat → Int32} {n : Nat} {C C2 : List Int32} (h : C.Perm ((List.range n).map f)) (p : C2.Perm (f n :: C)) : C2.Perm ((List.range (n + 1)).map f) := by
  rw [List.range_succ, List.map_append]
  exact p.trans ((List.Perm.cons _ h).trans (List.perm_append_comm (l₁ := [f n])))
theorem rg_drop {f : Nat → Int32} {n j : Nat} (hj : j < n) {C C2 : List Int32} (h : C.Perm (((List.range n).drop (j + 1)).map f)) (p : C2.Perm (f j :: C)) : C2.Perm (((List.range n).drop j).map f) := by
  have e : (List.range n).drop j = j :: (List.range n).drop (j + 1) := by
    rw [List.drop_eq_getElem_cons (by rw [List.length_range]; exact hj), List.getElem_range]
  rw [e, List.map_cons]
  exact p.trans (List.Perm.cons _ h)
theorem rg_congr {f g : Nat → Int32} {n : Nat} (h : ∀ j, j < n → f j = g j) : (List.range n).map f = (List.range n).map g := List.map_congr_left (fun j hj => h j (List.mem_range.mp hj))
/-- a counter that runs down: j - 1 -/
def pm_ : Nat → Int32
  | 0 => -1
  | j + 1 => nI j
theorem pm_of (n : Nat) : nI n - 1 = pm_ n := by
  cases n with
  | zero => decide
  | succ k => exact nI_pred k
theorem pm_dn (j : Nat) : nI j + (-1) = pm_ j := by
  cases j with
  | zero => decide
  | succ k => exact pk_m1 k
theorem mask2 (v : Int32) : (v &&& 65535) &&& 65535 = v &&& 65535 := by
  rw [Int32.and_assoc]
  rfl
theorem rem_n {a d : Nat} (ha : a < 2 ^ 31) (h0 : 0 < d) (hd : d < 2 ^ 31) {x : Int32} (hx : x = nI d) : nI a - nI a / x * x = nI (a % d) := by
  rw [hx]
  exact pk_rem ha h0 hd
theorem and31 (x : Int32) : ∃ u, u < 2 ^ 31 ∧ x &&& 2147483647 = nI u := pk_andE x (m := 2147483647) 31 (by decide)
theorem st_take {S : List Int32} {i : Nat} {a : Int32} (h : S.drop i = a :: S.drop (i + 1)) : S.take (i + 1) = S.take i ++ [a] := by
  have hl : i < S.length := by
    rcases Nat.lt_or_ge i S.length with h9 | h9
    · exact h9
    · rw [List.drop_eq_nil_of_le h9] at h
      cases h
  have e : a = S[i] := by
    rw [List.drop_eq_getElem_cons hl] at h
    exact (List.cons.inj h).1.symm
  rw [List.take_succ, List.getElem?_eq_getElem hl, e]
  rfl
end
section
/-! THE LAW'S BODY, in segments, the last first -/
set_option maxRecDepth 100000
def kk_ (L : Nat) (xs : Nat → Int32) (i : Nat) : Int32 := at_ L xs (8 + i) &&& 65535
def mm_ (L : Nat) (xs : Nat → Int32) (i : Nat) : Int32 := at_ L xs (33 + i) &&& 65535
theorem pm_5 {a b c : va_W} : (a ++ (b ++ c)).Perm (c ++ (a ++ b)) := by
  rw [← List.append_assoc]
  exact List.perm_append_comm
theorem pm_6 {a b c : va_W} : (a ++ (b ++ c)).Perm (c ++ (b ++ a)) := by
  refine List.perm_append_comm.trans ?_
  rw [← List.append_assoc]
  exact List.perm_append_comm.append_right a
theorem wP_nil {D : va_G} {cl : List vw_C} {H : Heap} : va_P D cl [] H := wP_iff.mpr (fun q h => absurd h List.not_mem_nil)
theorem wD_nil {A : Nat → Prop} : va_D A [] := wD_iff.mpr ⟨List.nodup_nil, fun q h => absurd h List.not_mem_nil⟩
theorem mm_4 {L : Nat} {xs : Nat → Int32} {j : Nat} : mm_ L xs (4 + j) = at_ L xs (37 + j) &&& 65535 := by
  unfold mm_
  rw [show 33 + (4 + j) = 37 + j by omega]
set_option maxHeartbeats 4000000 in
set_option maxRecDepth 100000 in
/-- the end -/
theorem lg_N2 {p : Program} {l : Launch} {e : Env} {s : State} {m : MethodId} {below : List Frame} {meth : Method} {c : Code} {b L : Nat} {xs : Nat → Int32} {G : gT} {A : Nat → Prop} (X : LC p s m meth c b L xs G A) (dw : Nat) (C : Nat → List Int32) (ww : va_W) (hDk : Dk G dw 64 C ww) (H : Heap) (locs : List Loc) (ls : Array Slot) (hP : va_P G.1 clz (ww) H) (hD : va_D A (ww)) (hS : va_S A s.heap H locs) (hl : lv_has ls 13 [(11, .ref dw), (0, .ref b)]) : W p l e room_1 s m #[Value.ref b] below meth c H locs 14000 1400000 (lw_Z below #[Value.ref b] s) (F0 m 774 ls []) := by
  obtain ⟨hx, hb, hr, hlocks, hml, hown, hts, hX, hbA, hbl, hL, hE, hA, hA2⟩ := id X
  refine lv_aload hx hb dL_law_774 (lv_at hl 0 rfl) ?_
  refine lv_aload_n hx hb dL_law_776 rfl (lv_at hl 1 rfl) ?_
  refine lv_bipush (v := 53) hx hb dL_law_777 (by decide) ?_
  refine lt_i (y := nI (53)) rfl ?_
  refine vp_callSi (va_Run.run (va_runS (As := [.ref b, .int (nI (53))]) (rest := [.ref dw]) ⟨hx, hb, hml, hown, hts⟩ (mX0_at l b L (53) xs hL (by omega)) (va_cwS 2 hts (lw_S q396 q397 q2 q398) rfl rfl rfl (by decide +kernel) ⟨Nat.le_of_ble_eq_true rfl, Nat.le_of_ble_eq_true rfl⟩) (Px.pre (hX.kept (hS.2.1 b hbl hbA))) rfl rfl hl.1 rfl (lv_room (Nat.le_of_ble_eq_true rfl)) dL_law_779 ⟨Nat.le_of_ble_eq_true rfl, Nat.le_of_ble_eq_true rfl⟩)) (fun v9 e_v9 => ?_)
  subst e_v9
  refine lv_iconst (v := 1) hx hb dL_law_782 (by decide) ?_
  have hc := cut_ (wc := ww) (wr := []) hE hP hD hS hA (by rw [List.append_nil])
  refine vp_callSi (va_Run.run (va_runV (As := [.int (at_ L xs 53), .int 1]) (rest := []) ⟨hx, hb, hml, hown, hts⟩ (mX1_put0 l G dw 64 _ C ww (at_ L xs 53) 1 (Nat.le_refl 64) hDk) (cwV 2 hts (lw_V q182 q183 q184 q3 q185) rfl rfl rfl (by decide +kernel) ⟨Nat.le_of_ble_eq_true rfl, Nat.le_of_ble_eq_true rfl⟩) (Pw.preV hc no_bx (hDk.recv hc.1 hE.1)) rfl rfl hl.1 rfl (lv_room (Nat.le_of_ble_eq_true rfl)) dL_law_783 ⟨Nat.le_of_ble_eq_true rfl, Nat.le_of_ble_eq_true rfl⟩)) (fun x1 e_x1 => ?_)
  refine lv_if_ne (tgt := 811) hx hb dL_law_786 (by decide) (fun c1 => ?_) (fun c1 => ?_)
  · exact absurd e_x1 c1
  · refine lv_aload hx hb dL_law_789 (lv_at hl 0 rfl) ?_
    refine lv_aload_n hx hb dL_law_791 rfl (lv_at hl 1 rfl) ?_
    refine lv_bipush (v := 54) hx hb dL_law_792 (by decide) ?_
    refine lt_i (y := nI (54)) rfl ?_
    refine vp_callSi (va_Run.run (va_runS (As := [.ref b, .int (nI (54))]) (rest := [.ref dw]) ⟨hx, hb, hml, hown, hts⟩ (mX0_at l b L (54) xs hL (by omega)) (va_cwS 2 hts (lw_S q396 q397 q2 q398) rfl rfl rfl (by decide +kernel) ⟨Nat.le_of_ble_eq_true rfl, Nat.le_of_ble_eq_true rfl⟩) (Px.pre (hX.kept (hS.2.1 b hbl hbA))) rfl rfl hl.1 rfl (lv_room (Nat.le_of_ble_eq_true rfl)) dL_law_794 ⟨Nat.le_of_ble_eq_true rfl, Nat.le_of_ble_eq_true rfl⟩)) (fun v9 e_v9 => ?_)
    subst e_v9
    refine lv_iconst (v := 1) hx hb dL_law_797 (by decide) ?_
    refine lv_iconst (v := 2) hx hb dL_law_798 (by decide) ?_
    refine lv_iconst (v := 3) hx hb dL_law_799 (by decide) ?_
    refine lv_iconst (v := 4) hx hb dL_law_800 (by decide) ?_
    have hc := cut_ (wc := ww) (wr := []) hE hP hD hS hA (by rw [List.append_nil])
    refine vp_callSi (va_Run.run (va_runV (As := [.int (at_ L xs 54), .int 1, .int 2, .int 3, .int 4]) (rest := []) ⟨hx, hb, hml, hown, hts⟩ (mX1_four0 l G dw 64 _ C ww (at_ L xs 54) 1 2 3 4 (by decide) hDk) (cwV 5 hts (lw_V q282 q283 q284 q3 q285) rfl rfl rfl (by decide +kernel) ⟨Nat.le_of_ble_eq_true rfl, Nat.le_of_ble_eq_true rfl⟩) (Pw.preV hc no_bx (hDk.recv hc.1 hE.1)) rfl rfl hl.1 rfl (lv_room (Nat.le_of_ble_eq_true rfl)) dL_law_801 ⟨Nat.le_of_ble_eq_true rfl, Nat.le_of_ble_eq_true rfl⟩)) (fun x2 e_x2 => ?_)
    refine lv_if_ne (tgt := 811) hx hb dL_law_804 (by decide) (fun c2 => ?_) (fun c2 => ?_)
    · exact absurd e_x2 c2
    · refine lv_iconst (v := 1) hx hb dL_law_807 (by decide) ?_
      refine lv_goto (tgt := 812) hx hb dL_law_808 (by decide) ?_
      refine W.widen (k := 1200110) (n := 5501260) (Nat.le_of_ble_eq_true rfl) (Nat.le_of_ble_eq_true rfl) ?_
      refine va_forget (fun q hq => hA2 _ (hS.2.2 q hq)) ?_
      exact lw_ret hx hb hr hlocks dL_law_812
set_option maxHeartbeats 4000000 in
set_option maxRecDepth 100000 in
/-- four single keys -/
theorem lg_N1 {p : Program} {l : Launch} {e : Env} {s : State} {m : MethodId} {below : List Frame} {meth : Method} {c : Code} {b L : Nat} {xs : Nat → Int32} {G : gT} {A : Nat → Prop} (X : LC p s m meth c b L xs G A) (dw : Nat) (C : Nat → List Int32) (ww : va_W) (hDk : Dk G dw 60 C ww) (H : Heap) (locs : List Loc) (ls : Array Slot) (hP : va_P G.1 clz (ww) H) (hD : va_D A (ww)) (hS : va_S A s.heap H locs) (hl : lv_has ls 13 [(11, .ref dw), (0, .ref b)]) : W p l e room_1 s m #[Value.ref b] below meth c H locs 13000 1300000 (lw_Z below #[Value.ref b] s) (F0 m 719 ls []) := by
  obtain ⟨hx, hb, hr, hlocks, hml, hown, hts, hX, hbA, hbl, hL, hE, hA, hA2⟩ := id X
  refine lv_iconst (v := 0) hx hb dL_law_719 (by decide) ?_
  refine lt_i (y := nI 0) (nI_0.symm) ?_
  refine lv_istore (lv' := [(12, .int (nI 0)), (11, .ref dw), (0, .ref b)]) hx hb dL_law_720 hl (by decide) rfl (fun ls hl => ?_)
  have loop : ∀ (M j : Nat) (C : Nat → List Int32) (ww : va_W) (H : Heap) (locs : List Loc) (ls : Array Slot) (cells slots : Nat), j + M = 4 → Dk G dw (60 + j) C ww → cells + 2 * M ≤ 14000 → slots + 130 * M ≤ 1400000 → va_P G.1 clz ww H → va_D A ww → va_S A s.heap H locs → lv_has ls 13 [(12, .int (nI j)), (11, .ref dw), (0, .ref b)] → W p l e room_1 s m #[Value.ref b] below meth c H locs cells slots (lw_Z below #[Value.ref b] s) (F0 m 722 ls []) := by
    intro M
    induction M with
    | zero =>
      intro j C ww H locs ls cells slots hj hDk hce hsl hP hD hS hl
      refine lv_iload hx hb dL_law_722 (lv_at hl 0 rfl) ?_
      refine lv_iconst (v := 4) hx hb dL_law_724 (by decide) ?_
      refine lv_icmp_ge (tgt := 774) hx hb dL_law_725 (by decide) (fun c1 => ?_) (fun c1 => ?_)
      · have e4 : j = 4 := by omega
        subst e4
        refine W.widen (k := 14000) (n := 1400000) (by omega) (by omega) ?_
        exact lg_N2 X dw C ww hDk H locs ls hP hD hS (lv_sub hl [1, 2] rfl)
      · exact absurd (show (4 : Int32) ≤ nI j by rw [show j = 4 by omega]; decide) c1
    | succ M ih =>
      intro j C ww H locs ls cells slots hj hDk hce hsl hP hD hS hl
      refine lv_iload hx hb dL_law_722 (lv_at hl 0 rfl) ?_
      refine lv_iconst (v := 4) hx hb dL_law_724 (by decide) ?_
      refine lv_icmp_ge (tgt := 774) hx hb dL_law_725 (by decide) (fun c1 => ?_) (fun c1 => ?_)
      · exact absurd ((nI_leI (a := 4) (by omega) (by omega)).mp c1) (by omega)
      · have on : ∀ ls : Array Slot, lv_has ls 13 [(12, .int (nI j)), (11, .ref dw), (0, .ref b)] → W p l e room_1 s m #[Value.ref b] below meth c H locs cells slots (lw_Z below #[Value.ref b] s) (F0 m 747 ls []) := by
          intro ls hl
          refine lv_aload hx hb dL_law_747 (lv_at hl 1 rfl) ?_
          refine lv_aload_n hx hb dL_law_749 rfl (lv_at hl 2 rfl) ?_
          refine lv_bipush (v := 49) hx hb dL_law_750 (by decide) ?_
          refine lv_iload hx hb dL_law_752 (lv_at hl 0 rfl) ?_
          refine lv_iadd hx hb dL_law_754 ?_
          refine lt_i (y := nI (49 + j)) (nI_add 49 j) ?_
          refine vp_callSi (va_Run.run (va_runS (As := [.ref b, .int (nI (49 + j))]) (rest := [.ref dw]) ⟨hx, hb, hml, hown, hts⟩ (mX0_at l b L (49 + j) xs hL (by omega)) (va_cwS 2 hts (lw_S q396 q397 q2 q398) rfl rfl rfl (by decide +kernel) ⟨Nat.le_of_ble_eq_true rfl, Nat.le_of_ble_eq_true rfl⟩) (Px.pre (hX.kept (hS.2.1 b hbl hbA))) rfl rfl hl.1 rfl (lv_room (Nat.le_of_ble_eq_true rfl)) dL_law_755 ⟨by show cells + 0 ≤ 1200110; omega, by show slots + 0 ≤ 5501260; omega⟩)) (fun v9 e_v9 => ?_)
          subst e_v9
          refine lv_iload hx hb dL_law_758 (lv_at hl 0 rfl) ?_
          obtain ⟨iv, hiv, eiv⟩ := and3 (x := at_ L xs (49 + j))
          have hc := cut_ (wc := ww) (wr := []) hE hP hD hS hA (by rw [List.append_nil])
          refine ci_ (va_runV (As := [.int (at_ L xs (49 + j)), .int (nI j)]) (rest := []) ⟨hx, hb, hml, hown, hts⟩ (mX1_put l G dw (60 + j) _ iv C ww (at_ L xs (49 + j)) (nI j) hiv eiv (by omega) hDk) (cwV 2 hts (lw_V q182 q183 q184 q3 q185) rfl rfl rfl (by decide +kernel) ⟨Nat.le_of_ble_eq_true rfl, Nat.le_of_ble_eq_true rfl⟩) (Pw.preV hc no_bx (hDk.recv hc.1 hE.1)) rfl rfl hl.1 rfl (lv_room (Nat.le_of_ble_eq_true rfl)) dL_law_760 ⟨by show cells + 2 ≤ 1200110; omega, by show slots + 130 ≤ 5501260; omega⟩) hP hD hS hc (by rw [List.append_nil]) (fun x1 u H locs hq hP hD hS => ?_)
          have hP := wP_perm hP (by rw [List.append_nil])
          have hD := wD_perm hD (by rw [List.append_nil])
          have hP : va_P G.1 clz (u) _ := hP
          have hD : va_D A (u) := hD
          obtain ⟨e_x1, Ci, hDk2, -⟩ := hq
          refine lv_if_ne (tgt := 768) hx hb dL_law_763 (by decide) (fun c3 => ?_) (fun c3 => ?_)
          · refine lv_iinc (v := nI (j + 1)) (lv' := [(12, .int (nI (j + 1))), (11, .ref dw), (0, .ref b)]) hx hb dL_law_768 hl (k := 0) rfl (nI_1 j) (by decide) rfl (fun ls hl => ?_)
            refine lv_goto (tgt := 722) hx hb dL_law_771 (by decide) ?_
            exact ih (j + 1) _ u _ _ ls (cells + 2) (slots + 130) (by omega) hDk2 (by omega) (by omega) hP hD hS (lv_sub hl [0, 1, 2] rfl)
          · exact absurd (e_x1.symm.trans c3) (by decide)
        refine lv_iload hx hb dL_law_728 (lv_at hl 0 rfl) ?_
        refine lv_iconst (v := 1) hx hb dL_law_730 (by decide) ?_
        refine lv_icmp_lt (tgt := 747) hx hb dL_law_731 (by decide) (fun c2 => ?_) (fun c2 => ?_)
        · exact on ls (lv_sub hl [0, 1, 2] rfl)
        · have hj1 : 1 ≤ j := by rcases Nat.lt_or_ge j 1 with h9 | h9; exact absurd (by rw [show j = 0 by omega]; decide) c2; exact h9
          refine lv_aload hx hb dL_law_734 (lv_at hl 1 rfl) ?_
          refine lv_iconst (v := 0) hx hb dL_law_736 (by decide) ?_
          refine lv_iconst (v := 1) hx hb dL_law_737 (by decide) ?_
          refine lv_iconst (v := 2) hx hb dL_law_738 (by decide) ?_
          refine lv_iconst (v := 3) hx hb dL_law_739 (by decide) ?_
          refine lv_iconst (v := 4) hx hb dL_law_740 (by decide) ?_
          have hc := cut_ (wc := ww) (wr := []) hE hP hD hS hA (by rw [List.append_nil])
          refine vp_callSi (va_Run.run (va_runV (As := [.int 0, .int 1, .int 2, .int 3, .int 4]) (rest := []) ⟨hx, hb, hml, hown, hts⟩ (mX1_four0 l G dw (60 + j) _ C ww 0 1 2 3 4 (by omega) hDk) (cwV 5 hts (lw_V q282 q283 q284 q3 q285) rfl rfl rfl (by decide +kernel) ⟨Nat.le_of_ble_eq_true rfl, Nat.le_of_ble_eq_true rfl⟩) (Pw.preV hc no_bx (hDk.recv hc.1 hE.1)) rfl rfl hl.1 rfl (lv_room (Nat.le_of_ble_eq_true rfl)) dL_law_741 ⟨by show cells + 0 ≤ 1200110; omega, by show slots + 0 ≤ 5501260; omega⟩)) (fun x2 e_x2 => ?_)
          refine lv_if_ne (tgt := 766) hx hb dL_law_744 (by decide) (fun c4 => ?_) (fun c4 => ?_)
          · exact absurd e_x2 c4
          · exact on ls (lv_sub hl [0, 1, 2] rfl)
  exact loop 4 0 C ww H locs ls 13000 1300000 rfl hDk (Nat.le_of_ble_eq_true rfl) (Nat.le_of_ble_eq_true rfl) hP hD hS (lv_sub hl [0, 1, 2] rfl)
set_option maxHeartbeats 4000000 in
set_option maxRecDepth 100000 in
/-- the last desk -/
theorem lg_N0 {p : Program} {l : Launch} {e : Env} {s : State} {m : MethodId} {below : List Frame} {meth : Method} {c : Code} {b L : Nat} {xs : Nat → Int32} {G : gT} {A : Nat → Prop} (X : LC p s m meth c b L xs G A)   (H : Heap) (locs : List Loc) (ls : Array Slot) (hP : va_P G.1 clz ([]) H) (hD : va_D A ([])) (hS : va_S A s.heap H locs) (hl : lv_has ls 13 [(0, .ref b)]) : W p l e room_1 s m #[Value.ref b] below meth c H locs 12000 1200000 (lw_Z below #[Value.ref b] s) (F0 m 674 ls []) := by
  obtain ⟨hx, hb, hr, hlocks, hml, hown, hts, hX, hbA, hbl, hL, hE, hA, hA2⟩ := id X
  have hP : va_P G.1 clz [] H := wP_nil
  have hD : va_D A [] := wD_nil
  refine va_new (ci := 1) (fs := [.null, .int 0]) (C := RX1) (T := TX1) (N := 2) hx hb hts in_X1 tyX1 tyX1_ok hown (hts _ q18) (hts _ q19) (hts _ q3) hE.1 hP hD hS hA rfl (fun j hj => by rcases (show j = 0 ∨ j = 1 by omega) with rfl | rfl <;> rfl) (Nat.le_of_ble_eq_true rfl) (Nat.le_of_ble_eq_true rfl) dL_law_674 (fun dw H hP hD hS => ?_)
  refine lv_dup hx hb dL_law_677 rfl ?_
  have hP : va_P G.1 clz ([(dw, .inr (1, [.null, .int 0]))]) _ := hP
  have hD : va_D A ([(dw, .inr (1, [.null, .int 0]))]) := hD
  have hc := cut_ (wc := [(dw, .inr (1, [.null, .int 0]))]) (wr := []) hE hP hD hS hA (List.Perm.refl _)
  refine cv_ (wr := []) (va_runI (As := []) (rest := [.ref dw]) ⟨hx, hb, hml, hown, hts⟩ (mX1_init l G dw _) (cwI 0 hts (lw_meth q22) rfl rfl rfl (hts _ q3) (hts _ q20) (hts _ q21) rfl (by decide +kernel) ⟨Nat.le_of_ble_eq_true rfl, Nat.le_of_ble_eq_true rfl⟩) (Pw.pre hc no_bx) rfl rfl hl.1 rfl (lv_room (Nat.le_of_ble_eq_true rfl)) dL_law_678 ⟨Nat.le_of_ble_eq_true rfl, Nat.le_of_ble_eq_true rfl⟩) hP hD hS hc (List.Perm.refl _) (fun ww H locs hDk hP hD hS => ?_)
  have hP : va_P G.1 clz ww _ := wP_left hP
  have hD : va_D A ww := wD_left hD
  refine lv_astore (lv' := [(11, .ref dw), (0, .ref b)]) hx hb dL_law_681 hl (by decide) rfl (fun ls hl => ?_)
  refine lv_iconst (v := 0) hx hb dL_law_683 (by decide) ?_
  refine lt_i (y := nI 0) (nI_0.symm) ?_
  refine lv_istore (lv' := [(12, .int (nI 0)), (11, .ref dw), (0, .ref b)]) hx hb dL_law_684 hl (by decide) rfl (fun ls hl => ?_)
  have loop : ∀ (M j : Nat) (C : Nat → List Int32) (ww : va_W) (H : Heap) (locs : List Loc) (ls : Array Slot) (cells slots : Nat), j + M = 15 → Dk G dw (4 * j) C ww → cells + 7 * M ≤ 13000 → slots + 29 * M ≤ 1300000 → va_P G.1 clz ww H → va_D A ww → va_S A s.heap H locs → lv_has ls 13 [(12, .int (nI j)), (11, .ref dw), (0, .ref b)] → W p l e room_1 s m #[Value.ref b] below meth c H locs cells slots (lw_Z below #[Value.ref b] s) (F0 m 686 ls []) := by
    intro M
    induction M with
    | zero =>
      intro j C ww H locs ls cells slots hj hDk hce hsl hP hD hS hl
      refine lv_iload hx hb dL_law_686 (lv_at hl 0 rfl) ?_
      refine lv_bipush (v := 15) hx hb dL_law_688 (by decide) ?_
      refine lv_icmp_ge (tgt := 719) hx hb dL_law_690 (by decide) (fun c1 => ?_) (fun c1 => ?_)
      · have e4 : j = 15 := by omega
        subst e4
        refine W.widen (k := 13000) (n := 1300000) (by omega) (by omega) ?_
        exact lg_N1 X dw C ww hDk H locs ls hP hD hS (lv_sub hl [1, 2] rfl)
      · exact absurd (show (15 : Int32) ≤ nI j by rw [show j = 15 by omega]; decide) c1
    | succ M ih =>
      intro j C ww H locs ls cells slots hj hDk hce hsl hP hD hS hl
      refine lv_iload hx hb dL_law_686 (lv_at hl 0 rfl) ?_
      refine lv_bipush (v := 15) hx hb dL_law_688 (by decide) ?_
      refine lv_icmp_ge (tgt := 719) hx hb dL_law_690 (by decide) (fun c1 => ?_) (fun c1 => ?_)
      · exact absurd ((nI_leI (a := 15) (by omega) (by omega)).mp c1) (by omega)
      · refine lv_aload hx hb dL_law_693 (lv_at hl 1 rfl) ?_
        refine lv_iload hx hb dL_law_695 (lv_at hl 0 rfl) ?_
        refine lv_iload hx hb dL_law_697 (lv_at hl 0 rfl) ?_
        refine lv_iload hx hb dL_law_699 (lv_at hl 0 rfl) ?_
        refine lv_iload hx hb dL_law_701 (lv_at hl 0 rfl) ?_
        refine lv_iload hx hb dL_law_703 (lv_at hl 0 rfl) ?_
        have e3 : nI j &&& 3 = nI (j % 4) := pk_andN (n := j) (by omega) (m := 3) 2 (by decide)
        have hc := cut_ (wc := ww) (wr := []) hE hP hD hS hA (by rw [List.append_nil])
        refine ci_ (va_runV (As := [.int (nI j), .int (nI j), .int (nI j), .int (nI j), .int (nI j)]) (rest := []) ⟨hx, hb, hml, hown, hts⟩ (mX1_four l G dw (4 * j) _ (j % 4) C ww (nI j) (nI j) (nI j) (nI j) (nI j) (by omega) e3 (by omega) hDk) (cwV 5 hts (lw_V q282 q283 q284 q3 q285) rfl rfl rfl (by decide +kernel) ⟨Nat.le_of_ble_eq_true rfl, Nat.le_of_ble_eq_true rfl⟩) (Pw.preV hc no_bx (hDk.recv hc.1 hE.1)) rfl rfl hl.1 rfl (lv_room (Nat.le_of_ble_eq_true rfl)) dL_law_705 ⟨by show cells + 7 ≤ 1200110; omega, by show slots + 29 ≤ 5501260; omega⟩) hP hD hS hc (by rw [List.append_nil]) (fun x1 u H locs hq hP hD hS => ?_)
        have hP := wP_perm hP (by rw [List.append_nil])
        have hD := wD_perm hD (by rw [List.append_nil])
        have hP : va_P G.1 clz (u) _ := hP
        have hD : va_D A (u) := hD
        obtain ⟨e_x1, Ci, hDk2, -⟩ := hq
        refine lv_if_ne (tgt := 713) hx hb dL_law_708 (by decide) (fun c3 => ?_) (fun c3 => ?_)
        · refine lv_iinc (v := nI (j + 1)) (lv' := [(12, .int (nI (j + 1))), (11, .ref dw), (0, .ref b)]) hx hb dL_law_713 hl (k := 0) rfl (nI_1 j) (by decide) rfl (fun ls hl => ?_)
          refine lv_goto (tgt := 686) hx hb dL_law_716 (by decide) ?_
          exact ih (j + 1) _ u _ _ ls (cells + 7) (slots + 29) (by omega) hDk2 (by omega) (by omega) hP hD hS (lv_sub hl [0, 1, 2] rfl)
        · exact absurd (e_x1.symm.trans c3) (by decide)
  exact loop 15 0 _ ww _ _ ls _ _ rfl hDk (Nat.le_of_ble_eq_true rfl) (Nat.le_of_ble_eq_true rfl) hP hD hS (lv_sub hl [0, 1, 2] rfl)
set_option maxHeartbeats 4000000 in
set_option maxRecDepth 100000 in
/-- a key in another heap of x, and away; x emptied -/
theorem lg_M {p : Program} {l : Launch} {e : Env} {s : State} {m : MethodId} {below : List Frame} {meth : Method} {c : Code} {b L : Nat} {xs : Nat → Int32} {G : gT} {A : Nat → Prop} (X : LC p s m meth c b L xs G A) (ri qi n np dx ks : Nat) (gk : Nat → Int32) (Cx : Nat → List Int32) (wx : va_W) (hri : ri < 4) (hqi : qi < 4) (hrq : ri ≠ qi) (hnp : np ≤ 60) (hDk : Dk G dx np Cx wx) (hq0 : Cx qi = []) (hpm : (Cx ri).Perm ((List.range n).map gk)) (H : Heap) (locs : List Loc) (ls : Array Slot) (hP : va_P G.1 clz (ia_ G ks gk :: wx) H) (hD : va_D A (ia_ G ks gk :: wx)) (hS : va_S A s.heap H locs) (hl : lv_has ls 13 [(5, .ref dx), (2, .int (nI qi)), (1, .int (nI ri)), (3, .int (nI n)), (8, .ref ks), (0, .ref b)]) : W p l e room_1 s m #[Value.ref b] below meth c H locs 11000 1100000 (lw_Z below #[Value.ref b] s) (F0 m 600 ls []) := by
  obtain ⟨hx, hb, hr, hlocks, hml, hown, hts, hX, hbA, hbl, hL, hE, hA, hA2⟩ := id X
  refine lv_aload hx hb dL_law_600 (lv_at hl 0 rfl) ?_
  refine lv_iload_n hx hb dL_law_602 rfl (lv_at hl 1 rfl) ?_
  refine lv_aload_n hx hb dL_law_603 rfl (lv_at hl 5 rfl) ?_
  refine lv_bipush (v := 7) hx hb dL_law_604 (by decide) ?_
  refine lt_i (y := nI (7)) rfl ?_
  refine vp_callSi (va_Run.run (va_runS (As := [.ref b, .int (nI (7))]) (rest := [.int (nI qi), .ref dx]) ⟨hx, hb, hml, hown, hts⟩ (mX0_at l b L (7) xs hL (by omega)) (va_cwS 2 hts (lw_S q396 q397 q2 q398) rfl rfl rfl (by decide +kernel) ⟨Nat.le_of_ble_eq_true rfl, Nat.le_of_ble_eq_true rfl⟩) (Px.pre (hX.kept (hS.2.1 b hbl hbA))) rfl rfl hl.1 rfl (lv_room (Nat.le_of_ble_eq_true rfl)) dL_law_606 ⟨Nat.le_of_ble_eq_true rfl, Nat.le_of_ble_eq_true rfl⟩)) (fun v9 e_v9 => ?_)
  subst e_v9
  have hc := cut_ (wc := wx) (wr := [ia_ G ks gk]) hE hP hD hS hA (List.perm_append_comm (l₁ := [ia_ G ks gk]))
  refine ci_ (va_runV (As := [.int (nI qi), .int (at_ L xs 7)]) (rest := []) ⟨hx, hb, hml, hown, hts⟩ (mX1_put l G dx np _ qi Cx wx (nI qi) (at_ L xs 7) hqi (an3 hqi) (by omega) hDk) (cwV 2 hts (lw_V q182 q183 q184 q3 q185) rfl rfl rfl (by decide +kernel) ⟨Nat.le_of_ble_eq_true rfl, Nat.le_of_ble_eq_true rfl⟩) (Pw.preV hc no_bx (hDk.recv hc.1 hE.1)) rfl rfl hl.1 rfl (lv_room (Nat.le_of_ble_eq_true rfl)) dL_law_609 ⟨Nat.le_of_ble_eq_true rfl, Nat.le_of_ble_eq_true rfl⟩) hP hD hS hc (List.perm_append_comm (l₁ := [ia_ G ks gk])) (fun x1 u H locs hq hP hD hS => ?_)
  have hP := wP_perm hP List.perm_append_comm
  have hD := wD_perm hD List.perm_append_comm
  have hP : va_P G.1 clz (ia_ G ks gk :: u) _ := hP
  have hD : va_D A (ia_ G ks gk :: u) := hD
  obtain ⟨e_x1, Ci, hDk2, hpm2⟩ := hq
  rw [hq0] at hpm2
  have eCi : Ci = [at_ L xs 7 &&& 65535] := List.perm_singleton.mp hpm2
  refine lv_if_eq (tgt := 633) hx hb dL_law_612 (by decide) (fun c1 => ?_) (fun c1 => ?_)
  · exact absurd (e_x1.symm.trans c1) (by decide)
  · refine lv_aload hx hb dL_law_615 (lv_at hl 0 rfl) ?_
    refine lv_iload_n hx hb dL_law_617 rfl (lv_at hl 1 rfl) ?_
    have hc := cut_ (wc := u) (wr := [ia_ G ks gk]) hE hP hD hS hA (List.perm_append_comm (l₁ := [ia_ G ks gk]))
    refine vp_callSi (va_Run.run (va_runV (As := [.int (nI qi)]) (rest := []) ⟨hx, hb, hml, hown, hts⟩ (mX1_least l G dx (np + 1) _ qi (va_up Cx qi Ci) u (nI qi) hqi (an3 hqi) hDk2) (cwV 1 hts (lw_V q313 q314 q315 q3 q316) rfl rfl rfl (by decide +kernel) ⟨Nat.le_of_ble_eq_true rfl, Nat.le_of_ble_eq_true rfl⟩) (Pw.preV hc no_bx (hDk2.recv hc.1 hE.1)) rfl rfl hl.1 rfl (lv_room (Nat.le_of_ble_eq_true rfl)) dL_law_618 ⟨Nat.le_of_ble_eq_true rfl, Nat.le_of_ble_eq_true rfl⟩)) (fun x2 e_x2 => ?_)
    refine lt_i (y := (at_ L xs 7 &&& 65535)) (by rw [e_x2, va_up_self, eCi]; rfl) ?_
    refine lv_aload_n hx hb dL_law_621 rfl (lv_at hl 5 rfl) ?_
    refine lv_bipush (v := 7) hx hb dL_law_622 (by decide) ?_
    refine lt_i (y := nI (7)) rfl ?_
    refine vp_callSi (va_Run.run (va_runS (As := [.ref b, .int (nI (7))]) (rest := [.int (at_ L xs 7 &&& 65535)]) ⟨hx, hb, hml, hown, hts⟩ (mX0_at l b L (7) xs hL (by omega)) (va_cwS 2 hts (lw_S q396 q397 q2 q398) rfl rfl rfl (by decide +kernel) ⟨Nat.le_of_ble_eq_true rfl, Nat.le_of_ble_eq_true rfl⟩) (Px.pre (hX.kept (hS.2.1 b hbl hbA))) rfl rfl hl.1 rfl (lv_room (Nat.le_of_ble_eq_true rfl)) dL_law_624 ⟨Nat.le_of_ble_eq_true rfl, Nat.le_of_ble_eq_true rfl⟩)) (fun v9 e_v9 => ?_)
    subst e_v9
    refine lv_ldc (v := 65535) hx hb hown (hts _ q407) dL_law_627 ?_
    refine lv_iand hx hb dL_law_629 ?_
    refine lv_icmp_eq (tgt := 635) hx hb dL_law_630 (by decide) (fun c2 => ?_) (fun c2 => ?_)
    · refine lv_aload hx hb dL_law_635 (lv_at hl 0 rfl) ?_
      refine lv_iload_n hx hb dL_law_637 rfl (lv_at hl 1 rfl) ?_
      have hc := cut_ (wc := u) (wr := [ia_ G ks gk]) hE hP hD hS hA (List.perm_append_comm (l₁ := [ia_ G ks gk]))
      refine cv_ (va_runV (As := [.int (nI qi)]) (rest := []) ⟨hx, hb, hml, hown, hts⟩ (mX1_clear l G dx (np + 1) _ qi (va_up Cx qi Ci) u (nI qi) hqi (an3 hqi) hDk2) (cwV 1 hts (lw_V q382 q383 q384 q3 q385) rfl rfl rfl (by decide +kernel) ⟨Nat.le_of_ble_eq_true rfl, Nat.le_of_ble_eq_true rfl⟩) (Pw.preV hc no_bx (hDk2.recv hc.1 hE.1)) rfl rfl hl.1 rfl (lv_room (Nat.le_of_ble_eq_true rfl)) dL_law_638 ⟨Nat.le_of_ble_eq_true rfl, Nat.le_of_ble_eq_true rfl⟩) hP hD hS hc (List.perm_append_comm (l₁ := [ia_ G ks gk])) (fun u2 H locs hq hP hD hS => ?_)
      have hP := wP_perm hP List.perm_append_comm
      have hD := wD_perm hD List.perm_append_comm
      have hP : va_P G.1 clz (ia_ G ks gk :: u2) _ := hP
      have hD : va_D A (ia_ G ks gk :: u2) := hD
      have hDk3 : Dk G dx (np + 1) (va_up Cx qi []) u2 := by rw [bx_uu] at hq; exact hq
      refine lv_aload hx hb dL_law_641 (lv_at hl 0 rfl) ?_
      refine lv_iload_n hx hb dL_law_643 rfl (lv_at hl 1 rfl) ?_
      have hc := cut_ (wc := u2) (wr := [ia_ G ks gk]) hE hP hD hS hA (List.perm_append_comm (l₁ := [ia_ G ks gk]))
      refine vp_callSi (va_Run.run (va_runV (As := [.int (nI qi)]) (rest := []) ⟨hx, hb, hml, hown, hts⟩ (mX1_isEmpty l G dx (np + 1) _ qi (va_up Cx qi []) u2 (nI qi) hqi (an3 hqi) hDk3) (cwV 1 hts (lw_V q378 q379 q380 q3 q381) rfl rfl rfl (by decide +kernel) ⟨Nat.le_of_ble_eq_true rfl, Nat.le_of_ble_eq_true rfl⟩) (Pw.preV hc no_bx (hDk3.recv hc.1 hE.1)) rfl rfl hl.1 rfl (lv_room (Nat.le_of_ble_eq_true rfl)) dL_law_644 ⟨Nat.le_of_ble_eq_true rfl, Nat.le_of_ble_eq_true rfl⟩)) (fun x3 e_x3 => ?_)
      have e3 : x3 = 1 := by rw [e_x3, va_up_self]; rfl
      have er : (va_up Cx qi []) ri = Cx ri := va_up_ne _ _ hrq
      refine lv_if_eq (tgt := 672) hx hb dL_law_647 (by decide) (fun c3 => ?_) (fun c3 => ?_)
      · exact absurd (e3.symm.trans c3) (by decide)
      · refine lv_aload hx hb dL_law_650 (lv_at hl 0 rfl) ?_
        refine lv_iload_n hx hb dL_law_652 rfl (lv_at hl 2 rfl) ?_
        have hc := cut_ (wc := u2) (wr := [ia_ G ks gk]) hE hP hD hS hA (List.perm_append_comm (l₁ := [ia_ G ks gk]))
        refine vp_callSi (va_Run.run (va_runV (As := [.int (nI ri)]) (rest := []) ⟨hx, hb, hml, hown, hts⟩ (mX1_size l G dx (np + 1) _ ri (va_up Cx qi []) u2 (nI ri) hri (an3 hri) hDk3) (cwV 1 hts (lw_V q368 q369 q370 q3 q371) rfl rfl rfl (by decide +kernel) ⟨Nat.le_of_ble_eq_true rfl, Nat.le_of_ble_eq_true rfl⟩) (Pw.preV hc no_bx (hDk3.recv hc.1 hE.1)) rfl rfl hl.1 rfl (lv_room (Nat.le_of_ble_eq_true rfl)) dL_law_653 ⟨Nat.le_of_ble_eq_true rfl, Nat.le_of_ble_eq_true rfl⟩)) (fun x4 e_x4 => ?_)
        have e4 : x4 = nI n := by rw [e_x4, er, hpm.length_eq, List.length_map, List.length_range]
        refine lv_iload_n hx hb dL_law_656 rfl (lv_at hl 3 rfl) ?_
        refine lv_icmp_ne (tgt := 672) hx hb dL_law_657 (by decide) (fun c4 => ?_) (fun c4 => ?_)
        · exact absurd e4 c4
        · refine lv_aload hx hb dL_law_660 (lv_at hl 0 rfl) ?_
          refine lv_iload_n hx hb dL_law_662 rfl (lv_at hl 2 rfl) ?_
          refine lv_aload hx hb dL_law_663 (lv_at hl 4 rfl) ?_
          refine lv_iload_n hx hb dL_law_665 rfl (lv_at hl 3 rfl) ?_
          have hc := cut_ (wc := ia_ G ks gk :: u2) (wr := []) hE hP hD hS hA (by rw [List.append_nil])
          refine ci_ (va_runS (As := [.ref dx, .int (nI ri), .ref ks, .int (nI n)]) (rest := []) ⟨hx, hb, hml, hown, hts⟩ (mX0_drain l G dx (np + 1) _ ri n ks gk (va_up Cx qi []) u2 hri hDk3 (by rw [er]; exact hpm)) (va_cwS 4 hts (lw_S q402 q403 q2 q404) rfl rfl rfl (by decide +kernel) ⟨Nat.le_of_ble_eq_true rfl, Nat.le_of_ble_eq_true rfl⟩) (Pw.pre hc no_bx) rfl rfl hl.1 rfl (lv_room (Nat.le_of_ble_eq_true rfl)) dL_law_666 ⟨Nat.le_of_ble_eq_true rfl, Nat.le_of_ble_eq_true rfl⟩) hP hD hS hc (by rw [List.append_nil]) (fun x5 u H locs hq hP hD hS => ?_)
          refine lv_if_ne (tgt := 674) hx hb dL_law_669 (by decide) (fun c5 => ?_) (fun c5 => ?_)
          · refine W.widen (k := 12000) (n := 1200000) (Nat.le_of_ble_eq_true rfl) (Nat.le_of_ble_eq_true rfl) ?_
            exact lg_N0 X _ _ ls wP_nil wD_nil hS (lv_sub hl [5] rfl)
          · exact absurd (hq.1.symm.trans c5) (by decide)
    · exact absurd rfl c2
theorem pm_7 {a b c d : va_W} : (a ++ (b ++ (c ++ d))).Perm ((b ++ d) ++ (a ++ c)) := by
  refine (pm_3 (a := a) (b := b) (c := c ++ d)).trans ?_
  rw [List.append_assoc]
  exact List.Perm.append_left b pm_5
set_option maxHeartbeats 4000000 in
set_option maxRecDepth 100000 in
/-- z poured over and emptied -/
theorem lg_L {p : Program} {l : Launch} {e : Env} {s : State} {m : MethodId} {below : List Frame} {meth : Method} {c : Code} {b L : Nat} {xs : Nat → Int32} {G : gT} {A : Nat → Prop} (X : LC p s m meth c b L xs G A) (ri qi n np dx ks dz ot : Nat) (gk go : Nat → Int32) (Cx Cz : Nat → List Int32) (wx wz : va_W) (hri : ri < 4) (hqi : qi < 4) (hrq : ri ≠ qi) (hnp : np ≤ 60) (hDk : Dk G dx np Cx wx) (hq0 : Cx qi = []) (hpm : (Cx ri).Perm ((List.range n).map gk)) (hDz : Dk G dz 17 Cz wz) (hz0 : Cz ri = []) (hzp : (Cz qi).Perm ((List.range 16).map (mm_ L xs))) (hgo : ∀ j, j < 16 → go j = mm_ L xs j) (H : Heap) (locs : List Loc) (ls : Array Slot) (hP : va_P G.1 clz (ia_ G ks gk :: ia_ G ot go :: (wx ++ wz)) H) (hD : va_D A (ia_ G ks gk :: ia_ G ot go :: (wx ++ wz))) (hS : va_S A s.heap H locs) (hl : lv_has ls 13 [(7, .ref dz), (4, .int (nI 16)), (9, .ref ot), (5, .ref dx), (2, .int (nI qi)), (1, .int (nI ri)), (3, .int (nI n)), (8, .ref ks), (0, .ref b)]) : W p l e room_1 s m #[Value.ref b] below meth c H locs 10000 1000000 (lw_Z below #[Value.ref b] s) (F0 m 542 ls []) := by
  obtain ⟨hx, hb, hr, hlocks, hml, hown, hts, hX, hbA, hbl, hL, hE, hA, hA2⟩ := id X
  refine lv_aload hx hb dL_law_542 (lv_at hl 0 rfl) ?_
  refine lv_iload_n hx hb dL_law_544 rfl (lv_at hl 5 rfl) ?_
  refine lv_iload_n hx hb dL_law_545 rfl (lv_at hl 4 rfl) ?_
  have hc := cut_ (wc := wz) (wr := (ia_ G ks gk :: ia_ G ot go :: wx)) hE hP hD hS hA (pm_5 (a := [ia_ G ks gk, ia_ G ot go]) (b := wx) (c := wz))
  refine ci_ (va_runV (As := [.int (nI ri), .int (nI qi)]) (rest := []) ⟨hx, hb, hml, hown, hts⟩ (mX1_pour l G dz 17 _ ri qi Cz wz (nI ri) (nI qi) hri hqi hrq (an3 hri) (an3 hqi) hDz) (cwV 2 hts (lw_V q392 q393 q394 q3 q395) rfl rfl rfl (by decide +kernel) ⟨Nat.le_of_ble_eq_true rfl, Nat.le_of_ble_eq_true rfl⟩) (Pw.preV hc no_bx (hDz.recv hc.1 hE.1)) rfl rfl hl.1 rfl (lv_room (Nat.le_of_ble_eq_true rfl)) dL_law_546 ⟨Nat.le_of_ble_eq_true rfl, Nat.le_of_ble_eq_true rfl⟩) hP hD hS hc (pm_5 (a := [ia_ G ks gk, ia_ G ot go]) (b := wx) (c := wz)) (fun x1 u H locs hq hP hD hS => ?_)
  have hP := wP_perm hP (pm_5 (a := [ia_ G ks gk, ia_ G ot go]) (b := wx) (c := u)).symm
  have hD := wD_perm hD (pm_5 (a := [ia_ G ks gk, ia_ G ot go]) (b := wx) (c := u)).symm
  have hP : va_P G.1 clz (ia_ G ks gk :: ia_ G ot go :: (wx ++ u)) _ := hP
  have hD : va_D A (ia_ G ks gk :: ia_ G ot go :: (wx ++ u)) := hD
  obtain ⟨e_x1, Ci, hDk2, hpm2⟩ := hq
  rw [hz0, List.nil_append] at hpm2
  have hpm3 : Ci.Perm ((List.range 16).map (mm_ L xs)) := hpm2.trans hzp
  have e1 : x1 = nI 16 := by rw [e_x1, hzp.length_eq]; rfl
  have erq : (va_up (va_up Cz qi []) ri Ci) qi = [] := by rw [va_up_ne _ _ (Ne.symm hrq), va_up_self]
  have err : (va_up (va_up Cz qi []) ri Ci) ri = Ci := va_up_self _ _ _
  refine lv_iload hx hb dL_law_549 (lv_at hl 1 rfl) ?_
  refine lv_icmp_ne (tgt := 598) hx hb dL_law_551 (by decide) (fun c1 => ?_) (fun c1 => ?_)
  · exact absurd e1 c1
  · refine lv_aload hx hb dL_law_554 (lv_at hl 0 rfl) ?_
    refine lv_iload_n hx hb dL_law_556 rfl (lv_at hl 5 rfl) ?_
    refine lv_iload_n hx hb dL_law_557 rfl (lv_at hl 5 rfl) ?_
    have hc := cut_ (wc := u) (wr := (ia_ G ks gk :: ia_ G ot go :: wx)) hE hP hD hS hA (pm_5 (a := [ia_ G ks gk, ia_ G ot go]) (b := wx) (c := u))
    refine vp_callSi (va_Run.run (va_runV (As := [.int (nI ri), .int (nI ri)]) (rest := []) ⟨hx, hb, hml, hown, hts⟩ (mX1_pour0 l G dz _ ri u (nI ri) (nI ri) (an3 hri) (an3 hri)) (cwV 2 hts (lw_V q392 q393 q394 q3 q395) rfl rfl rfl (by decide +kernel) ⟨Nat.le_of_ble_eq_true rfl, Nat.le_of_ble_eq_true rfl⟩) (Pw.preV hc no_bx (hDk2.recv hc.1 hE.1)) rfl rfl hl.1 rfl (lv_room (Nat.le_of_ble_eq_true rfl)) dL_law_558 ⟨Nat.le_of_ble_eq_true rfl, Nat.le_of_ble_eq_true rfl⟩)) (fun x2 e_x2 => ?_)
    refine lv_iconst (v := (-1)) hx hb dL_law_561 (by decide) ?_
    refine lv_icmp_ne (tgt := 598) hx hb dL_law_562 (by decide) (fun c2 => ?_) (fun c2 => ?_)
    · exact absurd e_x2 c2
    · refine lv_aload hx hb dL_law_565 (lv_at hl 0 rfl) ?_
      refine lv_iload_n hx hb dL_law_567 rfl (lv_at hl 4 rfl) ?_
      have hc := cut_ (wc := u) (wr := (ia_ G ks gk :: ia_ G ot go :: wx)) hE hP hD hS hA (pm_5 (a := [ia_ G ks gk, ia_ G ot go]) (b := wx) (c := u))
      refine vp_callSi (va_Run.run (va_runV (As := [.int (nI qi)]) (rest := []) ⟨hx, hb, hml, hown, hts⟩ (mX1_isEmpty l G dz 17 _ qi (va_up (va_up Cz qi []) ri Ci) u (nI qi) hqi (an3 hqi) hDk2) (cwV 1 hts (lw_V q378 q379 q380 q3 q381) rfl rfl rfl (by decide +kernel) ⟨Nat.le_of_ble_eq_true rfl, Nat.le_of_ble_eq_true rfl⟩) (Pw.preV hc no_bx (hDk2.recv hc.1 hE.1)) rfl rfl hl.1 rfl (lv_room (Nat.le_of_ble_eq_true rfl)) dL_law_568 ⟨Nat.le_of_ble_eq_true rfl, Nat.le_of_ble_eq_true rfl⟩)) (fun x3 e_x3 => ?_)
      have e3 : x3 = 1 := by rw [e_x3, erq]; rfl
      refine lv_if_eq (tgt := 598) hx hb dL_law_571 (by decide) (fun c3 => ?_) (fun c3 => ?_)
      · exact absurd (e3.symm.trans c3) (by decide)
      · refine lv_aload hx hb dL_law_574 (lv_at hl 0 rfl) ?_
        refine lv_iload_n hx hb dL_law_576 rfl (lv_at hl 5 rfl) ?_
        have hc := cut_ (wc := u) (wr := (ia_ G ks gk :: ia_ G ot go :: wx)) hE hP hD hS hA (pm_5 (a := [ia_ G ks gk, ia_ G ot go]) (b := wx) (c := u))
        refine vp_callSi (va_Run.run (va_runV (As := [.int (nI ri)]) (rest := []) ⟨hx, hb, hml, hown, hts⟩ (mX1_size l G dz 17 _ ri (va_up (va_up Cz qi []) ri Ci) u (nI ri) hri (an3 hri) hDk2) (cwV 1 hts (lw_V q368 q369 q370 q3 q371) rfl rfl rfl (by decide +kernel) ⟨Nat.le_of_ble_eq_true rfl, Nat.le_of_ble_eq_true rfl⟩) (Pw.preV hc no_bx (hDk2.recv hc.1 hE.1)) rfl rfl hl.1 rfl (lv_room (Nat.le_of_ble_eq_true rfl)) dL_law_577 ⟨Nat.le_of_ble_eq_true rfl, Nat.le_of_ble_eq_true rfl⟩)) (fun x4 e_x4 => ?_)
        have e4 : x4 = nI 16 := by rw [e_x4, err, hpm3.length_eq]; rfl
        refine lv_iload hx hb dL_law_580 (lv_at hl 1 rfl) ?_
        refine lv_icmp_ne (tgt := 598) hx hb dL_law_582 (by decide) (fun c4 => ?_) (fun c4 => ?_)
        · exact absurd e4 c4
        · refine lv_aload hx hb dL_law_585 (lv_at hl 0 rfl) ?_
          refine lv_iload_n hx hb dL_law_587 rfl (lv_at hl 5 rfl) ?_
          refine lv_aload hx hb dL_law_588 (lv_at hl 2 rfl) ?_
          refine lv_iload hx hb dL_law_590 (lv_at hl 1 rfl) ?_
          have hc := cut_ (wc := ia_ G ot go :: u) (wr := (ia_ G ks gk :: wx)) hE hP hD hS hA (pm_7 (a := [ia_ G ks gk]) (b := [ia_ G ot go]) (c := wx) (d := u))
          refine ci_ (va_runS (As := [.ref dz, .int (nI ri), .ref ot, .int (nI 16)]) (rest := []) ⟨hx, hb, hml, hown, hts⟩ (mX0_drain l G dz 17 _ ri 16 ot go (va_up (va_up Cz qi []) ri Ci) u hri hDk2 (by rw [err, rg_congr hgo]; exact hpm3)) (va_cwS 4 hts (lw_S q402 q403 q2 q404) rfl rfl rfl (by decide +kernel) ⟨Nat.le_of_ble_eq_true rfl, Nat.le_of_ble_eq_true rfl⟩) (Pw.pre hc no_bx) rfl rfl hl.1 rfl (lv_room (Nat.le_of_ble_eq_true rfl)) dL_law_592 ⟨Nat.le_of_ble_eq_true rfl, Nat.le_of_ble_eq_true rfl⟩) hP hD hS hc (pm_7 (a := [ia_ G ks gk]) (b := [ia_ G ot go]) (c := wx) (d := u)) (fun x5 u H locs hq hP hD hS => ?_)
          refine lv_if_ne (tgt := 600) hx hb dL_law_595 (by decide) (fun c5 => ?_) (fun c5 => ?_)
          · have hP : va_P G.1 clz (ia_ G ks gk :: wx) _ := wP_right hP
            have hD : va_D A (ia_ G ks gk :: wx) := wD_right hD
            refine W.widen (k := 11000) (n := 1100000) (Nat.le_of_ble_eq_true rfl) (Nat.le_of_ble_eq_true rfl) ?_
            exact lg_M X ri qi n np dx ks gk Cx wx hri hqi hrq hnp hDk hq0 hpm _ _ ls hP hD hS (lv_sub hl [3, 4, 5, 6, 7, 8] rfl)
          · exact absurd (hq.1.symm.trans c5) (by decide)
set_option maxHeartbeats 4000000 in
set_option maxRecDepth 100000 in
/-- twelve more keys in z -/
theorem lg_K {p : Program} {l : Launch} {e : Env} {s : State} {m : MethodId} {below : List Frame} {meth : Method} {c : Code} {b L : Nat} {xs : Nat → Int32} {G : gT} {A : Nat → Prop} (X : LC p s m meth c b L xs G A) (ri qi n np dx ks dz ot : Nat) (gk go : Nat → Int32) (Cx Cz : Nat → List Int32) (wx wz : va_W) (hri : ri < 4) (hqi : qi < 4) (hrq : ri ≠ qi) (hnp : np ≤ 60) (hDk : Dk G dx np Cx wx) (hq0 : Cx qi = []) (hpm : (Cx ri).Perm ((List.range n).map gk)) (hDz : Dk G dz 5 Cz wz) (hz0 : Cz ri = []) (hzp : (Cz qi).Perm ((List.range 4).map (mm_ L xs))) (hgo : ∀ j, j < 4 → go j = mm_ L xs j) (H : Heap) (locs : List Loc) (ls : Array Slot) (hP : va_P G.1 clz (ia_ G ks gk :: ia_ G ot go :: (wx ++ wz)) H) (hD : va_D A (ia_ G ks gk :: ia_ G ot go :: (wx ++ wz))) (hS : va_S A s.heap H locs) (hl : lv_has ls 13 [(7, .ref dz), (9, .ref ot), (5, .ref dx), (2, .int (nI qi)), (1, .int (nI ri)), (3, .int (nI n)), (8, .ref ks), (0, .ref b)]) : W p l e room_1 s m #[Value.ref b] below meth c H locs 9000 900000 (lw_Z below #[Value.ref b] s) (F0 m 483 ls []) := by
  obtain ⟨hx, hb, hr, hlocks, hml, hown, hts, hX, hbA, hbl, hL, hE, hA, hA2⟩ := id X
  refine lv_iconst (v := 4) hx hb dL_law_483 (by decide) ?_
  refine lt_i (y := nI (4 + 0)) (rfl) ?_
  refine lv_istore (lv' := [(4, .int (nI (4 + 0))), (7, .ref dz), (9, .ref ot), (5, .ref dx), (2, .int (nI qi)), (1, .int (nI ri)), (3, .int (nI n)), (8, .ref ks), (0, .ref b)]) hx hb dL_law_484 hl (by decide) rfl (fun ls hl => ?_)
  refine lv_iconst (v := 0) hx hb dL_law_486 (by decide) ?_
  refine lt_i (y := nI 0) (nI_0.symm) ?_
  refine lv_istore (lv' := [(11, .int (nI 0)), (4, .int (nI (4 + 0))), (7, .ref dz), (9, .ref ot), (5, .ref dx), (2, .int (nI qi)), (1, .int (nI ri)), (3, .int (nI n)), (8, .ref ks), (0, .ref b)]) hx hb dL_law_487 hl (by decide) rfl (fun ls hl => ?_)
  have loop : ∀ (M j : Nat) (Cz : Nat → List Int32) (wz : va_W) (go : Nat → Int32) (H : Heap) (locs : List Loc) (ls : Array Slot) (cells slots : Nat), j + M = 12 → Dk G dz (5 + j) Cz wz → Cz ri = [] → (Cz qi).Perm ((List.range (4 + j)).map (mm_ L xs)) → (∀ t, t < 4 + j → go t = mm_ L xs t) → cells + 2 * M ≤ 10000 → slots + 130 * M ≤ 1000000 → va_P G.1 clz (ia_ G ks gk :: ia_ G ot go :: (wx ++ wz)) H → va_D A (ia_ G ks gk :: ia_ G ot go :: (wx ++ wz)) → va_S A s.heap H locs → lv_has ls 13 [(11, .int (nI j)), (4, .int (nI (4 + j))), (7, .ref dz), (9, .ref ot), (5, .ref dx), (2, .int (nI qi)), (1, .int (nI ri)), (3, .int (nI n)), (8, .ref ks), (0, .ref b)] → W p l e room_1 s m #[Value.ref b] below meth c H locs cells slots (lw_Z below #[Value.ref b] s) (F0 m 489 ls []) := by
    intro M
    induction M with
    | zero =>
      intro j Cz wz go H locs ls cells slots hj hDz hz0 hzp hgo hce hsl hP hD hS hl
      refine lv_iload hx hb dL_law_489 (lv_at hl 0 rfl) ?_
      refine lv_bipush (v := 12) hx hb dL_law_491 (by decide) ?_
      refine lv_icmp_ge (tgt := 542) hx hb dL_law_493 (by decide) (fun c1 => ?_) (fun c1 => ?_)
      · have e4 : j = 12 := by omega
        subst e4
        refine W.widen (k := 10000) (n := 1000000) (by omega) (by omega) ?_
        exact lg_L X ri qi n np dx ks dz ot gk go Cx Cz wx wz hri hqi hrq hnp hDk hq0 hpm hDz hz0 hzp hgo H locs ls hP hD hS (lv_sub hl [2, 1, 3, 4, 5, 6, 7, 8, 9] rfl)
      · exact absurd (show (12 : Int32) ≤ nI j by rw [show j = 12 by omega]; decide) c1
    | succ M ih =>
      intro j Cz wz go H locs ls cells slots hj hDz hz0 hzp hgo hce hsl hP hD hS hl
      refine lv_iload hx hb dL_law_489 (lv_at hl 0 rfl) ?_
      refine lv_bipush (v := 12) hx hb dL_law_491 (by decide) ?_
      refine lv_icmp_ge (tgt := 542) hx hb dL_law_493 (by decide) (fun c1 => ?_) (fun c1 => ?_)
      · exact absurd ((nI_leI (a := 12) (by omega) (by omega)).mp c1) (by omega)
      · refine lv_aload hx hb dL_law_496 (lv_at hl 2 rfl) ?_
        refine lv_iload_n hx hb dL_law_498 rfl (lv_at hl 5 rfl) ?_
        refine lv_aload_n hx hb dL_law_499 rfl (lv_at hl 9 rfl) ?_
        refine lv_bipush (v := 37) hx hb dL_law_500 (by decide) ?_
        refine lv_iload hx hb dL_law_502 (lv_at hl 0 rfl) ?_
        refine lv_iadd hx hb dL_law_504 ?_
        refine lt_i (y := nI (37 + j)) (nI_add 37 j) ?_
        refine vp_callSi (va_Run.run (va_runS (As := [.ref b, .int (nI (37 + j))]) (rest := [.int (nI qi), .ref dz]) ⟨hx, hb, hml, hown, hts⟩ (mX0_at l b L (37 + j) xs hL (by omega)) (va_cwS 2 hts (lw_S q396 q397 q2 q398) rfl rfl rfl (by decide +kernel) ⟨Nat.le_of_ble_eq_true rfl, Nat.le_of_ble_eq_true rfl⟩) (Px.pre (hX.kept (hS.2.1 b hbl hbA))) rfl rfl hl.1 rfl (lv_room (Nat.le_of_ble_eq_true rfl)) dL_law_505 ⟨by show cells + 0 ≤ 1200110; omega, by show slots + 0 ≤ 5501260; omega⟩)) (fun v9 e_v9 => ?_)
        subst e_v9
        have hc := cut_ (wc := wz) (wr := (ia_ G ks gk :: ia_ G ot go :: wx)) hE hP hD hS hA (pm_5 (a := [ia_ G ks gk, ia_ G ot go]) (b := wx) (c := wz))
        refine ci_ (va_runV (As := [.int (nI qi), .int (at_ L xs (37 + j))]) (rest := []) ⟨hx, hb, hml, hown, hts⟩ (mX1_put l G dz (5 + j) _ qi Cz wz (nI qi) (at_ L xs (37 + j)) hqi (an3 hqi) (by omega) hDz) (cwV 2 hts (lw_V q182 q183 q184 q3 q185) rfl rfl rfl (by decide +kernel) ⟨Nat.le_of_ble_eq_true rfl, Nat.le_of_ble_eq_true rfl⟩) (Pw.preV hc no_bx (hDz.recv hc.1 hE.1)) rfl rfl hl.1 rfl (lv_room (Nat.le_of_ble_eq_true rfl)) dL_law_508 ⟨by show cells + 2 ≤ 1200110; omega, by show slots + 130 ≤ 5501260; omega⟩) hP hD hS hc (pm_5 (a := [ia_ G ks gk, ia_ G ot go]) (b := wx) (c := wz)) (fun x1 u H locs hq hP hD hS => ?_)
        have hP := wP_perm hP (pm_5 (a := [ia_ G ks gk, ia_ G ot go]) (b := wx) (c := u)).symm
        have hD := wD_perm hD (pm_5 (a := [ia_ G ks gk, ia_ G ot go]) (b := wx) (c := u)).symm
        have hP : va_P G.1 clz (ia_ G ks gk :: ia_ G ot go :: (wx ++ u)) _ := hP
        have hD : va_D A (ia_ G ks gk :: ia_ G ot go :: (wx ++ u)) := hD
        obtain ⟨e_x1, Ci, hDk2, hpm2⟩ := hq
        rw [← mm_4] at hpm2
        refine lv_if_ne (tgt := 516) hx hb dL_law_511 (by decide) (fun c3 => ?_) (fun c3 => ?_)
        · refine lv_aload hx hb dL_law_516 (lv_at hl 3 rfl) ?_
          refine lv_iload hx hb dL_law_518 (lv_at hl 1 rfl) ?_
          refine lv_aload_n hx hb dL_law_520 rfl (lv_at hl 9 rfl) ?_
          refine lv_bipush (v := 37) hx hb dL_law_521 (by decide) ?_
          refine lv_iload hx hb dL_law_523 (lv_at hl 0 rfl) ?_
          refine lv_iadd hx hb dL_law_525 ?_
          refine lt_i (y := nI (37 + j)) (nI_add 37 j) ?_
          refine vp_callSi (va_Run.run (va_runS (As := [.ref b, .int (nI (37 + j))]) (rest := [.int (nI (4 + j)), .ref ot]) ⟨hx, hb, hml, hown, hts⟩ (mX0_at l b L (37 + j) xs hL (by omega)) (va_cwS 2 hts (lw_S q396 q397 q2 q398) rfl rfl rfl (by decide +kernel) ⟨Nat.le_of_ble_eq_true rfl, Nat.le_of_ble_eq_true rfl⟩) (Px.pre (hX.kept (hS.2.1 b hbl hbA))) rfl rfl hl.1 rfl (lv_room (Nat.le_of_ble_eq_true rfl)) dL_law_526 ⟨by show cells + 2 ≤ 1200110; omega, by show slots + 130 ≤ 5501260; omega⟩)) (fun v9 e_v9 => ?_)
          subst e_v9
          refine lv_ldc (v := 65535) hx hb hown (hts _ q407) dL_law_529 ?_
          refine lv_iand hx hb dL_law_531 ?_
          refine lt_i (y := mm_ L xs (4 + j)) mm_4.symm ?_
          refine va_iast hx hb hE.1 hP hD hS 1 3 rfl rfl (vp_in_nI (n := 4 + j) (by omega) (by omega)) dL_law_532 (fun H locs hP hD hS => ?_)
          rw [nI_clamp (by omega)] at hP hD
          have hP : va_P G.1 clz (ia_ G ks gk :: ia_ G ot (upd go (4 + j) (mm_ L xs (4 + j))) :: (wx ++ u)) _ := hP
          have hD : va_D A (ia_ G ks gk :: ia_ G ot (upd go (4 + j) (mm_ L xs (4 + j))) :: (wx ++ u)) := hD
          refine lv_iinc (v := nI (4 + (j + 1))) (lv' := [(4, .int (nI (4 + (j + 1)))), (11, .int (nI j)), (7, .ref dz), (9, .ref ot), (5, .ref dx), (2, .int (nI qi)), (1, .int (nI ri)), (3, .int (nI n)), (8, .ref ks), (0, .ref b)]) hx hb dL_law_533 hl (k := 1) rfl (by rw [show 4 + (j + 1) = (4 + j) + 1 by omega]; exact nI_1 _) (by decide) rfl (fun ls hl => ?_)
          refine lv_iinc (v := nI (j + 1)) (lv' := [(11, .int (nI (j + 1))), (4, .int (nI (4 + (j + 1)))), (7, .ref dz), (9, .ref ot), (5, .ref dx), (2, .int (nI qi)), (1, .int (nI ri)), (3, .int (nI n)), (8, .ref ks), (0, .ref b)]) hx hb dL_law_536 hl (k := 1) rfl (nI_1 j) (by decide) rfl (fun ls hl => ?_)
          refine lv_goto (tgt := 489) hx hb dL_law_539 (by decide) ?_
          exact ih (j + 1) (va_up Cz qi Ci) u (upd go (4 + j) (mm_ L xs (4 + j))) H locs ls (cells + 2) (slots + 130) (by omega) hDk2 (by rw [va_up_ne _ _ hrq]; exact hz0) (by rw [va_up_self]; exact rg_succ hzp hpm2) (lt_s (p := fun t => upd go (4 + j) (mm_ L xs (4 + j)) t = mm_ L xs t) (fun t ht => by have ht : t < 4 + j := ht; rw [pk_un (by omega)]; exact hgo t ht) pk_us) (by omega) (by omega) hP hD hS (lv_sub hl [0, 1, 2, 3, 4, 5, 6, 7, 8, 9] rfl)
        · exact absurd (e_x1.symm.trans c3) (by decide)
  exact loop 12 0 Cz wz go H locs ls 9000 900000 rfl hDz hz0 hzp hgo (Nat.le_of_ble_eq_true rfl) (Nat.le_of_ble_eq_true rfl) hP hD hS (lv_sub hl [0, 1, 2, 3, 4, 5, 6, 7, 8, 9] rfl)
set_option maxHeartbeats 4000000 in
set_option maxRecDepth 100000 in
/-- the four keys noted -/
theorem lg_J {p : Program} {l : Launch} {e : Env} {s : State} {m : MethodId} {below : List Frame} {meth : Method} {c : Code} {b L : Nat} {xs : Nat → Int32} {G : gT} {A : Nat → Prop} (X : LC p s m meth c b L xs G A) (ri qi n np dx ks dz ot : Nat) (gk go : Nat → Int32) (Cx Cz : Nat → List Int32) (wx wz : va_W) (hri : ri < 4) (hqi : qi < 4) (hrq : ri ≠ qi) (hnp : np ≤ 60) (hDk : Dk G dx np Cx wx) (hq0 : Cx qi = []) (hpm : (Cx ri).Perm ((List.range n).map gk)) (hDz : Dk G dz 5 Cz wz) (hz0 : Cz ri = []) (hzp : (Cz qi).Perm ((List.range 4).map (mm_ L xs))) (H : Heap) (locs : List Loc) (ls : Array Slot) (hP : va_P G.1 clz (ia_ G ks gk :: ia_ G ot go :: (wx ++ wz)) H) (hD : va_D A (ia_ G ks gk :: ia_ G ot go :: (wx ++ wz))) (hS : va_S A s.heap H locs) (hl : lv_has ls 13 [(7, .ref dz), (9, .ref ot), (5, .ref dx), (2, .int (nI qi)), (1, .int (nI ri)), (3, .int (nI n)), (8, .ref ks), (0, .ref b)]) : W p l e room_1 s m #[Value.ref b] below meth c H locs 8000 800000 (lw_Z below #[Value.ref b] s) (F0 m 451 ls []) := by
  obtain ⟨hx, hb, hr, hlocks, hml, hown, hts, hX, hbA, hbl, hL, hE, hA, hA2⟩ := id X
  refine lv_iconst (v := 0) hx hb dL_law_451 (by decide) ?_
  refine lt_i (y := nI 0) (nI_0.symm) ?_
  refine lv_istore (lv' := [(11, .int (nI 0)), (7, .ref dz), (9, .ref ot), (5, .ref dx), (2, .int (nI qi)), (1, .int (nI ri)), (3, .int (nI n)), (8, .ref ks), (0, .ref b)]) hx hb dL_law_452 hl (by decide) rfl (fun ls hl => ?_)
  have loop : ∀ (M j : Nat) (go : Nat → Int32) (H : Heap) (locs : List Loc) (ls : Array Slot), j + M = 4 → (∀ t, t < j → go t = mm_ L xs t) → va_P G.1 clz (ia_ G ks gk :: ia_ G ot go :: (wx ++ wz)) H → va_D A (ia_ G ks gk :: ia_ G ot go :: (wx ++ wz)) → va_S A s.heap H locs → lv_has ls 13 [(11, .int (nI j)), (7, .ref dz), (9, .ref ot), (5, .ref dx), (2, .int (nI qi)), (1, .int (nI ri)), (3, .int (nI n)), (8, .ref ks), (0, .ref b)] → W p l e room_1 s m #[Value.ref b] below meth c H locs 8000 800000 (lw_Z below #[Value.ref b] s) (F0 m 454 ls []) := by
    intro M
    induction M with
    | zero =>
      intro j go H locs ls hj hgo hP hD hS hl
      refine lv_iload hx hb dL_law_454 (lv_at hl 0 rfl) ?_
      refine lv_iconst (v := 4) hx hb dL_law_456 (by decide) ?_
      refine lv_icmp_ge (tgt := 483) hx hb dL_law_457 (by decide) (fun c1 => ?_) (fun c1 => ?_)
      · have e4 : j = 4 := by omega
        subst e4
        refine W.widen (k := 9000) (n := 900000) (Nat.le_of_ble_eq_true rfl) (Nat.le_of_ble_eq_true rfl) ?_
        exact lg_K X ri qi n np dx ks dz ot gk go Cx Cz wx wz hri hqi hrq hnp hDk hq0 hpm hDz hz0 hzp hgo H locs ls hP hD hS (lv_sub hl [1, 2, 3, 4, 5, 6, 7, 8] rfl)
      · exact absurd (show (4 : Int32) ≤ nI j by rw [show j = 4 by omega]; decide) c1
    | succ M ih =>
      intro j go H locs ls hj hgo hP hD hS hl
      refine lv_iload hx hb dL_law_454 (lv_at hl 0 rfl) ?_
      refine lv_iconst (v := 4) hx hb dL_law_456 (by decide) ?_
      refine lv_icmp_ge (tgt := 483) hx hb dL_law_457 (by decide) (fun c1 => ?_) (fun c1 => ?_)
      · exact absurd ((nI_leI (a := 4) (by omega) (by omega)).mp c1) (by omega)
      · refine lv_aload hx hb dL_law_460 (lv_at hl 2 rfl) ?_
        refine lv_iload hx hb dL_law_462 (lv_at hl 0 rfl) ?_
        refine lv_aload_n hx hb dL_law_464 rfl (lv_at hl 8 rfl) ?_
        refine lv_bipush (v := 33) hx hb dL_law_465 (by decide) ?_
        refine lv_iload hx hb dL_law_467 (lv_at hl 0 rfl) ?_
        refine lv_iadd hx hb dL_law_469 ?_
        refine lt_i (y := nI (33 + j)) (nI_add 33 j) ?_
        refine vp_callSi (va_Run.run (va_runS (As := [.ref b, .int (nI (33 + j))]) (rest := [.int (nI j), .ref ot]) ⟨hx, hb, hml, hown, hts⟩ (mX0_at l b L (33 + j) xs hL (by omega)) (va_cwS 2 hts (lw_S q396 q397 q2 q398) rfl rfl rfl (by decide +kernel) ⟨Nat.le_of_ble_eq_true rfl, Nat.le_of_ble_eq_true rfl⟩) (Px.pre (hX.kept (hS.2.1 b hbl hbA))) rfl rfl hl.1 rfl (lv_room (Nat.le_of_ble_eq_true rfl)) dL_law_470 ⟨Nat.le_of_ble_eq_true rfl, Nat.le_of_ble_eq_true rfl⟩)) (fun v9 e_v9 => ?_)
        subst e_v9
        refine lv_ldc (v := 65535) hx hb hown (hts _ q407) dL_law_473 ?_
        refine lv_iand hx hb dL_law_475 ?_
        refine lt_i (y := mm_ L xs j) rfl ?_
        refine va_iast hx hb hE.1 hP hD hS 1 3 rfl rfl (vp_in_nI (n := j) (by omega) (by omega)) dL_law_476 (fun H locs hP hD hS => ?_)
        rw [nI_clamp (by omega)] at hP hD
        have hP : va_P G.1 clz (ia_ G ks gk :: ia_ G ot (upd go j (mm_ L xs j)) :: (wx ++ wz)) _ := hP
        have hD : va_D A (ia_ G ks gk :: ia_ G ot (upd go j (mm_ L xs j)) :: (wx ++ wz)) := hD
        refine lv_iinc (v := nI (j + 1)) (lv' := [(11, .int (nI (j + 1))), (7, .ref dz), (9, .ref ot), (5, .ref dx), (2, .int (nI qi)), (1, .int (nI ri)), (3, .int (nI n)), (8, .ref ks), (0, .ref b)]) hx hb dL_law_477 hl (k := 0) rfl (nI_1 j) (by decide) rfl (fun ls hl => ?_)
        refine lv_goto (tgt := 454) hx hb dL_law_480 (by decide) ?_
        exact ih (j + 1) (upd go j (mm_ L xs j)) H locs ls (by omega) (lt_s (p := fun t => upd go j (mm_ L xs j) t = mm_ L xs t) (fun t ht => by rw [pk_un (by omega)]; exact hgo t ht) pk_us) hP hD hS (lv_sub hl [0, 1, 2, 3, 4, 5, 6, 7, 8] rfl)
  exact loop 4 0 go H locs ls rfl (fun t ht => absurd ht (Nat.not_lt_zero t)) hP hD hS (lv_sub hl [0, 1, 2, 3, 4, 5, 6, 7, 8] rfl)
set_option maxHeartbeats 4000000 in
set_option maxRecDepth 100000 in
/-- four keys at once take the place of one -/
theorem lg_I {p : Program} {l : Launch} {e : Env} {s : State} {m : MethodId} {below : List Frame} {meth : Method} {c : Code} {b L : Nat} {xs : Nat → Int32} {G : gT} {A : Nat → Prop} (X : LC p s m meth c b L xs G A) (ri qi n np dx ks dz ot : Nat) (gk go : Nat → Int32) (Cx : Nat → List Int32) (wx wz : va_W) (hri : ri < 4) (hqi : qi < 4) (hrq : ri ≠ qi) (hnp : np ≤ 60) (hDk : Dk G dx np Cx wx) (hq0 : Cx qi = []) (hpm : (Cx ri).Perm ((List.range n).map gk)) (hDz : Dk G dz 0 (fun _ => []) wz) (H : Heap) (locs : List Loc) (ls : Array Slot) (hP : va_P G.1 clz (ia_ G ks gk :: ia_ G ot go :: (wx ++ wz)) H) (hD : va_D A (ia_ G ks gk :: ia_ G ot go :: (wx ++ wz))) (hS : va_S A s.heap H locs) (hl : lv_has ls 13 [(7, .ref dz), (9, .ref ot), (5, .ref dx), (2, .int (nI qi)), (1, .int (nI ri)), (3, .int (nI n)), (8, .ref ks), (0, .ref b)]) : W p l e room_1 s m #[Value.ref b] below meth c H locs 7000 700000 (lw_Z below #[Value.ref b] s) (F0 m 382 ls []) := by
  obtain ⟨hx, hb, hr, hlocks, hml, hown, hts, hX, hbA, hbl, hL, hE, hA, hA2⟩ := id X
  refine lv_aload hx hb dL_law_382 (lv_at hl 0 rfl) ?_
  refine lv_iload_n hx hb dL_law_384 rfl (lv_at hl 3 rfl) ?_
  refine lv_aload_n hx hb dL_law_385 rfl (lv_at hl 7 rfl) ?_
  refine lv_iconst (v := 4) hx hb dL_law_386 (by decide) ?_
  refine lt_i (y := nI (4)) rfl ?_
  refine vp_callSi (va_Run.run (va_runS (As := [.ref b, .int (nI (4))]) (rest := [.int (nI qi), .ref dz]) ⟨hx, hb, hml, hown, hts⟩ (mX0_at l b L (4) xs hL (by omega)) (va_cwS 2 hts (lw_S q396 q397 q2 q398) rfl rfl rfl (by decide +kernel) ⟨Nat.le_of_ble_eq_true rfl, Nat.le_of_ble_eq_true rfl⟩) (Px.pre (hX.kept (hS.2.1 b hbl hbA))) rfl rfl hl.1 rfl (lv_room (Nat.le_of_ble_eq_true rfl)) dL_law_387 ⟨Nat.le_of_ble_eq_true rfl, Nat.le_of_ble_eq_true rfl⟩)) (fun v9 e_v9 => ?_)
  subst e_v9
  have hc := cut_ (wc := wz) (wr := (ia_ G ks gk :: ia_ G ot go :: wx)) hE hP hD hS hA (pm_5 (a := [ia_ G ks gk, ia_ G ot go]) (b := wx) (c := wz))
  refine ci_ (va_runV (As := [.int (nI qi), .int (at_ L xs 4)]) (rest := []) ⟨hx, hb, hml, hown, hts⟩ (mX1_put l G dz 0 _ qi (fun _ => []) wz (nI qi) (at_ L xs 4) hqi (an3 hqi) (by decide) hDz) (cwV 2 hts (lw_V q182 q183 q184 q3 q185) rfl rfl rfl (by decide +kernel) ⟨Nat.le_of_ble_eq_true rfl, Nat.le_of_ble_eq_true rfl⟩) (Pw.preV hc no_bx (hDz.recv hc.1 hE.1)) rfl rfl hl.1 rfl (lv_room (Nat.le_of_ble_eq_true rfl)) dL_law_390 ⟨Nat.le_of_ble_eq_true rfl, Nat.le_of_ble_eq_true rfl⟩) hP hD hS hc (pm_5 (a := [ia_ G ks gk, ia_ G ot go]) (b := wx) (c := wz)) (fun x1 u H locs hq hP hD hS => ?_)
  have hP := wP_perm hP (pm_5 (a := [ia_ G ks gk, ia_ G ot go]) (b := wx) (c := u)).symm
  have hD := wD_perm hD (pm_5 (a := [ia_ G ks gk, ia_ G ot go]) (b := wx) (c := u)).symm
  have hP : va_P G.1 clz (ia_ G ks gk :: ia_ G ot go :: (wx ++ u)) _ := hP
  have hD : va_D A (ia_ G ks gk :: ia_ G ot go :: (wx ++ u)) := hD
  obtain ⟨e_x1, Ci, hDk2, -⟩ := hq
  refine lv_if_eq (tgt := 449) hx hb dL_law_393 (by decide) (fun c1 => ?_) (fun c1 => ?_)
  · exact absurd (e_x1.symm.trans c1) (by decide)
  · refine lv_aload hx hb dL_law_396 (lv_at hl 0 rfl) ?_
    refine lv_iload_n hx hb dL_law_398 rfl (lv_at hl 3 rfl) ?_
    refine lv_aload_n hx hb dL_law_399 rfl (lv_at hl 7 rfl) ?_
    refine lv_bipush (v := 33) hx hb dL_law_400 (by decide) ?_
    refine lt_i (y := nI (33)) rfl ?_
    refine vp_callSi (va_Run.run (va_runS (As := [.ref b, .int (nI (33))]) (rest := [.int (nI qi), .ref dz]) ⟨hx, hb, hml, hown, hts⟩ (mX0_at l b L (33) xs hL (by omega)) (va_cwS 2 hts (lw_S q396 q397 q2 q398) rfl rfl rfl (by decide +kernel) ⟨Nat.le_of_ble_eq_true rfl, Nat.le_of_ble_eq_true rfl⟩) (Px.pre (hX.kept (hS.2.1 b hbl hbA))) rfl rfl hl.1 rfl (lv_room (Nat.le_of_ble_eq_true rfl)) dL_law_402 ⟨Nat.le_of_ble_eq_true rfl, Nat.le_of_ble_eq_true rfl⟩)) (fun v9 e_v9 => ?_)
    subst e_v9
    refine lv_aload_n hx hb dL_law_405 rfl (lv_at hl 7 rfl) ?_
    refine lv_bipush (v := 34) hx hb dL_law_406 (by decide) ?_
    refine lt_i (y := nI (34)) rfl ?_
    refine vp_callSi (va_Run.run (va_runS (As := [.ref b, .int (nI (34))]) (rest := [.int (at_ L xs (33)), .int (nI qi), .ref dz]) ⟨hx, hb, hml, hown, hts⟩ (mX0_at l b L (34) xs hL (by omega)) (va_cwS 2 hts (lw_S q396 q397 q2 q398) rfl rfl rfl (by decide +kernel) ⟨Nat.le_of_ble_eq_true rfl, Nat.le_of_ble_eq_true rfl⟩) (Px.pre (hX.kept (hS.2.1 b hbl hbA))) rfl rfl hl.1 rfl (lv_room (Nat.le_of_ble_eq_true rfl)) dL_law_408 ⟨Nat.le_of_ble_eq_true rfl, Nat.le_of_ble_eq_true rfl⟩)) (fun v9 e_v9 => ?_)
    subst e_v9
    refine lv_aload_n hx hb dL_law_411 rfl (lv_at hl 7 rfl) ?_
    refine lv_bipush (v := 35) hx hb dL_law_412 (by decide) ?_
    refine lt_i (y := nI (35)) rfl ?_
    refine vp_callSi (va_Run.run (va_runS (As := [.ref b, .int (nI (35))]) (rest := [.int (at_ L xs (34)), .int (at_ L xs (33)), .int (nI qi), .ref dz]) ⟨hx, hb, hml, hown, hts⟩ (mX0_at l b L (35) xs hL (by omega)) (va_cwS 2 hts (lw_S q396 q397 q2 q398) rfl rfl rfl (by decide +kernel) ⟨Nat.le_of_ble_eq_true rfl, Nat.le_of_ble_eq_true rfl⟩) (Px.pre (hX.kept (hS.2.1 b hbl hbA))) rfl rfl hl.1 rfl (lv_room (Nat.le_of_ble_eq_true rfl)) dL_law_414 ⟨Nat.le_of_ble_eq_true rfl, Nat.le_of_ble_eq_true rfl⟩)) (fun v9 e_v9 => ?_)
    subst e_v9
    refine lv_aload_n hx hb dL_law_417 rfl (lv_at hl 7 rfl) ?_
    refine lv_bipush (v := 36) hx hb dL_law_418 (by decide) ?_
    refine lt_i (y := nI (36)) rfl ?_
    refine vp_callSi (va_Run.run (va_runS (As := [.ref b, .int (nI (36))]) (rest := [.int (at_ L xs (35)), .int (at_ L xs (34)), .int (at_ L xs (33)), .int (nI qi), .ref dz]) ⟨hx, hb, hml, hown, hts⟩ (mX0_at l b L (36) xs hL (by omega)) (va_cwS 2 hts (lw_S q396 q397 q2 q398) rfl rfl rfl (by decide +kernel) ⟨Nat.le_of_ble_eq_true rfl, Nat.le_of_ble_eq_true rfl⟩) (Px.pre (hX.kept (hS.2.1 b hbl hbA))) rfl rfl hl.1 rfl (lv_room (Nat.le_of_ble_eq_true rfl)) dL_law_420 ⟨Nat.le_of_ble_eq_true rfl, Nat.le_of_ble_eq_true rfl⟩)) (fun v9 e_v9 => ?_)
    subst e_v9
    have hc := cut_ (wc := u) (wr := (ia_ G ks gk :: ia_ G ot go :: wx)) hE hP hD hS hA (pm_5 (a := [ia_ G ks gk, ia_ G ot go]) (b := wx) (c := u))
    refine ci_ (va_runV (As := [.int (nI qi), .int (at_ L xs 33), .int (at_ L xs 34), .int (at_ L xs 35), .int (at_ L xs 36)]) (rest := []) ⟨hx, hb, hml, hown, hts⟩ (mX1_four l G dz (0 + 1) _ qi _ u (nI qi) (at_ L xs 33) (at_ L xs 34) (at_ L xs 35) (at_ L xs 36) hqi (an3 hqi) (by decide) hDk2) (cwV 5 hts (lw_V q282 q283 q284 q3 q285) rfl rfl rfl (by decide +kernel) ⟨Nat.le_of_ble_eq_true rfl, Nat.le_of_ble_eq_true rfl⟩) (Pw.preV hc no_bx (hDk2.recv hc.1 hE.1)) rfl rfl hl.1 rfl (lv_room (Nat.le_of_ble_eq_true rfl)) dL_law_423 ⟨Nat.le_of_ble_eq_true rfl, Nat.le_of_ble_eq_true rfl⟩) hP hD hS hc (pm_5 (a := [ia_ G ks gk, ia_ G ot go]) (b := wx) (c := u)) (fun x2 u2 H locs hq hP hD hS => ?_)
    have hP := wP_perm hP (pm_5 (a := [ia_ G ks gk, ia_ G ot go]) (b := wx) (c := u2)).symm
    have hD := wD_perm hD (pm_5 (a := [ia_ G ks gk, ia_ G ot go]) (b := wx) (c := u2)).symm
    have hP : va_P G.1 clz (ia_ G ks gk :: ia_ G ot go :: (wx ++ u2)) _ := hP
    have hD : va_D A (ia_ G ks gk :: ia_ G ot go :: (wx ++ u2)) := hD
    obtain ⟨e_x2, C4, hDk3, hpm4⟩ := hq
    rw [bx_uu] at hDk3
    refine lv_if_eq (tgt := 449) hx hb dL_law_426 (by decide) (fun c2 => ?_) (fun c2 => ?_)
    · exact absurd (e_x2.symm.trans c2) (by decide)
    · refine lv_aload hx hb dL_law_429 (lv_at hl 0 rfl) ?_
      refine lv_iload_n hx hb dL_law_431 rfl (lv_at hl 3 rfl) ?_
      have hc := cut_ (wc := u2) (wr := (ia_ G ks gk :: ia_ G ot go :: wx)) hE hP hD hS hA (pm_5 (a := [ia_ G ks gk, ia_ G ot go]) (b := wx) (c := u2))
      refine vp_callSi (va_Run.run (va_runV (As := [.int (nI qi)]) (rest := []) ⟨hx, hb, hml, hown, hts⟩ (mX1_size l G dz (0 + 1 + 4) _ qi (va_up (fun _ => []) qi C4) u2 (nI qi) hqi (an3 hqi) hDk3) (cwV 1 hts (lw_V q368 q369 q370 q3 q371) rfl rfl rfl (by decide +kernel) ⟨Nat.le_of_ble_eq_true rfl, Nat.le_of_ble_eq_true rfl⟩) (Pw.preV hc no_bx (hDk3.recv hc.1 hE.1)) rfl rfl hl.1 rfl (lv_room (Nat.le_of_ble_eq_true rfl)) dL_law_432 ⟨Nat.le_of_ble_eq_true rfl, Nat.le_of_ble_eq_true rfl⟩)) (fun x3 e_x3 => ?_)
      have e3 : x3 = 4 := by rw [e_x3, va_up_self, hpm4.length_eq]; rfl
      refine lv_iconst (v := 4) hx hb dL_law_435 (by decide) ?_
      refine lv_icmp_ne (tgt := 449) hx hb dL_law_436 (by decide) (fun c3 => ?_) (fun c3 => ?_)
      · exact absurd e3 c3
      · refine lv_aload hx hb dL_law_439 (lv_at hl 0 rfl) ?_
        refine lv_iload_n hx hb dL_law_441 rfl (lv_at hl 4 rfl) ?_
        have hc := cut_ (wc := u2) (wr := (ia_ G ks gk :: ia_ G ot go :: wx)) hE hP hD hS hA (pm_5 (a := [ia_ G ks gk, ia_ G ot go]) (b := wx) (c := u2))
        refine vp_callSi (va_Run.run (va_runV (As := [.int (nI ri)]) (rest := []) ⟨hx, hb, hml, hown, hts⟩ (mX1_least l G dz (0 + 1 + 4) _ ri (va_up (fun _ => []) qi C4) u2 (nI ri) hri (an3 hri) hDk3) (cwV 1 hts (lw_V q313 q314 q315 q3 q316) rfl rfl rfl (by decide +kernel) ⟨Nat.le_of_ble_eq_true rfl, Nat.le_of_ble_eq_true rfl⟩) (Pw.preV hc no_bx (hDk3.recv hc.1 hE.1)) rfl rfl hl.1 rfl (lv_room (Nat.le_of_ble_eq_true rfl)) dL_law_442 ⟨Nat.le_of_ble_eq_true rfl, Nat.le_of_ble_eq_true rfl⟩)) (fun x4 e_x4 => ?_)
        have e4 : x4 = -1 := by rw [e_x4, va_up_ne _ _ hrq]; rfl
        refine lv_iconst (v := (-1)) hx hb dL_law_445 (by decide) ?_
        refine lv_icmp_eq (tgt := 451) hx hb dL_law_446 (by decide) (fun c4 => ?_) (fun c4 => ?_)
        · refine W.widen (k := 8000) (n := 800000) (Nat.le_of_ble_eq_true rfl) (Nat.le_of_ble_eq_true rfl) ?_
          exact lg_J X ri qi n np dx ks dz ot gk go Cx (va_up (fun _ => []) qi C4) wx u2 hri hqi hrq hnp hDk hq0 hpm hDk3 (va_up_ne _ _ hrq) (by rw [va_up_self]; exact hpm4) _ _ ls hP hD hS (lv_sub hl [0, 1, 2, 3, 4, 5, 6, 7] rfl)
        · exact absurd e4 c4
end
section
/-! THE LAW'S BODY: its first half, the last segment first -/
set_option maxRecDepth 100000
set_option maxHeartbeats 4000000 in
set_option maxRecDepth 100000 in
/-- y is emptied -/
theorem lg_H {p : Program} {l : Launch} {e : Env} {s : State} {m : MethodId} {below : List Frame} {meth : Method} {c : Code} {b L : Nat} {xs : Nat → Int32} {G : gT} {A : Nat → Prop} (X : LC p s m meth c b L xs G A) (ri qi n dx ks dy dz ot npx npy : Nat) (gk go : Nat → Int32) (Cx Cy : List Int32) (wx wy wz : va_W) (hri : ri < 4) (hqi : qi < 4) (hrq : ri ≠ qi) (hn : n ≤ 24) (hnpx : npx ≤ 60) (hDx : Dk G dx npx (va_up (fun _ => []) ri (Cx)) wx) (hpx : Cx.Perm ((List.range n).map gk)) (hDy : Dk G dy npy (va_up (fun _ => []) ri (Cy)) wy) (hpy : Cy.Perm ((List.range n).map gk)) (hDz : Dk G dz 0 (fun _ => []) wz) (H : Heap) (locs : List Loc) (ls : Array Slot) (hP : va_P G.1 clz (ia_ G ks gk :: ia_ G ot go :: (wx ++ (wy ++ wz))) H) (hD : va_D A (ia_ G ks gk :: ia_ G ot go :: (wx ++ (wy ++ wz)))) (hS : va_S A s.heap H locs) (hl : lv_has ls 13 [(6, .ref dy), (7, .ref dz), (9, .ref ot), (5, .ref dx), (2, .int (nI qi)), (1, .int (nI ri)), (3, .int (nI n)), (8, .ref ks), (0, .ref b)]) : W p l e room_1 s m #[Value.ref b] below meth c H locs 6000 600000 (lw_Z below #[Value.ref b] s) (F0 m 368 ls []) := by
  obtain ⟨hx, hb, hr, hlocks, hml, hown, hts, hX, hbA, hbl, hL, hE, hA, hA2⟩ := id X
  refine lv_aload hx hb dL_law_368 (lv_at hl 0 rfl) ?_
  refine lv_iload_n hx hb dL_law_370 rfl (lv_at hl 5 rfl) ?_
  refine lv_aload hx hb dL_law_371 (lv_at hl 7 rfl) ?_
  refine lv_iload_n hx hb dL_law_373 rfl (lv_at hl 6 rfl) ?_
  have hc := cut_ (wc := ia_ G ks gk :: wy) (wr := (ia_ G ot go :: (wx ++ wz))) hE hP hD hS hA (List.Perm.cons (ia_ G ks gk) (pm_2 (a := [ia_ G ot go]) (b := wx) (c := wy) (d := wz)))
  refine ci_ (va_runS (As := [.ref dy, .int (nI ri), .ref ks, .int (nI n)]) (rest := []) ⟨hx, hb, hml, hown, hts⟩ (mX0_drain l G dy npy _ ri n ks gk (va_up (fun _ => []) ri (Cy)) wy hri hDy (by rw [va_up_self]; exact hpy)) (va_cwS 4 hts (lw_S q402 q403 q2 q404) rfl rfl rfl (by decide +kernel) ⟨Nat.le_of_ble_eq_true rfl, Nat.le_of_ble_eq_true rfl⟩) (Pw.pre hc no_bx) rfl rfl hl.1 rfl (lv_room (Nat.le_of_ble_eq_true rfl)) dL_law_374 ⟨Nat.le_of_ble_eq_true rfl, Nat.le_of_ble_eq_true rfl⟩) hP hD hS hc (List.Perm.cons (ia_ G ks gk) (pm_2 (a := [ia_ G ot go]) (b := wx) (c := wy) (d := wz))) (fun x5 u H locs hq hP hD hS => ?_)
  refine lv_if_ne (tgt := 382) hx hb dL_law_377 (by decide) (fun c1 => ?_) (fun c1 => ?_)
  · have hP : va_P G.1 clz (ia_ G ks gk :: ia_ G ot go :: (wx ++ wz)) _ := pw_drop (a := [ia_ G ks gk]) (b := u) hP
    have hD : va_D A (ia_ G ks gk :: ia_ G ot go :: (wx ++ wz)) := dw_drop (a := [ia_ G ks gk]) (b := u) hD
    refine W.widen (k := 7000) (n := 700000) (Nat.le_of_ble_eq_true rfl) (Nat.le_of_ble_eq_true rfl) ?_
    exact lg_I X ri qi n npx dx ks dz ot gk go (va_up (fun _ => []) ri (Cx)) wx wz hri hqi hrq hnpx hDx (va_up_ne _ _ (Ne.symm hrq)) (by rw [va_up_self]; exact hpx) hDz _ _ ls hP hD hS (lv_sub hl [1, 2, 3, 4, 5, 6, 7, 8] rfl)
  · exact absurd (hq.1.symm.trans c1) (by decide)
set_option maxHeartbeats 4000000 in
set_option maxRecDepth 100000 in
/-- what was taken goes back into x -/
theorem lg_G {p : Program} {l : Launch} {e : Env} {s : State} {m : MethodId} {below : List Frame} {meth : Method} {c : Code} {b L : Nat} {xs : Nat → Int32} {G : gT} {A : Nat → Prop} (X : LC p s m meth c b L xs G A) (ri qi n dx ks dy dz ot t npy : Nat) (gk go : Nat → Int32) (S Cx Cy : List Int32) (wx wy wz : va_W) (hri : ri < 4) (hqi : qi < 4) (hrq : ri ≠ qi) (hn : n ≤ 24) (hSl : S.length = n) (hSm : ∀ a ∈ S, a &&& 65535 = a) (hSp : S.Perm ((List.range n).map gk)) (ht : t ≤ n) (hgo : ∀ j, j < t → S[j]? = some (go j)) (hDx : Dk G dx n (va_up (fun _ => []) ri (Cx)) wx) (hpx : Cx.Perm (S.drop t)) (hDy : Dk G dy npy (va_up (fun _ => []) ri (Cy)) wy) (hpy : Cy.Perm S) (hDz : Dk G dz 0 (fun _ => []) wz) (H : Heap) (locs : List Loc) (ls : Array Slot) (hP : va_P G.1 clz (ia_ G ks gk :: ia_ G ot go :: (wx ++ (wy ++ wz))) H) (hD : va_D A (ia_ G ks gk :: ia_ G ot go :: (wx ++ (wy ++ wz)))) (hS : va_S A s.heap H locs) (hl : lv_has ls 13 [(10, .int (nI t)), (6, .ref dy), (7, .ref dz), (9, .ref ot), (5, .ref dx), (2, .int (nI qi)), (1, .int (nI ri)), (3, .int (nI n)), (8, .ref ks), (0, .ref b)]) : W p l e room_1 s m #[Value.ref b] below meth c H locs 5000 500000 (lw_Z below #[Value.ref b] s) (F0 m 335 ls []) := by
  obtain ⟨hx, hb, hr, hlocks, hml, hown, hts, hX, hbA, hbl, hL, hE, hA, hA2⟩ := id X
  refine lv_iload hx hb dL_law_335 (lv_at hl 0 rfl) ?_
  refine lv_iconst (v := 1) hx hb dL_law_337 (by decide) ?_
  refine lv_isub hx hb dL_law_338 ?_
  refine lt_i (y := pm_ t) (pm_of t) ?_
  refine lv_istore (lv' := [(11, .int (pm_ t)), (10, .int (nI t)), (6, .ref dy), (7, .ref dz), (9, .ref ot), (5, .ref dx), (2, .int (nI qi)), (1, .int (nI ri)), (3, .int (nI n)), (8, .ref ks), (0, .ref b)]) hx hb dL_law_339 hl (by decide) rfl (fun ls hl => ?_)
  have loop : ∀ (j : Nat) (Cx : List Int32) (wx : va_W) (H : Heap) (locs : List Loc) (ls : Array Slot) (cells slots : Nat), j ≤ t → Dk G dx (n + (t - j)) (va_up (fun _ => []) ri (Cx)) wx → Cx.Perm ((S.take t).drop j ++ S.drop t) → cells + 2 * j ≤ 6000 → slots + 130 * j ≤ 600000 → va_P G.1 clz (ia_ G ks gk :: ia_ G ot go :: (wx ++ (wy ++ wz))) H → va_D A (ia_ G ks gk :: ia_ G ot go :: (wx ++ (wy ++ wz))) → va_S A s.heap H locs → lv_has ls 13 [(11, .int (pm_ j)), (6, .ref dy), (7, .ref dz), (9, .ref ot), (5, .ref dx), (2, .int (nI qi)), (1, .int (nI ri)), (3, .int (nI n)), (8, .ref ks), (0, .ref b)] → W p l e room_1 s m #[Value.ref b] below meth c H locs cells slots (lw_Z below #[Value.ref b] s) (F0 m 341 ls []) := by
    intro j
    induction j with
    | zero =>
      intro Cx wx H locs ls cells slots hj hDx hpx hce hsl hP hD hS hl
      refine lv_iload hx hb dL_law_341 (lv_at hl 0 rfl) ?_
      refine lv_if_lt (tgt := 368) hx hb dL_law_343 (by decide) (fun c1 => ?_) (fun c1 => ?_)
      · refine W.widen (k := 6000) (n := 600000) (by omega) (by omega) ?_
        exact lg_H X ri qi n dx ks dy dz ot (n + (t - 0)) npy gk go Cx Cy wx wy wz hri hqi hrq hn (by omega) hDx ((hpx.trans (by rw [List.drop_zero, List.take_append_drop])).trans hSp) hDy (hpy.trans hSp) hDz H locs ls hP hD hS (lv_sub hl [1, 2, 3, 4, 5, 6, 7, 8, 9] rfl)
      · exact absurd (show pm_ 0 < 0 by decide) c1
    | succ j ih =>
      intro Cx wx H locs ls cells slots hj hDx hpx hce hsl hP hD hS hl
      refine lv_iload hx hb dL_law_341 (lv_at hl 0 rfl) ?_
      refine lv_if_lt (tgt := 368) hx hb dL_law_343 (by decide) (fun c1 => ?_) (fun c1 => ?_)
      · exact absurd c1 (nI_pos (by omega))
      · refine lv_aload hx hb dL_law_346 (lv_at hl 4 rfl) ?_
        refine lv_iload_n hx hb dL_law_348 rfl (lv_at hl 6 rfl) ?_
        refine lv_aload hx hb dL_law_349 (lv_at hl 3 rfl) ?_
        refine lv_iload hx hb dL_law_351 (lv_at hl 0 rfl) ?_
        refine va_iald hx hb hE.1 hP 1 3 rfl rfl (show vp_in (pm_ (j + 1)) 64 from vp_in_nI (n := j) (by omega) (by omega)) dL_law_353 ?_
        refine lt_i (y := go j) (by rw [show (pm_ (j + 1)).toNatClampNeg = j from nI_clamp (by omega)]) ?_
        have hgj := hgo j (by omega)
        have hmj : go j &&& 65535 = go j := hSm _ (List.mem_of_getElem? hgj)
        have hc := cut_ (wc := wx) (wr := (ia_ G ks gk :: ia_ G ot go :: (wy ++ wz))) hE hP hD hS hA (pm_3 (a := [ia_ G ks gk, ia_ G ot go]) (b := wx) (c := wy ++ wz))
        refine ci_ (va_runV (As := [.int (nI ri), .int (go j)]) (rest := []) ⟨hx, hb, hml, hown, hts⟩ (mX1_put l G dx (n + (t - (j + 1))) _ ri (va_up (fun _ => []) ri (Cx)) wx (nI ri) (go j) hri (an3 hri) (by omega) hDx) (cwV 2 hts (lw_V q182 q183 q184 q3 q185) rfl rfl rfl (by decide +kernel) ⟨Nat.le_of_ble_eq_true rfl, Nat.le_of_ble_eq_true rfl⟩) (Pw.preV hc no_bx (hDx.recv hc.1 hE.1)) rfl rfl hl.1 rfl (lv_room (Nat.le_of_ble_eq_true rfl)) dL_law_354 ⟨by show cells + 2 ≤ 1200110; omega, by show slots + 130 ≤ 5501260; omega⟩) hP hD hS hc (pm_3 (a := [ia_ G ks gk, ia_ G ot go]) (b := wx) (c := wy ++ wz)) (fun x1 u H locs hq hP hD hS => ?_)
        have hP := wP_perm hP (pm_3 (a := u) (b := [ia_ G ks gk, ia_ G ot go]) (c := wy ++ wz))
        have hD := wD_perm hD (pm_3 (a := u) (b := [ia_ G ks gk, ia_ G ot go]) (c := wy ++ wz))
        have hP : va_P G.1 clz (ia_ G ks gk :: ia_ G ot go :: (u ++ (wy ++ wz))) _ := hP
        have hD : va_D A (ia_ G ks gk :: ia_ G ot go :: (u ++ (wy ++ wz))) := hD
        obtain ⟨e_x1, Ci, hDk2, hpm2⟩ := hq
        rw [va_up_self, hmj] at hpm2
        rw [bx_uu] at hDk2
        refine lv_if_ne (tgt := 362) hx hb dL_law_357 (by decide) (fun c3 => ?_) (fun c3 => ?_)
        · refine lv_iinc (v := pm_ j) (lv' := [(11, .int (pm_ j)), (6, .ref dy), (7, .ref dz), (9, .ref ot), (5, .ref dx), (2, .int (nI qi)), (1, .int (nI ri)), (3, .int (nI n)), (8, .ref ks), (0, .ref b)]) hx hb dL_law_362 hl (k := 0) rfl (pm_dn j) (by decide) rfl (fun ls hl => ?_)
          refine lv_goto (tgt := 341) hx hb dL_law_365 (by decide) ?_
          have ed : (S.take t).drop j = go j :: (S.take t).drop (j + 1) := by
            have hl9 : j < (S.take t).length := by rw [List.length_take, hSl]; omega
            rw [List.drop_eq_getElem_cons hl9]
            congr 1
            have h9 : (S.take t)[j]? = some (go j) := by rw [List.getElem?_take_of_lt (by omega)]; exact hgj
            rw [List.getElem?_eq_getElem hl9] at h9
            exact Option.some.inj h9
          exact ih Ci u H locs ls (cells + 2) (slots + 130) (by omega) (by rw [show n + (t - j) = n + (t - (j + 1)) + 1 by omega]; exact hDk2) (by rw [ed]; exact hpm2.trans (List.Perm.cons _ hpx)) (by omega) (by omega) hP hD hS (lv_sub hl [0, 1, 2, 3, 4, 5, 6, 7, 8, 9] rfl)
        · exact absurd (e_x1.symm.trans c3) (by decide)
  exact loop t Cx wx H locs ls 5000 500000 (Nat.le_refl t) (by rw [Nat.sub_self]; exact hDx) (by rw [List.drop_eq_nil_of_le (by rw [List.length_take]; omega)]; exact hpx) (by omega) (by omega) hP hD hS (lv_sub hl [0, 2, 3, 4, 5, 6, 7, 8, 9, 10] rfl)
set_option maxHeartbeats 4000000 in
set_option maxRecDepth 100000 in
/-- what was taken goes back into y -/
theorem lg_F {p : Program} {l : Launch} {e : Env} {s : State} {m : MethodId} {below : List Frame} {meth : Method} {c : Code} {b L : Nat} {xs : Nat → Int32} {G : gT} {A : Nat → Prop} (X : LC p s m meth c b L xs G A) (ri qi n dx ks dy dz ot t : Nat) (gk go : Nat → Int32) (S Cx Cy : List Int32) (wx wy wz : va_W) (hri : ri < 4) (hqi : qi < 4) (hrq : ri ≠ qi) (hn : n ≤ 24) (hSl : S.length = n) (hSm : ∀ a ∈ S, a &&& 65535 = a) (hSp : S.Perm ((List.range n).map gk)) (ht : t ≤ n) (hgo : ∀ j, j < t → S[j]? = some (go j)) (hDx : Dk G dx n (va_up (fun _ => []) ri (Cx)) wx) (hpx : Cx.Perm (S.drop t)) (hDy : Dk G dy n (va_up (fun _ => []) ri (Cy)) wy) (hpy : Cy.Perm (S.drop t)) (hDz : Dk G dz 0 (fun _ => []) wz) (H : Heap) (locs : List Loc) (ls : Array Slot) (hP : va_P G.1 clz (ia_ G ks gk :: ia_ G ot go :: (wx ++ (wy ++ wz))) H) (hD : va_D A (ia_ G ks gk :: ia_ G ot go :: (wx ++ (wy ++ wz)))) (hS : va_S A s.heap H locs) (hl : lv_has ls 13 [(10, .int (nI t)), (6, .ref dy), (7, .ref dz), (9, .ref ot), (5, .ref dx), (2, .int (nI qi)), (1, .int (nI ri)), (3, .int (nI n)), (8, .ref ks), (0, .ref b)]) : W p l e room_1 s m #[Value.ref b] below meth c H locs 4000 400000 (lw_Z below #[Value.ref b] s) (F0 m 303 ls []) := by
  obtain ⟨hx, hb, hr, hlocks, hml, hown, hts, hX, hbA, hbl, hL, hE, hA, hA2⟩ := id X
  refine lv_iconst (v := 0) hx hb dL_law_303 (by decide) ?_
  refine lt_i (y := nI 0) (nI_0.symm) ?_
  refine lv_istore (lv' := [(11, .int (nI 0)), (10, .int (nI t)), (6, .ref dy), (7, .ref dz), (9, .ref ot), (5, .ref dx), (2, .int (nI qi)), (1, .int (nI ri)), (3, .int (nI n)), (8, .ref ks), (0, .ref b)]) hx hb dL_law_304 hl (by decide) rfl (fun ls hl => ?_)
  have loop : ∀ (M j : Nat) (Cy : List Int32) (wy : va_W) (H : Heap) (locs : List Loc) (ls : Array Slot) (cells slots : Nat), j + M = t → Dk G dy (n + j) (va_up (fun _ => []) ri (Cy)) wy → Cy.Perm (S.take j ++ S.drop t) → cells + 2 * M ≤ 5000 → slots + 130 * M ≤ 500000 → va_P G.1 clz (ia_ G ks gk :: ia_ G ot go :: (wx ++ (wy ++ wz))) H → va_D A (ia_ G ks gk :: ia_ G ot go :: (wx ++ (wy ++ wz))) → va_S A s.heap H locs → lv_has ls 13 [(11, .int (nI j)), (10, .int (nI t)), (6, .ref dy), (7, .ref dz), (9, .ref ot), (5, .ref dx), (2, .int (nI qi)), (1, .int (nI ri)), (3, .int (nI n)), (8, .ref ks), (0, .ref b)] → W p l e room_1 s m #[Value.ref b] below meth c H locs cells slots (lw_Z below #[Value.ref b] s) (F0 m 306 ls []) := by
    intro M
    induction M with
    | zero =>
      intro j Cy wy H locs ls cells slots hj hDy hpy hce hsl hP hD hS hl
      refine lv_iload hx hb dL_law_306 (lv_at hl 0 rfl) ?_
      refine lv_iload hx hb dL_law_308 (lv_at hl 1 rfl) ?_
      refine lv_icmp_ge (tgt := 335) hx hb dL_law_310 (by decide) (fun c1 => ?_) (fun c1 => ?_)
      · have e4 : j = t := by omega
        subst e4
        refine W.widen (k := 5000) (n := 500000) (by omega) (by omega) ?_
        exact lg_G X ri qi n dx ks dy dz ot j (n + j) gk go S Cx Cy wx wy wz hri hqi hrq hn hSl hSm hSp ht hgo hDx hpx hDy (hpy.trans (by rw [List.take_append_drop])) hDz H locs ls hP hD hS (lv_sub hl [1, 2, 3, 4, 5, 6, 7, 8, 9, 10] rfl)
      · exact absurd (nI_le (by omega) (by omega)) c1
    | succ M ih =>
      intro j Cy wy H locs ls cells slots hj hDy hpy hce hsl hP hD hS hl
      refine lv_iload hx hb dL_law_306 (lv_at hl 0 rfl) ?_
      refine lv_iload hx hb dL_law_308 (lv_at hl 1 rfl) ?_
      refine lv_icmp_ge (tgt := 335) hx hb dL_law_310 (by decide) (fun c1 => ?_) (fun c1 => ?_)
      · exact absurd ((nI_leI (by omega) (by omega)).mp c1) (by omega)
      · refine lv_aload hx hb dL_law_313 (lv_at hl 2 rfl) ?_
        refine lv_iload_n hx hb dL_law_315 rfl (lv_at hl 7 rfl) ?_
        refine lv_aload hx hb dL_law_316 (lv_at hl 4 rfl) ?_
        refine lv_iload hx hb dL_law_318 (lv_at hl 0 rfl) ?_
        refine va_iald hx hb hE.1 hP 1 3 rfl rfl (vp_in_nI (n := j) (by omega) (by omega)) dL_law_320 ?_
        refine lt_i (y := go j) (by rw [nI_clamp (by omega)]) ?_
        have hgj := hgo j (by omega)
        have hmj : go j &&& 65535 = go j := hSm _ (List.mem_of_getElem? hgj)
        have hc := cut_ (wc := wy) (wr := (ia_ G ks gk :: ia_ G ot go :: (wx ++ wz))) hE hP hD hS hA (pm_2 (a := [ia_ G ks gk, ia_ G ot go]) (b := wx) (c := wy) (d := wz))
        refine ci_ (va_runV (As := [.int (nI ri), .int (go j)]) (rest := []) ⟨hx, hb, hml, hown, hts⟩ (mX1_put l G dy (n + j) _ ri (va_up (fun _ => []) ri (Cy)) wy (nI ri) (go j) hri (an3 hri) (by omega) hDy) (cwV 2 hts (lw_V q182 q183 q184 q3 q185) rfl rfl rfl (by decide +kernel) ⟨Nat.le_of_ble_eq_true rfl, Nat.le_of_ble_eq_true rfl⟩) (Pw.preV hc no_bx (hDy.recv hc.1 hE.1)) rfl rfl hl.1 rfl (lv_room (Nat.le_of_ble_eq_true rfl)) dL_law_321 ⟨by show cells + 2 ≤ 1200110; omega, by show slots + 130 ≤ 5501260; omega⟩) hP hD hS hc (pm_2 (a := [ia_ G ks gk, ia_ G ot go]) (b := wx) (c := wy) (d := wz)) (fun x1 u H locs hq hP hD hS => ?_)
        have hP := wP_perm hP (pm_2 (a := [ia_ G ks gk, ia_ G ot go]) (b := wx) (c := u) (d := wz)).symm
        have hD := wD_perm hD (pm_2 (a := [ia_ G ks gk, ia_ G ot go]) (b := wx) (c := u) (d := wz)).symm
        have hP : va_P G.1 clz (ia_ G ks gk :: ia_ G ot go :: (wx ++ (u ++ wz))) _ := hP
        have hD : va_D A (ia_ G ks gk :: ia_ G ot go :: (wx ++ (u ++ wz))) := hD
        obtain ⟨e_x1, Ci, hDk2, hpm2⟩ := hq
        rw [va_up_self, hmj] at hpm2
        rw [bx_uu] at hDk2
        refine lv_if_ne (tgt := 329) hx hb dL_law_324 (by decide) (fun c3 => ?_) (fun c3 => ?_)
        · refine lv_iinc (v := nI (j + 1)) (lv' := [(11, .int (nI (j + 1))), (10, .int (nI t)), (6, .ref dy), (7, .ref dz), (9, .ref ot), (5, .ref dx), (2, .int (nI qi)), (1, .int (nI ri)), (3, .int (nI n)), (8, .ref ks), (0, .ref b)]) hx hb dL_law_329 hl (k := 0) rfl (nI_1 j) (by decide) rfl (fun ls hl => ?_)
          refine lv_goto (tgt := 306) hx hb dL_law_332 (by decide) ?_
          have et : S.take (j + 1) = S.take j ++ [go j] := by rw [List.take_succ, hgj]; rfl
          exact ih (j + 1) Ci u H locs ls (cells + 2) (slots + 130) (by omega) hDk2 (by rw [et, List.append_assoc]; exact (hpm2.trans (List.Perm.cons _ hpy)).trans List.perm_middle.symm) (by omega) (by omega) hP hD hS (lv_sub hl [0, 1, 2, 3, 4, 5, 6, 7, 8, 9, 10] rfl)
        · exact absurd (e_x1.symm.trans c3) (by decide)
  exact loop t 0 Cy wy H locs ls 4000 400000 (Nat.zero_add t) hDy (by rw [List.take_zero]; exact hpy) (by omega) (by omega) hP hD hS (lv_sub hl [0, 1, 2, 3, 4, 5, 6, 7, 8, 9, 10] rfl)
set_option maxHeartbeats 4000000 in
set_option maxRecDepth 100000 in
/-- as many as drawn come alike from both -/
theorem lg_E {p : Program} {l : Launch} {e : Env} {s : State} {m : MethodId} {below : List Frame} {meth : Method} {c : Code} {b L : Nat} {xs : Nat → Int32} {G : gT} {A : Nat → Prop} (X : LC p s m meth c b L xs G A) (ri qi n dx ks dy dz ot t : Nat) (gk go : Nat → Int32) (S : List Int32) (wx wy wz : va_W) (hri : ri < 4) (hqi : qi < 4) (hrq : ri ≠ qi) (hn : n ≤ 24) (hSl : S.length = n) (hSm : ∀ a ∈ S, a &&& 65535 = a) (hSp : S.Perm ((List.range n).map gk)) (ht : t ≤ n) (hDx : Dk G dx n (va_up (fun _ => []) ri (S)) wx) (hDy : Dk G dy n (va_up (fun _ => []) ri (S)) wy) (hDz : Dk G dz 0 (fun _ => []) wz) (H : Heap) (locs : List Loc) (ls : Array Slot) (hP : va_P G.1 clz (ia_ G ks gk :: ia_ G ot go :: (wx ++ (wy ++ wz))) H) (hD : va_D A (ia_ G ks gk :: ia_ G ot go :: (wx ++ (wy ++ wz)))) (hS : va_S A s.heap H locs) (hl : lv_has ls 13 [(10, .int (nI t)), (6, .ref dy), (7, .ref dz), (9, .ref ot), (5, .ref dx), (2, .int (nI qi)), (1, .int (nI ri)), (3, .int (nI n)), (8, .ref ks), (0, .ref b)]) : W p l e room_1 s m #[Value.ref b] below meth c H locs 3000 300000 (lw_Z below #[Value.ref b] s) (F0 m 260 ls []) := by
  obtain ⟨hx, hb, hr, hlocks, hml, hown, hts, hX, hbA, hbl, hL, hE, hA, hA2⟩ := id X
  refine lv_iconst (v := 0) hx hb dL_law_260 (by decide) ?_
  refine lt_i (y := nI 0) (nI_0.symm) ?_
  refine lv_istore (lv' := [(11, .int (nI 0)), (10, .int (nI t)), (6, .ref dy), (7, .ref dz), (9, .ref ot), (5, .ref dx), (2, .int (nI qi)), (1, .int (nI ri)), (3, .int (nI n)), (8, .ref ks), (0, .ref b)]) hx hb dL_law_261 hl (by decide) rfl (fun ls hl => ?_)
  have loop : ∀ (M j : Nat) (go : Nat → Int32) (wx wy : va_W) (H : Heap) (locs : List Loc) (ls : Array Slot) (cells slots : Nat), j + M = t → (∀ u, u < j → S[u]? = some (go u)) → Dk G dx n (va_up (fun _ => []) ri (S.drop j)) wx → Dk G dy n (va_up (fun _ => []) ri (S.drop j)) wy → cells + 2 * M ≤ 4000 → slots + 258 * M ≤ 400000 → va_P G.1 clz (ia_ G ks gk :: ia_ G ot go :: (wx ++ (wy ++ wz))) H → va_D A (ia_ G ks gk :: ia_ G ot go :: (wx ++ (wy ++ wz))) → va_S A s.heap H locs → lv_has ls 13 [(11, .int (nI j)), (10, .int (nI t)), (6, .ref dy), (7, .ref dz), (9, .ref ot), (5, .ref dx), (2, .int (nI qi)), (1, .int (nI ri)), (3, .int (nI n)), (8, .ref ks), (0, .ref b)] → W p l e room_1 s m #[Value.ref b] below meth c H locs cells slots (lw_Z below #[Value.ref b] s) (F0 m 263 ls []) := by
    intro M
    induction M with
    | zero =>
      intro j go wx wy H locs ls cells slots hj hgo hDx hDy hce hsl hP hD hS hl
      refine lv_iload hx hb dL_law_263 (lv_at hl 0 rfl) ?_
      refine lv_iload hx hb dL_law_265 (lv_at hl 1 rfl) ?_
      refine lv_icmp_ge (tgt := 303) hx hb dL_law_267 (by decide) (fun c1 => ?_) (fun c1 => ?_)
      · have e4 : j = t := by omega
        subst e4
        refine W.widen (k := 4000) (n := 400000) (by omega) (by omega) ?_
        exact lg_F X ri qi n dx ks dy dz ot j gk go S (S.drop j) (S.drop j) wx wy wz hri hqi hrq hn hSl hSm hSp ht hgo hDx (List.Perm.refl _) hDy (List.Perm.refl _) hDz H locs ls hP hD hS (lv_sub hl [1, 2, 3, 4, 5, 6, 7, 8, 9, 10] rfl)
      · exact absurd (nI_le (by omega) (by omega)) c1
    | succ M ih =>
      intro j go wx wy H locs ls cells slots hj hgo hDx hDy hce hsl hP hD hS hl
      refine lv_iload hx hb dL_law_263 (lv_at hl 0 rfl) ?_
      refine lv_iload hx hb dL_law_265 (lv_at hl 1 rfl) ?_
      refine lv_icmp_ge (tgt := 303) hx hb dL_law_267 (by decide) (fun c1 => ?_) (fun c1 => ?_)
      · exact absurd ((nI_leI (by omega) (by omega)).mp c1) (by omega)
      · have hjl : j < S.length := by omega
        obtain ⟨a, ea⟩ : ∃ a, S.drop j = a :: S.drop (j + 1) := ⟨_, List.drop_eq_getElem_cons hjl⟩
        have eg : S[j]? = some a := by
          have h9 := congrArg (fun q : List Int32 => q[0]?) ea
          simpa using h9
        refine lv_aload hx hb dL_law_270 (lv_at hl 4 rfl) ?_
        refine lv_iload hx hb dL_law_272 (lv_at hl 0 rfl) ?_
        refine lv_aload hx hb dL_law_274 (lv_at hl 5 rfl) ?_
        refine lv_iload_n hx hb dL_law_276 rfl (lv_at hl 7 rfl) ?_
        have hc := cut_ (wc := wx) (wr := (ia_ G ks gk :: ia_ G ot go :: (wy ++ wz))) hE hP hD hS hA (pm_3 (a := [ia_ G ks gk, ia_ G ot go]) (b := wx) (c := wy ++ wz))
        refine ci_ (va_runV (As := [.int (nI ri)]) (rest := [.int (nI j), .ref ot]) ⟨hx, hb, hml, hown, hts⟩ (mX1_takeLeast l G dx n _ ri (va_up (fun _ => []) ri (S.drop j)) wx (nI ri) hri (an3 hri) hDx) (cwV 1 hts (lw_V q350 q351 q352 q3 q353) rfl rfl rfl (by decide +kernel) ⟨Nat.le_of_ble_eq_true rfl, Nat.le_of_ble_eq_true rfl⟩) (Pw.preV hc no_bx (hDx.recv hc.1 hE.1)) rfl rfl hl.1 rfl (lv_room (Nat.le_of_ble_eq_true rfl)) dL_law_277 ⟨by show cells + 1 ≤ 1200110; omega, by show slots + 129 ≤ 5501260; omega⟩) hP hD hS hc (pm_3 (a := [ia_ G ks gk, ia_ G ot go]) (b := wx) (c := wy ++ wz)) (fun x1 u H locs hq hP hD hS => ?_)
        have hP := wP_perm hP (pm_3 (a := u) (b := [ia_ G ks gk, ia_ G ot go]) (c := wy ++ wz))
        have hD := wD_perm hD (pm_3 (a := u) (b := [ia_ G ks gk, ia_ G ot go]) (c := wy ++ wz))
        have hP : va_P G.1 clz (ia_ G ks gk :: ia_ G ot go :: (u ++ (wy ++ wz))) _ := hP
        have hD : va_D A (ia_ G ks gk :: ia_ G ot go :: (u ++ (wy ++ wz))) := hD
        have e1 : x1 = a := by rw [hq.1, va_up_self, ea]; rfl
        have hDx2 : Dk G dx n (va_up (fun _ => []) ri (S.drop (j + 1))) u := by have h9 := hq.2; rw [va_up_self, ea, bx_uu] at h9; exact h9
        refine lt_i (y := a) (e1) ?_
        refine va_iast hx hb hE.1 hP hD hS 1 3 rfl rfl (vp_in_nI (n := j) (by omega) (by omega)) dL_law_280 (fun H locs hP hD hS => ?_)
        rw [nI_clamp (by omega)] at hP hD
        have hP : va_P G.1 clz (ia_ G ks gk :: ia_ G ot (upd go j a) :: (u ++ (wy ++ wz))) _ := hP
        have hD : va_D A (ia_ G ks gk :: ia_ G ot (upd go j a) :: (u ++ (wy ++ wz))) := hD
        refine lv_aload hx hb dL_law_281 (lv_at hl 4 rfl) ?_
        refine lv_iload hx hb dL_law_283 (lv_at hl 0 rfl) ?_
        refine va_iald hx hb hE.1 hP 1 3 rfl rfl (vp_in_nI (n := j) (by omega) (by omega)) dL_law_285 ?_
        refine lt_i (y := a) (by rw [nI_clamp (by omega), pk_us]) ?_
        refine lv_aload hx hb dL_law_286 (lv_at hl 2 rfl) ?_
        refine lv_iload_n hx hb dL_law_288 rfl (lv_at hl 7 rfl) ?_
        have hc := cut_ (wc := wy) (wr := (ia_ G ks gk :: ia_ G ot (upd go j a) :: (u ++ wz))) hE hP hD hS hA (pm_2 (a := [ia_ G ks gk, ia_ G ot (upd go j a)]) (b := u) (c := wy) (d := wz))
        refine ci_ (va_runV (As := [.int (nI ri)]) (rest := [.int a]) ⟨hx, hb, hml, hown, hts⟩ (mX1_takeLeast l G dy n _ ri (va_up (fun _ => []) ri (S.drop j)) wy (nI ri) hri (an3 hri) hDy) (cwV 1 hts (lw_V q350 q351 q352 q3 q353) rfl rfl rfl (by decide +kernel) ⟨Nat.le_of_ble_eq_true rfl, Nat.le_of_ble_eq_true rfl⟩) (Pw.preV hc no_bx (hDy.recv hc.1 hE.1)) rfl rfl hl.1 rfl (lv_room (Nat.le_of_ble_eq_true rfl)) dL_law_289 ⟨by show cells + 1 + 1 ≤ 1200110; omega, by show slots + 129 + 129 ≤ 5501260; omega⟩) hP hD hS hc (pm_2 (a := [ia_ G ks gk, ia_ G ot (upd go j a)]) (b := u) (c := wy) (d := wz)) (fun x2 u2 H locs hq hP hD hS => ?_)
        have hP := wP_perm hP (pm_2 (a := [ia_ G ks gk, ia_ G ot (upd go j a)]) (b := u) (c := u2) (d := wz)).symm
        have hD := wD_perm hD (pm_2 (a := [ia_ G ks gk, ia_ G ot (upd go j a)]) (b := u) (c := u2) (d := wz)).symm
        have hP : va_P G.1 clz (ia_ G ks gk :: ia_ G ot (upd go j a) :: (u ++ (u2 ++ wz))) _ := hP
        have hD : va_D A (ia_ G ks gk :: ia_ G ot (upd go j a) :: (u ++ (u2 ++ wz))) := hD
        have e2 : x2 = a := by rw [hq.1, va_up_self, ea]; rfl
        have hDy2 : Dk G dy n (va_up (fun _ => []) ri (S.drop (j + 1))) u2 := by have h9 := hq.2; rw [va_up_self, ea, bx_uu] at h9; exact h9
        refine lv_icmp_eq (tgt := 297) hx hb dL_law_292 (by decide) (fun c3 => ?_) (fun c3 => ?_)
        · refine lv_iinc (v := nI (j + 1)) (lv' := [(11, .int (nI (j + 1))), (10, .int (nI t)), (6, .ref dy), (7, .ref dz), (9, .ref ot), (5, .ref dx), (2, .int (nI qi)), (1, .int (nI ri)), (3, .int (nI n)), (8, .ref ks), (0, .ref b)]) hx hb dL_law_297 hl (k := 0) rfl (nI_1 j) (by decide) rfl (fun ls hl => ?_)
          refine lv_goto (tgt := 263) hx hb dL_law_300 (by decide) ?_
          exact ih (j + 1) (upd go j a) u u2 H locs ls (cells + 1 + 1) (slots + 129 + 129) (by omega) (lt_s (p := fun t => S[t]? = some (upd go j a t)) (fun t ht => by have ht : t < j := ht; rw [pk_un (by omega)]; exact hgo t ht) (by rw [pk_us]; exact eg)) hDx2 hDy2 (by omega) (by omega) hP hD hS (lv_sub hl [0, 1, 2, 3, 4, 5, 6, 7, 8, 9, 10] rfl)
        · exact absurd e2.symm c3
  exact loop t 0 go wx wy H locs ls 3000 300000 (Nat.zero_add t) (fun u hu => absurd hu (Nat.not_lt_zero u)) hDx hDy (by omega) (by omega) hP hD hS (lv_sub hl [0, 1, 2, 3, 4, 5, 6, 7, 8, 9, 10] rfl)
set_option maxHeartbeats 4000000 in
set_option maxRecDepth 100000 in
/-- another heap of x is empty -/
theorem lg_D {p : Program} {l : Launch} {e : Env} {s : State} {m : MethodId} {below : List Frame} {meth : Method} {c : Code} {b L : Nat} {xs : Nat → Int32} {G : gT} {A : Nat → Prop} (X : LC p s m meth c b L xs G A) (ri qi n dx ks dy dz ot : Nat) (gk go : Nat → Int32) (S : List Int32) (wx wy wz : va_W) (hri : ri < 4) (hqi : qi < 4) (hrq : ri ≠ qi) (hn : n ≤ 24) (hSl : S.length = n) (hSm : ∀ a ∈ S, a &&& 65535 = a) (hSp : S.Perm ((List.range n).map gk)) (hDx : Dk G dx n (va_up (fun _ => []) ri (S)) wx) (hDy : Dk G dy n (va_up (fun _ => []) ri (S)) wy) (hDz : Dk G dz 0 (fun _ => []) wz) (H : Heap) (locs : List Loc) (ls : Array Slot) (hP : va_P G.1 clz (ia_ G ks gk :: ia_ G ot go :: (wx ++ (wy ++ wz))) H) (hD : va_D A (ia_ G ks gk :: ia_ G ot go :: (wx ++ (wy ++ wz)))) (hS : va_S A s.heap H locs) (hl : lv_has ls 13 [(6, .ref dy), (7, .ref dz), (9, .ref ot), (5, .ref dx), (2, .int (nI qi)), (1, .int (nI ri)), (3, .int (nI n)), (8, .ref ks), (0, .ref b)]) : W p l e room_1 s m #[Value.ref b] below meth c H locs 2000 200000 (lw_Z below #[Value.ref b] s) (F0 m 225 ls []) := by
  obtain ⟨hx, hb, hr, hlocks, hml, hown, hts, hX, hbA, hbl, hL, hE, hA, hA2⟩ := id X
  refine lv_aload hx hb dL_law_225 (lv_at hl 3 rfl) ?_
  refine lv_iload_n hx hb dL_law_227 rfl (lv_at hl 4 rfl) ?_
  have hc := cut_ (wc := wx) (wr := (ia_ G ks gk :: ia_ G ot go :: (wy ++ wz))) hE hP hD hS hA (pm_3 (a := [ia_ G ks gk, ia_ G ot go]) (b := wx) (c := wy ++ wz))
  refine vp_callSi (va_Run.run (va_runV (As := [.int (nI qi)]) (rest := []) ⟨hx, hb, hml, hown, hts⟩ (mX1_isEmpty l G dx n _ qi (va_up (fun _ => []) ri (S)) wx (nI qi) hqi (an3 hqi) hDx) (cwV 1 hts (lw_V q378 q379 q380 q3 q381) rfl rfl rfl (by decide +kernel) ⟨Nat.le_of_ble_eq_true rfl, Nat.le_of_ble_eq_true rfl⟩) (Pw.preV hc no_bx (hDx.recv hc.1 hE.1)) rfl rfl hl.1 rfl (lv_room (Nat.le_of_ble_eq_true rfl)) dL_law_228 ⟨Nat.le_of_ble_eq_true rfl, Nat.le_of_ble_eq_true rfl⟩)) (fun x1 e_x1 => ?_)
  have eq0 : (va_up (fun _ => []) ri (S)) qi = [] := va_up_ne _ _ (Ne.symm hrq)
  have e1 : x1 = 1 := by rw [e_x1, eq0]; rfl
  refine lv_if_eq (tgt := 244) hx hb dL_law_231 (by decide) (fun c1 => ?_) (fun c1 => ?_)
  · exact absurd (e1.symm.trans c1) (by decide)
  · refine lv_aload hx hb dL_law_234 (lv_at hl 3 rfl) ?_
    refine lv_iload_n hx hb dL_law_236 rfl (lv_at hl 4 rfl) ?_
    have hc := cut_ (wc := wx) (wr := (ia_ G ks gk :: ia_ G ot go :: (wy ++ wz))) hE hP hD hS hA (pm_3 (a := [ia_ G ks gk, ia_ G ot go]) (b := wx) (c := wy ++ wz))
    refine vp_callSi (va_Run.run (va_runV (As := [.int (nI qi)]) (rest := []) ⟨hx, hb, hml, hown, hts⟩ (mX1_least l G dx n _ qi (va_up (fun _ => []) ri (S)) wx (nI qi) hqi (an3 hqi) hDx) (cwV 1 hts (lw_V q313 q314 q315 q3 q316) rfl rfl rfl (by decide +kernel) ⟨Nat.le_of_ble_eq_true rfl, Nat.le_of_ble_eq_true rfl⟩) (Pw.preV hc no_bx (hDx.recv hc.1 hE.1)) rfl rfl hl.1 rfl (lv_room (Nat.le_of_ble_eq_true rfl)) dL_law_237 ⟨Nat.le_of_ble_eq_true rfl, Nat.le_of_ble_eq_true rfl⟩)) (fun x2 e_x2 => ?_)
    have e2 : x2 = -1 := by rw [e_x2, eq0]; rfl
    refine lv_iconst (v := (-1)) hx hb dL_law_240 (by decide) ?_
    refine lv_icmp_eq (tgt := 246) hx hb dL_law_241 (by decide) (fun c2 => ?_) (fun c2 => ?_)
    · refine lv_aload_n hx hb dL_law_246 rfl (lv_at hl 8 rfl) ?_
      refine lv_iconst (v := 3) hx hb dL_law_247 (by decide) ?_
      refine lt_i (y := nI (3)) rfl ?_
      refine vp_callSi (va_Run.run (va_runS (As := [.ref b, .int (nI (3))]) (rest := []) ⟨hx, hb, hml, hown, hts⟩ (mX0_at l b L (3) xs hL (by omega)) (va_cwS 2 hts (lw_S q396 q397 q2 q398) rfl rfl rfl (by decide +kernel) ⟨Nat.le_of_ble_eq_true rfl, Nat.le_of_ble_eq_true rfl⟩) (Px.pre (hX.kept (hS.2.1 b hbl hbA))) rfl rfl hl.1 rfl (lv_room (Nat.le_of_ble_eq_true rfl)) dL_law_248 ⟨Nat.le_of_ble_eq_true rfl, Nat.le_of_ble_eq_true rfl⟩)) (fun v9 e_v9 => ?_)
      subst e_v9
      refine lv_ldc (v := 2147483647) hx hb hown (hts _ q406) dL_law_251 ?_
      refine lv_iand hx hb dL_law_253 ?_
      obtain ⟨u, hu, eu⟩ := and31 (at_ L xs 3)
      refine lt_i (y := nI u) (eu) ?_
      refine lv_iload_n hx hb dL_law_254 rfl (lv_at hl 6 rfl) ?_
      refine lv_iconst (v := 1) hx hb dL_law_255 (by decide) ?_
      refine lv_iadd hx hb dL_law_256 ?_
      refine lt_i (y := nI (n + 1)) (nI_1 n) ?_
      refine lv_irem hx hb dL_law_257 (nI_ne0 (by omega) (by omega)) ?_
      refine lt_i (y := nI (u % (n + 1))) (rem_n (by omega) (by omega) (by omega) rfl) ?_
      refine lv_istore (lv' := [(10, .int (nI (u % (n + 1)))), (6, .ref dy), (7, .ref dz), (9, .ref ot), (5, .ref dx), (2, .int (nI qi)), (1, .int (nI ri)), (3, .int (nI n)), (8, .ref ks), (0, .ref b)]) hx hb dL_law_258 hl (by decide) rfl (fun ls hl => ?_)
      refine W.widen (k := 3000) (n := 300000) (Nat.le_of_ble_eq_true rfl) (Nat.le_of_ble_eq_true rfl) ?_
      have hmod := Nat.mod_lt u (show 0 < n + 1 by omega)
      exact lg_E X ri qi n dx ks dy dz ot (u % (n + 1)) gk go S wx wy wz hri hqi hrq hn hSl hSm hSp (by omega) hDx hDy hDz _ _ ls hP hD hS (lv_sub hl [0, 1, 2, 3, 4, 5, 6, 7, 8, 9] rfl)
    · exact absurd e2 c2
set_option maxHeartbeats 4000000 in
set_option maxRecDepth 100000 in
/-- the same keys the other way round -/
theorem lg_C {p : Program} {l : Launch} {e : Env} {s : State} {m : MethodId} {below : List Frame} {meth : Method} {c : Code} {b L : Nat} {xs : Nat → Int32} {G : gT} {A : Nat → Prop} (X : LC p s m meth c b L xs G A) (ri qi n dx ks dy dz ot : Nat) (gk go : Nat → Int32) (Cx : List Int32) (wx wy wz : va_W) (hri : ri < 4) (hqi : qi < 4) (hrq : ri ≠ qi) (hn : n ≤ 24) (hgk : ∀ j, j < n → gk j = kk_ L xs j) (hpx : Cx.Perm ((List.range n).map (kk_ L xs))) (hDx : Dk G dx n (va_up (fun _ => []) ri (Cx)) wx) (hDy : Dk G dy 0 (fun _ => []) wy) (hDz : Dk G dz 0 (fun _ => []) wz) (H : Heap) (locs : List Loc) (ls : Array Slot) (hP : va_P G.1 clz (ia_ G ks gk :: ia_ G ot go :: (wx ++ (wy ++ wz))) H) (hD : va_D A (ia_ G ks gk :: ia_ G ot go :: (wx ++ (wy ++ wz)))) (hS : va_S A s.heap H locs) (hl : lv_has ls 13 [(6, .ref dy), (7, .ref dz), (9, .ref ot), (5, .ref dx), (2, .int (nI qi)), (1, .int (nI ri)), (3, .int (nI n)), (8, .ref ks), (0, .ref b)]) : W p l e room_1 s m #[Value.ref b] below meth c H locs 1000 100000 (lw_Z below #[Value.ref b] s) (F0 m 189 ls []) := by
  obtain ⟨hx, hb, hr, hlocks, hml, hown, hts, hX, hbA, hbl, hL, hE, hA, hA2⟩ := id X
  refine lv_iload_n hx hb dL_law_189 rfl (lv_at hl 6 rfl) ?_
  refine lv_iconst (v := 1) hx hb dL_law_190 (by decide) ?_
  refine lv_isub hx hb dL_law_191 ?_
  refine lt_i (y := pm_ n) (pm_of n) ?_
  refine lv_istore (lv' := [(10, .int (pm_ n)), (6, .ref dy), (7, .ref dz), (9, .ref ot), (5, .ref dx), (2, .int (nI qi)), (1, .int (nI ri)), (3, .int (nI n)), (8, .ref ks), (0, .ref b)]) hx hb dL_law_192 hl (by decide) rfl (fun ls hl => ?_)
  have loop : ∀ (j : Nat) (Cy : List Int32) (wy : va_W) (H : Heap) (locs : List Loc) (ls : Array Slot) (cells slots : Nat), j ≤ n → Dk G dy (n - j) (va_up (fun _ => []) ri (Cy)) wy → Cy.Perm (((List.range n).drop j).map (kk_ L xs)) → cells + 2 * j ≤ 2000 → slots + 130 * j ≤ 200000 → va_P G.1 clz (ia_ G ks gk :: ia_ G ot go :: (wx ++ (wy ++ wz))) H → va_D A (ia_ G ks gk :: ia_ G ot go :: (wx ++ (wy ++ wz))) → va_S A s.heap H locs → lv_has ls 13 [(10, .int (pm_ j)), (6, .ref dy), (7, .ref dz), (9, .ref ot), (5, .ref dx), (2, .int (nI qi)), (1, .int (nI ri)), (3, .int (nI n)), (8, .ref ks), (0, .ref b)] → W p l e room_1 s m #[Value.ref b] below meth c H locs cells slots (lw_Z below #[Value.ref b] s) (F0 m 194 ls []) := by
    intro j
    induction j with
    | zero =>
      intro Cy wy H locs ls cells slots hj hDy hpy hce hsl hP hD hS hl
      refine lv_iload hx hb dL_law_194 (lv_at hl 0 rfl) ?_
      refine lv_if_lt (tgt := 225) hx hb dL_law_196 (by decide) (fun c1 => ?_) (fun c1 => ?_)
      · refine W.widen (k := 2000) (n := 200000) (by omega) (by omega) ?_
        rw [List.drop_zero] at hpy
        have hcx := hDx.so hri
        have hcy := hDy.so hri
        rw [va_up_self] at hcx hcy
        have exy : Cy = Cx := so_uniq hcy hcx (hpy.trans hpx.symm)
        subst exy
        have hlen : Cy.length = n := by rw [hpy.length_eq, List.length_map, List.length_range]
        have hmask : ∀ a ∈ Cy, a &&& 65535 = a := by
          intro a ha
          obtain ⟨i9, -, e9⟩ := List.mem_map.mp (hpy.mem_iff.mp ha)
          rw [← e9]
          exact mask2 _
        exact lg_D X ri qi n dx ks dy dz ot gk go Cy wx wy wz hri hqi hrq hn hlen hmask (by rw [rg_congr hgk]; exact hpy) hDx hDy hDz H locs ls hP hD hS (lv_sub hl [1, 2, 3, 4, 5, 6, 7, 8, 9] rfl)
      · exact absurd (show pm_ 0 < 0 by decide) c1
    | succ j ih =>
      intro Cy wy H locs ls cells slots hj hDy hpy hce hsl hP hD hS hl
      refine lv_iload hx hb dL_law_194 (lv_at hl 0 rfl) ?_
      refine lv_if_lt (tgt := 225) hx hb dL_law_196 (by decide) (fun c1 => ?_) (fun c1 => ?_)
      · exact absurd c1 (nI_pos (by omega))
      · refine lv_aload hx hb dL_law_199 (lv_at hl 1 rfl) ?_
        refine lv_iload_n hx hb dL_law_201 rfl (lv_at hl 6 rfl) ?_
        refine lv_aload_n hx hb dL_law_202 rfl (lv_at hl 9 rfl) ?_
        refine lv_bipush (v := 8) hx hb dL_law_203 (by decide) ?_
        refine lv_iload hx hb dL_law_205 (lv_at hl 0 rfl) ?_
        refine lv_iadd hx hb dL_law_207 ?_
        refine lt_i (y := nI (8 + j)) (nI_add 8 j) ?_
        refine vp_callSi (va_Run.run (va_runS (As := [.ref b, .int (nI (8 + j))]) (rest := [.int (nI ri), .ref dy]) ⟨hx, hb, hml, hown, hts⟩ (mX0_at l b L (8 + j) xs hL (by omega)) (va_cwS 2 hts (lw_S q396 q397 q2 q398) rfl rfl rfl (by decide +kernel) ⟨Nat.le_of_ble_eq_true rfl, Nat.le_of_ble_eq_true rfl⟩) (Px.pre (hX.kept (hS.2.1 b hbl hbA))) rfl rfl hl.1 rfl (lv_room (Nat.le_of_ble_eq_true rfl)) dL_law_208 ⟨by show cells + 0 ≤ 1200110; omega, by show slots + 0 ≤ 5501260; omega⟩)) (fun v9 e_v9 => ?_)
        subst e_v9
        have hc := cut_ (wc := wy) (wr := (ia_ G ks gk :: ia_ G ot go :: (wx ++ wz))) hE hP hD hS hA (pm_2 (a := [ia_ G ks gk, ia_ G ot go]) (b := wx) (c := wy) (d := wz))
        refine ci_ (va_runV (As := [.int (nI ri), .int (at_ L xs (8 + j))]) (rest := []) ⟨hx, hb, hml, hown, hts⟩ (mX1_put l G dy (n - (j + 1)) _ ri (va_up (fun _ => []) ri (Cy)) wy (nI ri) (at_ L xs (8 + j)) hri (an3 hri) (by omega) hDy) (cwV 2 hts (lw_V q182 q183 q184 q3 q185) rfl rfl rfl (by decide +kernel) ⟨Nat.le_of_ble_eq_true rfl, Nat.le_of_ble_eq_true rfl⟩) (Pw.preV hc no_bx (hDy.recv hc.1 hE.1)) rfl rfl hl.1 rfl (lv_room (Nat.le_of_ble_eq_true rfl)) dL_law_211 ⟨by show cells + 2 ≤ 1200110; omega, by show slots + 130 ≤ 5501260; omega⟩) hP hD hS hc (pm_2 (a := [ia_ G ks gk, ia_ G ot go]) (b := wx) (c := wy) (d := wz)) (fun x1 u H locs hq hP hD hS => ?_)
        have hP := wP_perm hP (pm_2 (a := [ia_ G ks gk, ia_ G ot go]) (b := wx) (c := u) (d := wz)).symm
        have hD := wD_perm hD (pm_2 (a := [ia_ G ks gk, ia_ G ot go]) (b := wx) (c := u) (d := wz)).symm
        have hP : va_P G.1 clz (ia_ G ks gk :: ia_ G ot go :: (wx ++ (u ++ wz))) _ := hP
        have hD : va_D A (ia_ G ks gk :: ia_ G ot go :: (wx ++ (u ++ wz))) := hD
        obtain ⟨e_x1, Ci, hDk2, hpm2⟩ := hq
        rw [va_up_self] at hpm2
        rw [bx_uu] at hDk2
        refine lv_if_ne (tgt := 219) hx hb dL_law_214 (by decide) (fun c3 => ?_) (fun c3 => ?_)
        · refine lv_iinc (v := pm_ j) (lv' := [(10, .int (pm_ j)), (6, .ref dy), (7, .ref dz), (9, .ref ot), (5, .ref dx), (2, .int (nI qi)), (1, .int (nI ri)), (3, .int (nI n)), (8, .ref ks), (0, .ref b)]) hx hb dL_law_219 hl (k := 0) rfl (pm_dn j) (by decide) rfl (fun ls hl => ?_)
          refine lv_goto (tgt := 194) hx hb dL_law_222 (by decide) ?_
          exact ih Ci u H locs ls (cells + 2) (slots + 130) (by omega) (by rw [show n - j = n - (j + 1) + 1 by omega]; exact hDk2) (rg_drop (f := kk_ L xs) (by omega) hpy hpm2) (by omega) (by omega) hP hD hS (lv_sub hl [0, 1, 2, 3, 4, 5, 6, 7, 8, 9] rfl)
        · exact absurd (e_x1.symm.trans c3) (by decide)
  exact loop n [] wy H locs ls 1000 100000 (Nat.le_refl n) (by rw [Nat.sub_self, show va_up (fun _ => ([] : List Int32)) ri [] = (fun _ => []) from up_id (C := fun _ => [])]; exact hDy) (by rw [List.drop_eq_nil_of_le (by rw [List.length_range]; omega)]; exact List.Perm.refl _) (by omega) (by omega) hP hD hS (lv_sub hl [0, 1, 2, 3, 4, 5, 6, 7, 8, 9] rfl)
set_option maxHeartbeats 4000000 in
set_option maxRecDepth 100000 in
/-- keys one by one into x -/
theorem lg_B {p : Program} {l : Launch} {e : Env} {s : State} {m : MethodId} {below : List Frame} {meth : Method} {c : Code} {b L : Nat} {xs : Nat → Int32} {G : gT} {A : Nat → Prop} (X : LC p s m meth c b L xs G A) (ri qi n dx ks dy dz ot : Nat) (gk go : Nat → Int32) (wx wy wz : va_W) (hri : ri < 4) (hqi : qi < 4) (hrq : ri ≠ qi) (hn : n ≤ 24) (hDx : Dk G dx 0 (fun _ => []) wx) (hDy : Dk G dy 0 (fun _ => []) wy) (hDz : Dk G dz 0 (fun _ => []) wz) (H : Heap) (locs : List Loc) (ls : Array Slot) (hP : va_P G.1 clz (ia_ G ks gk :: ia_ G ot go :: (wx ++ (wy ++ wz))) H) (hD : va_D A (ia_ G ks gk :: ia_ G ot go :: (wx ++ (wy ++ wz)))) (hS : va_S A s.heap H locs) (hl : lv_has ls 13 [(6, .ref dy), (7, .ref dz), (9, .ref ot), (5, .ref dx), (2, .int (nI qi)), (1, .int (nI ri)), (3, .int (nI n)), (8, .ref ks), (0, .ref b)]) : W p l e room_1 s m #[Value.ref b] below meth c H locs 100 10000 (lw_Z below #[Value.ref b] s) (F0 m 79 ls []) := by
  obtain ⟨hx, hb, hr, hlocks, hml, hown, hts, hX, hbA, hbl, hL, hE, hA, hA2⟩ := id X
  refine lv_iconst (v := 0) hx hb dL_law_79 (by decide) ?_
  refine lt_i (y := nI 0) (nI_0.symm) ?_
  refine lv_istore (lv' := [(10, .int (nI 0)), (6, .ref dy), (7, .ref dz), (9, .ref ot), (5, .ref dx), (2, .int (nI qi)), (1, .int (nI ri)), (3, .int (nI n)), (8, .ref ks), (0, .ref b)]) hx hb dL_law_80 hl (by decide) rfl (fun ls hl => ?_)
  have loop : ∀ (M j : Nat) (gk : Nat → Int32) (Cx : List Int32) (wx : va_W) (H : Heap) (locs : List Loc) (ls : Array Slot) (cells slots : Nat), j + M = n → (∀ u, u < j → gk u = kk_ L xs u) → Dk G dx j (va_up (fun _ => []) ri (Cx)) wx → Cx.Perm ((List.range j).map (kk_ L xs)) → cells + 2 * M ≤ 1000 → slots + 130 * M ≤ 100000 → va_P G.1 clz (ia_ G ks gk :: ia_ G ot go :: (wx ++ (wy ++ wz))) H → va_D A (ia_ G ks gk :: ia_ G ot go :: (wx ++ (wy ++ wz))) → va_S A s.heap H locs → lv_has ls 13 [(10, .int (nI j)), (6, .ref dy), (7, .ref dz), (9, .ref ot), (5, .ref dx), (2, .int (nI qi)), (1, .int (nI ri)), (3, .int (nI n)), (8, .ref ks), (0, .ref b)] → W p l e room_1 s m #[Value.ref b] below meth c H locs cells slots (lw_Z below #[Value.ref b] s) (F0 m 82 ls []) := by
    intro M
    induction M with
    | zero =>
      intro j gk Cx wx H locs ls cells slots hj hgk hDx hpx hce hsl hP hD hS hl
      refine lv_iload hx hb dL_law_82 (lv_at hl 0 rfl) ?_
      refine lv_iload_n hx hb dL_law_84 rfl (lv_at hl 7 rfl) ?_
      refine lv_icmp_ge (tgt := 189) hx hb dL_law_85 (by decide) (fun c1 => ?_) (fun c1 => ?_)
      · have e4 : j = n := by omega
        subst e4
        refine W.widen (k := 1000) (n := 100000) (by omega) (by omega) ?_
        exact lg_C X ri qi j dx ks dy dz ot gk go Cx wx wy wz hri hqi hrq hn hgk hpx hDx hDy hDz H locs ls hP hD hS (lv_sub hl [1, 2, 3, 4, 5, 6, 7, 8, 9] rfl)
      · exact absurd (nI_le (by omega) (by omega)) c1
    | succ M ih =>
      intro j gk Cx wx H locs ls cells slots hj hgk hDx hpx hce hsl hP hD hS hl
      refine lv_iload hx hb dL_law_82 (lv_at hl 0 rfl) ?_
      refine lv_iload_n hx hb dL_law_84 rfl (lv_at hl 7 rfl) ?_
      refine lv_icmp_ge (tgt := 189) hx hb dL_law_85 (by decide) (fun c1 => ?_) (fun c1 => ?_)
      · exact absurd ((nI_leI (by omega) (by omega)).mp c1) (by omega)
      · refine lv_aload_n hx hb dL_law_88 rfl (lv_at hl 9 rfl) ?_
        refine lv_bipush (v := 8) hx hb dL_law_89 (by decide) ?_
        refine lv_iload hx hb dL_law_91 (lv_at hl 0 rfl) ?_
        refine lv_iadd hx hb dL_law_93 ?_
        refine lt_i (y := nI (8 + j)) (nI_add 8 j) ?_
        refine vp_callSi (va_Run.run (va_runS (As := [.ref b, .int (nI (8 + j))]) (rest := []) ⟨hx, hb, hml, hown, hts⟩ (mX0_at l b L (8 + j) xs hL (by omega)) (va_cwS 2 hts (lw_S q396 q397 q2 q398) rfl rfl rfl (by decide +kernel) ⟨Nat.le_of_ble_eq_true rfl, Nat.le_of_ble_eq_true rfl⟩) (Px.pre (hX.kept (hS.2.1 b hbl hbA))) rfl rfl hl.1 rfl (lv_room (Nat.le_of_ble_eq_true rfl)) dL_law_94 ⟨by show cells + 0 ≤ 1200110; omega, by show slots + 0 ≤ 5501260; omega⟩)) (fun v9 e_v9 => ?_)
        subst e_v9
        refine lv_istore (lv' := [(11, .int (at_ L xs (8 + j))), (10, .int (nI j)), (6, .ref dy), (7, .ref dz), (9, .ref ot), (5, .ref dx), (2, .int (nI qi)), (1, .int (nI ri)), (3, .int (nI n)), (8, .ref ks), (0, .ref b)]) hx hb dL_law_97 hl (by decide) rfl (fun ls hl => ?_)
        refine lv_aload hx hb dL_law_99 (lv_at hl 5 rfl) ?_
        refine lv_iload_n hx hb dL_law_101 rfl (lv_at hl 7 rfl) ?_
        have hc := cut_ (wc := wx) (wr := (ia_ G ks gk :: ia_ G ot go :: (wy ++ wz))) hE hP hD hS hA (pm_3 (a := [ia_ G ks gk, ia_ G ot go]) (b := wx) (c := wy ++ wz))
        refine vp_callSi (va_Run.run (va_runV (As := [.int (nI ri)]) (rest := []) ⟨hx, hb, hml, hown, hts⟩ (mX1_least l G dx j _ ri (va_up (fun _ => []) ri (Cx)) wx (nI ri) hri (an3 hri) hDx) (cwV 1 hts (lw_V q313 q314 q315 q3 q316) rfl rfl rfl (by decide +kernel) ⟨Nat.le_of_ble_eq_true rfl, Nat.le_of_ble_eq_true rfl⟩) (Pw.preV hc no_bx (hDx.recv hc.1 hE.1)) rfl rfl hl.1 rfl (lv_room (Nat.le_of_ble_eq_true rfl)) dL_law_102 ⟨by show cells + 0 ≤ 1200110; omega, by show slots + 0 ≤ 5501260; omega⟩)) (fun x0 e_x0 => ?_)
        refine lt_i (y := (Cx.headD (-1))) (by rw [e_x0, va_up_self]) ?_
        refine lv_istore (lv' := [(12, .int (Cx.headD (-1))), (11, .int (at_ L xs (8 + j))), (10, .int (nI j)), (6, .ref dy), (7, .ref dz), (9, .ref ot), (5, .ref dx), (2, .int (nI qi)), (1, .int (nI ri)), (3, .int (nI n)), (8, .ref ks), (0, .ref b)]) hx hb dL_law_105 hl (by decide) rfl (fun ls hl => ?_)
        refine lv_aload hx hb dL_law_107 (lv_at hl 6 rfl) ?_
        refine lv_iload_n hx hb dL_law_109 rfl (lv_at hl 8 rfl) ?_
        refine lv_iload hx hb dL_law_110 (lv_at hl 1 rfl) ?_
        have hc := cut_ (wc := wx) (wr := (ia_ G ks gk :: ia_ G ot go :: (wy ++ wz))) hE hP hD hS hA (pm_3 (a := [ia_ G ks gk, ia_ G ot go]) (b := wx) (c := wy ++ wz))
        refine ci_ (va_runV (As := [.int (nI ri), .int (at_ L xs (8 + j))]) (rest := []) ⟨hx, hb, hml, hown, hts⟩ (mX1_put l G dx j _ ri (va_up (fun _ => []) ri (Cx)) wx (nI ri) (at_ L xs (8 + j)) hri (an3 hri) (by omega) hDx) (cwV 2 hts (lw_V q182 q183 q184 q3 q185) rfl rfl rfl (by decide +kernel) ⟨Nat.le_of_ble_eq_true rfl, Nat.le_of_ble_eq_true rfl⟩) (Pw.preV hc no_bx (hDx.recv hc.1 hE.1)) rfl rfl hl.1 rfl (lv_room (Nat.le_of_ble_eq_true rfl)) dL_law_112 ⟨by show cells + 2 ≤ 1200110; omega, by show slots + 130 ≤ 5501260; omega⟩) hP hD hS hc (pm_3 (a := [ia_ G ks gk, ia_ G ot go]) (b := wx) (c := wy ++ wz)) (fun x1 u H locs hq hP hD hS => ?_)
        have hP := wP_perm hP (pm_3 (a := u) (b := [ia_ G ks gk, ia_ G ot go]) (c := wy ++ wz))
        have hD := wD_perm hD (pm_3 (a := u) (b := [ia_ G ks gk, ia_ G ot go]) (c := wy ++ wz))
        have hP : va_P G.1 clz (ia_ G ks gk :: ia_ G ot go :: (u ++ (wy ++ wz))) _ := hP
        have hD : va_D A (ia_ G ks gk :: ia_ G ot go :: (u ++ (wy ++ wz))) := hD
        obtain ⟨e_x1, Ci, hDk2, hpm2⟩ := hq
        rw [va_up_self] at hpm2
        rw [bx_uu] at hDk2
        have hpx2 := rg_succ (f := kk_ L xs) hpx hpm2
        have hci := hDk2.so hri
        have hcx := hDx.so hri
        rw [va_up_self] at hci hcx
        obtain ⟨hi1, hi2⟩ := so_ins hci hcx hpm2
        refine lv_if_eq (tgt := 131) hx hb dL_law_115 (by decide) (fun c3 => ?_) (fun c3 => ?_)
        · exact absurd (e_x1.symm.trans c3) (by decide)
        · refine lv_aload hx hb dL_law_118 (lv_at hl 6 rfl) ?_
          refine lv_iload_n hx hb dL_law_120 rfl (lv_at hl 8 rfl) ?_
          have hc := cut_ (wc := u) (wr := (ia_ G ks gk :: ia_ G ot go :: (wy ++ wz))) hE hP hD hS hA (pm_3 (a := [ia_ G ks gk, ia_ G ot go]) (b := u) (c := wy ++ wz))
          refine vp_callSi (va_Run.run (va_runV (As := [.int (nI ri)]) (rest := []) ⟨hx, hb, hml, hown, hts⟩ (mX1_size l G dx (j + 1) _ ri (va_up (fun _ => []) ri (Ci)) u (nI ri) hri (an3 hri) hDk2) (cwV 1 hts (lw_V q368 q369 q370 q3 q371) rfl rfl rfl (by decide +kernel) ⟨Nat.le_of_ble_eq_true rfl, Nat.le_of_ble_eq_true rfl⟩) (Pw.preV hc no_bx (hDk2.recv hc.1 hE.1)) rfl rfl hl.1 rfl (lv_room (Nat.le_of_ble_eq_true rfl)) dL_law_121 ⟨by show cells + 2 ≤ 1200110; omega, by show slots + 130 ≤ 5501260; omega⟩)) (fun x2 e_x2 => ?_)
          have e2 : x2 = nI (j + 1) := by rw [e_x2, va_up_self, hpx2.length_eq, List.length_map, List.length_range]
          refine lv_iload hx hb dL_law_124 (lv_at hl 2 rfl) ?_
          refine lv_iconst (v := 1) hx hb dL_law_126 (by decide) ?_
          refine lv_iadd hx hb dL_law_127 ?_
          refine lt_i (y := nI (j + 1)) (nI_1 j) ?_
          refine lv_icmp_eq (tgt := 133) hx hb dL_law_128 (by decide) (fun c4 => ?_) (fun c4 => ?_)
          · refine lv_aload hx hb dL_law_133 (lv_at hl 10 rfl) ?_
            refine lv_iload hx hb dL_law_135 (lv_at hl 2 rfl) ?_
            refine lv_iload hx hb dL_law_137 (lv_at hl 1 rfl) ?_
            refine lv_ldc (v := 65535) hx hb hown (hts _ q407) dL_law_139 ?_
            refine lv_iand hx hb dL_law_141 ?_
            refine lt_i (y := kk_ L xs j) rfl ?_
            refine va_iast hx hb hE.1 hP hD hS 0 3 rfl rfl (vp_in_nI (n := j) (by omega) (by omega)) dL_law_142 (fun H locs hP hD hS => ?_)
            rw [nI_clamp (by omega)] at hP hD
            have hP : va_P G.1 clz (ia_ G ks (upd gk j (kk_ L xs j)) :: ia_ G ot go :: (u ++ (wy ++ wz))) _ := hP
            have hD : va_D A (ia_ G ks (upd gk j (kk_ L xs j)) :: ia_ G ot go :: (u ++ (wy ++ wz))) := hD
            refine lv_aload hx hb dL_law_143 (lv_at hl 6 rfl) ?_
            refine lv_iload_n hx hb dL_law_145 rfl (lv_at hl 8 rfl) ?_
            have hc := cut_ (wc := u) (wr := (ia_ G ks (upd gk j (kk_ L xs j)) :: ia_ G ot go :: (wy ++ wz))) hE hP hD hS hA (pm_3 (a := [ia_ G ks (upd gk j (kk_ L xs j)), ia_ G ot go]) (b := u) (c := wy ++ wz))
            refine vp_callSi (va_Run.run (va_runV (As := [.int (nI ri)]) (rest := []) ⟨hx, hb, hml, hown, hts⟩ (mX1_least l G dx (j + 1) _ ri (va_up (fun _ => []) ri (Ci)) u (nI ri) hri (an3 hri) hDk2) (cwV 1 hts (lw_V q313 q314 q315 q3 q316) rfl rfl rfl (by decide +kernel) ⟨Nat.le_of_ble_eq_true rfl, Nat.le_of_ble_eq_true rfl⟩) (Pw.preV hc no_bx (hDk2.recv hc.1 hE.1)) rfl rfl hl.1 rfl (lv_room (Nat.le_of_ble_eq_true rfl)) dL_law_146 ⟨by show cells + 2 ≤ 1200110; omega, by show slots + 130 ≤ 5501260; omega⟩)) (fun x3 e_x3 => ?_)
            refine lt_i (y := (Ci.headD (-1))) (by rw [e_x3, va_up_self]) ?_
            have on : ∀ (z : Int32) (ls : Array Slot), Ci.headD (-1) = z → lv_has ls 13 [(12, .int (Cx.headD (-1))), (11, .int (at_ L xs (8 + j))), (10, .int (nI j)), (6, .ref dy), (7, .ref dz), (9, .ref ot), (5, .ref dx), (2, .int (nI qi)), (1, .int (nI ri)), (3, .int (nI n)), (8, .ref ks), (0, .ref b)] → W p l e room_1 s m #[Value.ref b] below meth c H locs (cells + 2) (slots + 130) (lw_Z below #[Value.ref b] s) (F0 m 178 ls [.int z, .int (Ci.headD (-1))]) := by
              intro z ls hz hl
              refine lv_icmp_eq (tgt := 183) hx hb dL_law_178 (by decide) (fun c5 => ?_) (fun c5 => ?_)
              · refine lv_iinc (v := nI (j + 1)) (lv' := [(10, .int (nI (j + 1))), (12, .int (Cx.headD (-1))), (11, .int (at_ L xs (8 + j))), (6, .ref dy), (7, .ref dz), (9, .ref ot), (5, .ref dx), (2, .int (nI qi)), (1, .int (nI ri)), (3, .int (nI n)), (8, .ref ks), (0, .ref b)]) hx hb dL_law_183 hl (k := 2) rfl (nI_1 j) (by decide) rfl (fun ls hl => ?_)
                refine lv_goto (tgt := 82) hx hb dL_law_186 (by decide) ?_
                exact ih (j + 1) (upd gk j (kk_ L xs j)) Ci u H locs ls (cells + 2) (slots + 130) (by omega) (lt_s (p := fun t => upd gk j (kk_ L xs j) t = kk_ L xs t) (fun t ht => by have ht : t < j := ht; rw [pk_un (by omega)]; exact hgk t ht) pk_us) hDk2 hpx2 (by omega) (by omega) hP hD hS (lv_sub hl [0, 3, 4, 5, 6, 7, 8, 9, 10, 11] rfl)
              · exact absurd hz c5
            refine lv_iload hx hb dL_law_149 (lv_at hl 2 rfl) ?_
            refine lv_if_eq (tgt := 168) hx hb dL_law_151 (by decide) (fun c6 => ?_) (fun c6 => ?_)
            · refine lv_aload hx hb dL_law_168 (lv_at hl 10 rfl) ?_
              refine lv_iload hx hb dL_law_170 (lv_at hl 2 rfl) ?_
              refine va_iald hx hb hE.1 hP 0 3 rfl rfl (vp_in_nI (n := j) (by omega) (by omega)) dL_law_172 ?_
              refine lt_i (y := kk_ L xs j) (by rw [nI_clamp (by omega), pk_us]) ?_
              refine lv_goto (tgt := 178) hx hb dL_law_173 (by decide) ?_
              exact on (kk_ L xs j) ls (hi1 (List.eq_nil_of_length_eq_zero (by rw [hpx.length_eq, List.length_map, List.length_range]; exact (z_iff (by omega)).mp c6))) hl
            · have hj1 : 1 ≤ j := Nat.pos_of_ne_zero (fun h9 => c6 ((z_iff (by omega)).mpr h9))
              obtain ⟨a, t9, eC⟩ : ∃ a t9, Cx = a :: t9 := by
                cases Cx with
                | nil => exact absurd hpx.length_eq (by rw [List.length_map, List.length_range, List.length_nil]; omega)
                | cons a t9 => exact ⟨a, t9, rfl⟩
              have ha : Cx.headD (-1) = a := by rw [eC]; rfl
              refine lv_iload_n hx hb dL_law_154 rfl (lv_at hl 8 rfl) ?_
              refine lv_aload hx hb dL_law_155 (lv_at hl 10 rfl) ?_
              refine lv_iload hx hb dL_law_157 (lv_at hl 2 rfl) ?_
              refine va_iald hx hb hE.1 hP 0 3 rfl rfl (vp_in_nI (n := j) (by omega) (by omega)) dL_law_159 ?_
              refine lt_i (y := kk_ L xs j) (by rw [nI_clamp (by omega), pk_us]) ?_
              refine lv_iload hx hb dL_law_160 (lv_at hl 0 rfl) ?_
              refine vp_callSi (va_Run.run (va_runS (As := [.int (nI ri), .int (kk_ L xs j), .int (Cx.headD (-1))]) (rest := [.int (Ci.headD (-1))]) ⟨hx, hb, hml, hown, hts⟩ (mX0_ahead l ri (kk_ L xs j) (Cx.headD (-1)) hri) (va_cwS 3 hts (lw_S q399 q400 q2 q401) rfl rfl rfl (by decide +kernel) ⟨Nat.le_of_ble_eq_true rfl, Nat.le_of_ble_eq_true rfl⟩) pre_any rfl rfl hl.1 rfl (lv_room (Nat.le_of_ble_eq_true rfl)) dL_law_162 ⟨by show (cells + 2) + 0 ≤ 1200110; omega, by show (slots + 130) + 0 ≤ 5501260; omega⟩)) (fun x4 e_x4 => ?_)
              rw [ha] at e_x4
              have hh : Ci.headD (-1) = if wt_ (dr_ ri) (kk_ L xs j) < wt_ (dr_ ri) a then kk_ L xs j else a := hi2 a t9 eC
              refine lv_if_eq (tgt := 176) hx hb dL_law_165 (by decide) (fun c7 => ?_) (fun c7 => ?_)
              · refine lv_iload hx hb dL_law_176 (lv_at hl 0 rfl) ?_
                exact on (Cx.headD (-1)) ls (by rw [hh, if_neg (fun h9 => absurd ((e_x4.trans (if_pos h9)).symm.trans c7) (by decide))]; exact ha.symm) hl
              · refine lv_aload hx hb dL_law_168 (lv_at hl 10 rfl) ?_
                refine lv_iload hx hb dL_law_170 (lv_at hl 2 rfl) ?_
                refine va_iald hx hb hE.1 hP 0 3 rfl rfl (vp_in_nI (n := j) (by omega) (by omega)) dL_law_172 ?_
                refine lt_i (y := kk_ L xs j) (by rw [nI_clamp (by omega), pk_us]) ?_
                refine lv_goto (tgt := 178) hx hb dL_law_173 (by decide) ?_
                exact on (kk_ L xs j) ls (by rw [hh]; exact if_pos (Classical.byContradiction (fun h9 => c7 (e_x4.trans (if_neg h9))))) hl
          · exact absurd e2 c4
  exact loop n 0 gk [] wx H locs ls 100 10000 (Nat.zero_add n) (fun u hu => absurd hu (Nat.not_lt_zero u)) (by rw [show va_up (fun _ => ([] : List Int32)) ri [] = (fun _ => []) from up_id (C := fun _ => [])]; exact hDx) (List.Perm.refl _) (by omega) (by omega) hP hD hS (lv_sub hl [0, 1, 2, 3, 4, 5, 6, 7, 8, 9] rfl)
end
section
/-! THE LAW'S BODY: its beginning -/
set_option maxRecDepth 100000
set_option maxHeartbeats 4000000 in
set_option maxRecDepth 100000 in
/-- from the entry -/
theorem lg_A {p : Program} {l : Launch} {e : Env} {s : State} {m : MethodId} {below : List Frame} {meth : Method} {c : Code} {b L : Nat} {xs : Nat → Int32} {G : gT} {A : Nat → Prop} (X : LC p s m meth c b L xs G A)   (H : Heap) (locs : List Loc) (ls : Array Slot) (hP : va_P G.1 clz ([]) H) (hD : va_D A ([])) (hS : va_S A s.heap H locs) (hl : lv_has ls 13 [(0, .ref b)]) : W p l e room_1 s m #[Value.ref b] below meth c H locs 0 0 (lw_Z below #[Value.ref b] s) (F0 m 0 ls []) := by
  obtain ⟨hx, hb, hr, hlocks, hml, hown, hts, hX, hbA, hbl, hL, hE, hA, hA2⟩ := id X
  refine lv_aload_n hx hb dL_law_0 rfl (lv_at hl 0 rfl) ?_
  refine lv_iconst (v := 0) hx hb dL_law_1 (by decide) ?_
  refine lt_i (y := nI (0)) rfl ?_
  refine vp_callSi (va_Run.run (va_runS (As := [.ref b, .int (nI (0))]) (rest := []) ⟨hx, hb, hml, hown, hts⟩ (mX0_at l b L (0) xs hL (by omega)) (va_cwS 2 hts (lw_S q396 q397 q2 q398) rfl rfl rfl (by decide +kernel) ⟨Nat.le_of_ble_eq_true rfl, Nat.le_of_ble_eq_true rfl⟩) (Px.pre (hX.kept (hS.2.1 b hbl hbA))) rfl rfl hl.1 rfl (lv_room (Nat.le_of_ble_eq_true rfl)) dL_law_2 ⟨Nat.le_of_ble_eq_true rfl, Nat.le_of_ble_eq_true rfl⟩)) (fun v9 e_v9 => ?_)
  subst e_v9
  refine lv_iconst (v := 3) hx hb dL_law_5 (by decide) ?_
  refine lv_iand hx hb dL_law_6 ?_
  obtain ⟨ri, hri, eri⟩ := and3 (x := at_ L xs 0)
  refine lt_i (y := nI ri) (eri) ?_
  refine lv_istore_n (lv' := [(1, .int (nI ri)), (0, .ref b)]) hx hb dL_law_7 rfl hl (by decide) rfl (fun ls hl => ?_)
  refine lv_iload_n hx hb dL_law_8 rfl (lv_at hl 0 rfl) ?_
  refine lv_iconst (v := 1) hx hb dL_law_9 (by decide) ?_
  refine lv_iadd hx hb dL_law_10 ?_
  refine lt_i (y := nI (ri + 1)) (nI_1 ri) ?_
  refine lv_aload_n hx hb dL_law_11 rfl (lv_at hl 1 rfl) ?_
  refine lv_iconst (v := 1) hx hb dL_law_12 (by decide) ?_
  refine lt_i (y := nI (1)) rfl ?_
  refine vp_callSi (va_Run.run (va_runS (As := [.ref b, .int (nI (1))]) (rest := [.int (nI (ri + 1))]) ⟨hx, hb, hml, hown, hts⟩ (mX0_at l b L (1) xs hL (by omega)) (va_cwS 2 hts (lw_S q396 q397 q2 q398) rfl rfl rfl (by decide +kernel) ⟨Nat.le_of_ble_eq_true rfl, Nat.le_of_ble_eq_true rfl⟩) (Px.pre (hX.kept (hS.2.1 b hbl hbA))) rfl rfl hl.1 rfl (lv_room (Nat.le_of_ble_eq_true rfl)) dL_law_13 ⟨Nat.le_of_ble_eq_true rfl, Nat.le_of_ble_eq_true rfl⟩)) (fun v9 e_v9 => ?_)
  subst e_v9
  refine lv_ldc (v := 2147483647) hx hb hown (hts _ q406) dL_law_16 ?_
  refine lv_iand hx hb dL_law_18 ?_
  obtain ⟨u, hu, eu⟩ := and31 (at_ L xs 1)
  refine lt_i (y := nI u) (eu) ?_
  refine lv_iconst (v := 3) hx hb dL_law_19 (by decide) ?_
  refine lv_irem hx hb dL_law_20 (by decide) ?_
  refine lt_i (y := nI (u % 3)) (rem_n hu (by decide) (by decide) rfl) ?_
  refine lv_iadd hx hb dL_law_21 ?_
  refine lt_i (y := nI (ri + 1 + u % 3)) (nI_add _ _) ?_
  obtain ⟨qi, hqe⟩ : ∃ q, q = (ri + 1 + u % 3) % 4 := ⟨_, rfl⟩
  refine lv_iconst (v := 3) hx hb dL_law_22 (by decide) ?_
  refine lv_iand hx hb dL_law_23 ?_
  refine lt_i (y := nI qi) (by rw [hqe]; exact pk_andN (n := ri + 1 + u % 3) (by omega) (m := 3) 2 (by decide)) ?_
  refine lv_istore_n (lv' := [(2, .int (nI qi)), (1, .int (nI ri)), (0, .ref b)]) hx hb dL_law_24 rfl hl (by decide) rfl (fun ls hl => ?_)
  refine lv_aload_n hx hb dL_law_25 rfl (lv_at hl 2 rfl) ?_
  refine lv_iconst (v := 2) hx hb dL_law_26 (by decide) ?_
  refine lt_i (y := nI (2)) rfl ?_
  refine vp_callSi (va_Run.run (va_runS (As := [.ref b, .int (nI (2))]) (rest := []) ⟨hx, hb, hml, hown, hts⟩ (mX0_at l b L (2) xs hL (by omega)) (va_cwS 2 hts (lw_S q396 q397 q2 q398) rfl rfl rfl (by decide +kernel) ⟨Nat.le_of_ble_eq_true rfl, Nat.le_of_ble_eq_true rfl⟩) (Px.pre (hX.kept (hS.2.1 b hbl hbA))) rfl rfl hl.1 rfl (lv_room (Nat.le_of_ble_eq_true rfl)) dL_law_27 ⟨Nat.le_of_ble_eq_true rfl, Nat.le_of_ble_eq_true rfl⟩)) (fun v9 e_v9 => ?_)
  subst e_v9
  refine lv_ldc (v := 2147483647) hx hb hown (hts _ q406) dL_law_30 ?_
  refine lv_iand hx hb dL_law_32 ?_
  obtain ⟨v, hv, ev⟩ := and31 (at_ L xs 2)
  refine lt_i (y := nI v) (ev) ?_
  refine lv_bipush (v := 25) hx hb dL_law_33 (by decide) ?_
  refine lv_irem hx hb dL_law_35 (by decide) ?_
  obtain ⟨n, hne⟩ : ∃ q, q = v % 25 := ⟨_, rfl⟩
  refine lt_i (y := nI n) (by rw [hne]; exact rem_n hv (by decide) (by decide) rfl) ?_
  refine lv_istore_n (lv' := [(3, .int (nI n)), (2, .int (nI qi)), (1, .int (nI ri)), (0, .ref b)]) hx hb dL_law_36 rfl hl (by decide) rfl (fun ls hl => ?_)
  refine lv_iconst (v := 0) hx hb dL_law_37 (by decide) ?_
  refine lv_istore (lv' := [(4, .int 0), (3, .int (nI n)), (2, .int (nI qi)), (1, .int (nI ri)), (0, .ref b)]) hx hb dL_law_38 hl (by decide) rfl (fun ls hl => ?_)
  refine va_new (ci := 1) (fs := [.null, .int 0]) (C := RX1) (T := TX1) (N := 2) hx hb hts in_X1 tyX1 tyX1_ok hown (hts _ q18) (hts _ q19) (hts _ q3) hE.1 hP hD hS hA rfl (fun j hj => by rcases (show j = 0 ∨ j = 1 by omega) with rfl | rfl <;> rfl) (Nat.le_of_ble_eq_true rfl) (Nat.le_of_ble_eq_true rfl) dL_law_40 (fun dx H hP hD hS => ?_)
  refine lv_dup hx hb dL_law_43 rfl ?_
  have hP : va_P G.1 clz ([(dx, .inr (1, [.null, .int 0]))]) _ := hP
  have hD : va_D A ([(dx, .inr (1, [.null, .int 0]))]) := hD
  have hc := cut_ (wc := [(dx, .inr (1, [.null, .int 0]))]) (wr := []) hE hP hD hS hA (List.Perm.refl _)
  refine cv_ (wr := []) (va_runI (As := []) (rest := [.ref dx]) ⟨hx, hb, hml, hown, hts⟩ (mX1_init l G dx _) (cwI 0 hts (lw_meth q22) rfl rfl rfl (hts _ q3) (hts _ q20) (hts _ q21) rfl (by decide +kernel) ⟨Nat.le_of_ble_eq_true rfl, Nat.le_of_ble_eq_true rfl⟩) (Pw.pre hc no_bx) rfl rfl hl.1 rfl (lv_room (Nat.le_of_ble_eq_true rfl)) dL_law_44 ⟨Nat.le_of_ble_eq_true rfl, Nat.le_of_ble_eq_true rfl⟩) hP hD hS hc (List.Perm.refl _) (fun wx H locs hDx hP hD hS => ?_)
  have hP : va_P G.1 clz wx _ := wP_left hP
  have hD : va_D A wx := wD_left hD
  refine lv_astore (lv' := [(5, .ref dx), (4, .int 0), (3, .int (nI n)), (2, .int (nI qi)), (1, .int (nI ri)), (0, .ref b)]) hx hb dL_law_47 hl (by decide) rfl (fun ls hl => ?_)
  refine va_new (ci := 1) (fs := [.null, .int 0]) (C := RX1) (T := TX1) (N := 2) hx hb hts in_X1 tyX1 tyX1_ok hown (hts _ q18) (hts _ q19) (hts _ q3) hE.1 hP hD hS hA rfl (fun j hj => by rcases (show j = 0 ∨ j = 1 by omega) with rfl | rfl <;> rfl) (Nat.le_of_ble_eq_true rfl) (Nat.le_of_ble_eq_true rfl) dL_law_49 (fun dy H hP hD hS => ?_)
  refine lv_dup hx hb dL_law_52 rfl ?_
  have hP : va_P G.1 clz (wx ++ [(dy, .inr (1, [.null, .int 0]))]) _ := hP
  have hD : va_D A (wx ++ [(dy, .inr (1, [.null, .int 0]))]) := hD
  have hc := cut_ (wc := [(dy, .inr (1, [.null, .int 0]))]) (wr := wx) hE hP hD hS hA List.perm_append_comm
  refine cv_ (wr := wx) (va_runI (As := []) (rest := [.ref dy]) ⟨hx, hb, hml, hown, hts⟩ (mX1_init l G dy _) (cwI 0 hts (lw_meth q22) rfl rfl rfl (hts _ q3) (hts _ q20) (hts _ q21) rfl (by decide +kernel) ⟨Nat.le_of_ble_eq_true rfl, Nat.le_of_ble_eq_true rfl⟩) (Pw.pre hc no_bx) rfl rfl hl.1 rfl (lv_room (Nat.le_of_ble_eq_true rfl)) dL_law_53 ⟨Nat.le_of_ble_eq_true rfl, Nat.le_of_ble_eq_true rfl⟩) hP hD hS hc List.perm_append_comm (fun wy H locs hDy hP hD hS => ?_)
  refine lv_astore (lv' := [(6, .ref dy), (5, .ref dx), (4, .int 0), (3, .int (nI n)), (2, .int (nI qi)), (1, .int (nI ri)), (0, .ref b)]) hx hb dL_law_56 hl (by decide) rfl (fun ls hl => ?_)
  refine va_new (ci := 1) (fs := [.null, .int 0]) (C := RX1) (T := TX1) (N := 2) hx hb hts in_X1 tyX1 tyX1_ok hown (hts _ q18) (hts _ q19) (hts _ q3) hE.1 hP hD hS hA rfl (fun j hj => by rcases (show j = 0 ∨ j = 1 by omega) with rfl | rfl <;> rfl) (Nat.le_of_ble_eq_true rfl) (Nat.le_of_ble_eq_true rfl) dL_law_58 (fun dz H hP hD hS => ?_)
  refine lv_dup hx hb dL_law_61 rfl ?_
  have hP : va_P G.1 clz ((wy ++ wx) ++ [(dz, .inr (1, [.null, .int 0]))]) _ := hP
  have hD : va_D A ((wy ++ wx) ++ [(dz, .inr (1, [.null, .int 0]))]) := hD
  have hc := cut_ (wc := [(dz, .inr (1, [.null, .int 0]))]) (wr := (wy ++ wx)) hE hP hD hS hA List.perm_append_comm
  refine cv_ (wr := (wy ++ wx)) (va_runI (As := []) (rest := [.ref dz]) ⟨hx, hb, hml, hown, hts⟩ (mX1_init l G dz _) (cwI 0 hts (lw_meth q22) rfl rfl rfl (hts _ q3) (hts _ q20) (hts _ q21) rfl (by decide +kernel) ⟨Nat.le_of_ble_eq_true rfl, Nat.le_of_ble_eq_true rfl⟩) (Pw.pre hc no_bx) rfl rfl hl.1 rfl (lv_room (Nat.le_of_ble_eq_true rfl)) dL_law_62 ⟨Nat.le_of_ble_eq_true rfl, Nat.le_of_ble_eq_true rfl⟩) hP hD hS hc List.perm_append_comm (fun wz H locs hDz hP hD hS => ?_)
  refine lv_astore (lv' := [(7, .ref dz), (6, .ref dy), (5, .ref dx), (4, .int 0), (3, .int (nI n)), (2, .int (nI qi)), (1, .int (nI ri)), (0, .ref b)]) hx hb dL_law_65 hl (by decide) rfl (fun ls hl => ?_)
  refine lv_bipush (v := 64) hx hb dL_law_67 (by decide) ?_
  refine va_newa (atype := .int) (ty := .int) (N' := 64) (a0 := (64, .inl (fun _ => 0))) hx hb (hts _ q408) rfl hE.1 hP hD hS hA (fun cA => rfl) (by decide) (by decide) (by decide) (Nat.le_of_ble_eq_true rfl) (Nat.le_of_ble_eq_true rfl) dL_law_69 (fun ks cA H hK9 hP hD hS => ?_)
  have ecA : cA = gI G := RA_uniq (hK9.2 5 (cA, .int) rfl).2 (hE.1.2 3 (gI G, .int) rfl).2
  subst ecA
  have hP := wP_perm hP List.perm_append_comm
  have hD := wD_perm hD List.perm_append_comm
  have hP : va_P G.1 clz (ia_ G ks (fun _ => 0) :: (wz ++ (wy ++ wx))) _ := hP
  have hD : va_D A (ia_ G ks (fun _ => 0) :: (wz ++ (wy ++ wx))) := hD
  refine lv_astore (lv' := [(8, .ref ks), (7, .ref dz), (6, .ref dy), (5, .ref dx), (4, .int 0), (3, .int (nI n)), (2, .int (nI qi)), (1, .int (nI ri)), (0, .ref b)]) hx hb dL_law_71 hl (by decide) rfl (fun ls hl => ?_)
  refine lv_bipush (v := 64) hx hb dL_law_73 (by decide) ?_
  refine va_newa (atype := .int) (ty := .int) (N' := 64) (a0 := (64, .inl (fun _ => 0))) hx hb (hts _ q408) rfl hE.1 hP hD hS hA (fun cA => rfl) (by decide) (by decide) (by decide) (Nat.le_of_ble_eq_true rfl) (Nat.le_of_ble_eq_true rfl) dL_law_75 (fun ot cA H hK9 hP hD hS => ?_)
  have ecA : cA = gI G := RA_uniq (hK9.2 5 (cA, .int) rfl).2 (hE.1.2 3 (gI G, .int) rfl).2
  subst ecA
  have hP := wP_perm hP (List.Perm.cons (ia_ G ks (fun _ => 0)) ((List.perm_append_comm (l₁ := wz ++ (wy ++ wx)) (l₂ := [ia_ G ot (fun _ => 0)])).trans (List.Perm.cons (ia_ G ot (fun _ => 0)) (pm_6 (a := wz) (b := wy) (c := wx)))))
  have hD := wD_perm hD (List.Perm.cons (ia_ G ks (fun _ => 0)) ((List.perm_append_comm (l₁ := wz ++ (wy ++ wx)) (l₂ := [ia_ G ot (fun _ => 0)])).trans (List.Perm.cons (ia_ G ot (fun _ => 0)) (pm_6 (a := wz) (b := wy) (c := wx)))))
  have hP : va_P G.1 clz (ia_ G ks (fun _ => 0) :: ia_ G ot (fun _ => 0) :: (wx ++ (wy ++ wz))) _ := hP
  have hD : va_D A (ia_ G ks (fun _ => 0) :: ia_ G ot (fun _ => 0) :: (wx ++ (wy ++ wz))) := hD
  refine lv_astore (lv' := [(9, .ref ot), (8, .ref ks), (7, .ref dz), (6, .ref dy), (5, .ref dx), (4, .int 0), (3, .int (nI n)), (2, .int (nI qi)), (1, .int (nI ri)), (0, .ref b)]) hx hb dL_law_77 hl (by decide) rfl (fun ls hl => ?_)
  refine W.widen (k := 100) (n := 10000) (Nat.le_of_ble_eq_true rfl) (Nat.le_of_ble_eq_true rfl) ?_
  exact lg_B X ri qi n dx ks dy dz ot (fun _ => 0) (fun _ => 0) wx wy wz hri (by omega) (by omega) (by omega) hDx hDy hDz _ _ ls hP hD hS (lv_sub hl [3, 2, 0, 4, 7, 8, 6, 1, 9] rfl)
end
section
-- ===== YOUR PART BEGINS =====
set_option maxHeartbeats 4000000 in
/-- YOUR PART: from the entry, for every script of at most 55 ints, the law comes to its end with true ('hflags': the launch's flags, for a law that throws: no stack traces) -/
theorem whole_start {p : Program} {e : Env} {s : State} {m : MethodId} {below : List Frame} {meth : Method} {c : Code} (l : Launch) (hflags : l.flags = flags0) {b L : Nat} {xs : Nat → Int32} (hL : L ≤ 55) (C0 : lw_At p s m meth c b L xs) : W p l e room_1 s m #[Value.ref b] below meth c s.heap [] 0 0 (lw_Z below #[Value.ref b] s) (entryFrame m ([Value.ref b] : List Value).toArray 13) := by
  obtain ⟨hx, hb, hr, hml, hown, hts0, hX, hbl, hlocks, hgv⟩ := id C0
  obtain ⟨G, hE⟩ := env_start hts0 hgv
  have X : LC p s m meth c b L xs G (fun q => s.heap.size ≤ q) := ⟨hx, hb, hr, hlocks, hml, hown, fun w h => hts0 w (lw_all_tbl h), hX, Nat.not_le.mpr hbl, hbl, hL, hE, fun _ h => h, fun _ h => h⟩
  have hl := lv_entry ([.ref b]) (n := 13) (Nat.le_of_ble_eq_true rfl)
  rw [lg_entry_eq]
  generalize (lg_sl ([.ref b]) ++ List.replicate (13 - (lg_sl ([.ref b])).length) Slot.unset).toArray = ls at hl ⊢
  have hl : lv_has ls 13 [(0, .ref b)] := hl
  exact lg_A X s.heap [] ls wP_nil wD_nil va_S.rf hl
-- ===== YOUR PART ENDS =====
set_option maxHeartbeats 4000000 in
theorem lw_walk (l : Launch) (hflags : l.flags = flags0) (b : Addr) (xs : List Int32) : MetFree l x (headSpec (Jvm.Cond.code x code maxLocals ret :: tables_1) room_1) (lw_P b xs) (fun _ _ _ _ _ => True) lw_Q := by
  refine MetFree.of_bodyS (code := code) (maxLocals := maxLocals) (ret := ret) (by decide) ?_ ?_
  · intro args s m h hn
    obtain ⟨meth, c, h1, h2, h3, h4, h5, h6, -, -⟩ := Cond.code_spec hn (atoms_spec (ws := Jvm.Cond.code x code maxLocals ret :: tables_1) h _ List.mem_cons_self)
    exact ⟨meth, c, h1, h2, h3, h4, h5, h6⟩
  · intro p e s m args below meth c s₁ B hml0 hP _
    obtain ⟨rfl, hx, hbd, hgv⟩ := hP
    obtain ⟨scr, harrAt, hlist, hof, hsmall⟩ := hx
    obtain ⟨hcb, hkn, -, -⟩ := State.arrayAt?_spec harrAt
    have hown : s.vm.findClass R_law = some m.cls := findClass_of_methodNamed B.named
    have hts0 : ∀ c ∈ (Jvm.Cond.code x code maxLocals ret :: tables_1), c.before #[Value.ref b] s = true := atoms_spec (ws := Jvm.Cond.code x code maxLocals ret :: tables_1) B.pre
    have hts : ∀ w ∈ lw_tbl, w.before #[Value.ref b] s = true := k2_hts_sels lw_privs (fun w hw => hts0 w (List.mem_cons_of_mem _ hw)) lw_privs_ok
    have hml : c.maxLocals = 13 := B.maxLocals_eq (hts0 _ List.mem_cons_self)
    have X₀ : Stand p l e room_1 s m #[Value.ref b] below meth c s₁ [] 0 0 := Stand.of_body B
    have hh0 : s₁.heap = s.heap := by rw [B.state]; rfl
    have hsz : scr.slots.size = xs.length := by rw [← Array.length_toList, hlist, List.length_map]
    have hval : ∀ j : Nat, j < xs.length → scr.slots[j]? = some (.int (xs.getD j 0)) := fun j hj => by
      rw [← Array.getElem?_toList, hlist]
      simp [hj]
    have hbl : b < s.heap.size := (Array.getElem?_eq_some_iff.mp hcb).1
    have hX : va_X b xs.length (fun j => xs.getD j 0) s s.heap := ⟨scr, hcb, hof, hkn, hsz, hval⟩
    have K : W p l e room_1 s m #[Value.ref b] below meth c s₁.heap [] 0 0 (lw_Z below #[Value.ref b] s) (entryFrame m ([Value.ref b] : List Value).toArray 13) := by
      rw [hh0]
      exact whole_start l hflags hbd ⟨B.exec, B.bytes, B.returns, hml, hown, hts, hX, hbl, B.notSynchronized, hgv⟩
    obtain ⟨t, a1, o, b1, b2, b3⟩ := K s₁ rfl X₀
    exact ⟨t, o, a1, b1, b2, b3⟩
theorem lw_pre_spec {args : Array Value} {s : State} (h : (Jvm.Cond.and given_1 narrow_1).before args s = true) (hr : rest_1_c.before args s = true) : ∃ (b : Addr) (xs : List Int32), lw_P b xs args s := by
  have hs := flat_of_before _ h
  have hq := flat_of_before _ hr
  have hc : (Cond.count 1).before args s = true := hs _ (by decide +kernel)
  have harr : (Cond.arrayOf (.arg 0) .int).before args s = true := hs _ (by decide +kernel)
  have hle : (Cond.le (.length (.arg 0)) (.int 55)).before args s = true := hs _ (by decide +kernel)
  have hlen : (Cond.isInt (.length (.arg 0))).before args s = true := hq _ (by decide +kernel)
  have hall : (Cond.all (.arg 0) (.isInt (.elem (.arg 0) (.index 0)))).before args s = true := hq _ (by decide +kernel)
  obtain ⟨b, xs, hb, hx⟩ := State.ints_of_pre rfl harr hlen hall
  have hsm : xs.length < 2 ^ 31 := hx.choose_spec.2.2.2
  have hev : (Term.length (.arg 0)).eval args s none [] s = some (.int xs.length.toInt32) := hx.length_eval hb
  have hv := Cond.le_ints hev (show (Term.int 55).eval args s none [] s = some (.int 55) from rfl)
  have hd : xs.length.toInt32 ≤ 55 := by
    simpa [Cond.before, Cond.holds, hv] using hle
  have hN : xs.length ≤ 55 := (Int32.ofNat_le_ofNat hsm (by decide)).mp (show Int32.ofNat xs.length ≤ Int32.ofNat 55 from hd)
  exact ⟨b, xs, Cond.one_arg hc (show args[0]? = some (.ref b) from hb), hx, hN, h⟩
theorem lw_comes (l : Launch) (hflags : l.flags = flags0) : Comes l x (Jvm.Cond.code x code maxLocals ret :: tables_1) room_1 (fun tb e args s => Calls_1 tb e args s ∧ rest_1 tb e args s ∧ Pre_1 tb e args s)
    (fun _ _ args s o t => lw_Q args s o t) := by
  intro p e ha hc hk s m args below hf hfit hheap happ hpre
  obtain ⟨b, xs, hP⟩ := lw_pre_spec hpre.2.2 hpre.2.1
  obtain ⟨k, o, h1, h2, h3, hQ⟩ := lw_walk l hflags b xs p e ha hc hk s m args below hf ((Spec.applies_iff_loose hf).mp happ).1 hP trivial
  exact ⟨k, o, h1, h2, h3, hQ⟩
theorem lw_frame {s t : State} {o : Outcome} {args : Array Value} (h : Framed s o t [] 1200110 5501260) :
    Framed s o t (fieldLocs frame_1_writes args s ++ arrayLocs frame_1_arrays args s ++ staticLocs frame_1_statics s) 1200110 5501260 := h
theorem lw_limb (L : Cond) (hL : ∀ (args : Array Value) (s t : State), L.after args s (.returned (some (.int 1))) t = true) :
    ArmFor flags0 classFile x code maxLocals ret World_1 tables_1 room_1 Calls_1 rest_1 Pre_1
      (fun tb e a s o t => postC L tb e a s o t ∧ Framed s o t (fieldLocs frame_1_writes a s ++ arrayLocs frame_1_arrays a s ++ staticLocs frame_1_statics s) 1200110 5501260) := by
  intro l hflags _ _ p e ha hc hk s m args below hf hfit hheap happ hpre
  obtain ⟨k, o, h1, h2, h3, rfl, hF⟩ := lw_comes l hflags p e ha hc hk s m args below hf hfit hheap happ hpre
  exact ⟨k, _, h1, h2, h3, hL args s _, lw_frame hF⟩
theorem i_vc : Claimed_1_1 ∧ Claimed_1_2 := ⟨lw_limb limb_1_1 (fun args s t => by simp [limb_1_1, Cond.after, Cond.holds, Cond.value]), lw_limb limb_1_2 (fun args s t => Cond.after_iff.mpr (by
  first | (rw [show limb_1_2 = Cond.eq .result (.int 1) from rfl, Cond.eq_ints (x := 1) (y := 1) rfl rfl]; simp; done) | (simp [limb_1_2, Cond.value, Term.eval]; done)))⟩
end
