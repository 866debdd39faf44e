section
-- ===== PART A: goes FIRST, ahead of the names: the tables' words, and 'selects' of the private methods out of them =====
/-- a private method of a class that the tables say can be made, by its rows of tables_1 -/
def lw_okq (q : MethodName × Nat) : Prop := (q.1.cls ≠ "java/lang/invoke/MethodHandle" ∧ q.1.cls ≠ "java/lang/invoke/VarHandle") ∧ Cond.instantiable q.1.cls q.2 ∈ tables_1 ∧ Cond.privateMethod q.1 ∈ tables_1 ∧ Cond.instanceMethod q.1 ∈ tables_1
set_option maxRecDepth 100000
theorem lw_t1 {w : Cond} (h : w ∈ tables_1_1) : w ∈ tables_1 := List.mem_append_left _ h
theorem lw_t2 {w : Cond} (h : w ∈ tables_1_2) : w ∈ tables_1 := List.mem_append_right _ h
theorem lw_p0 : lw_okq (⟨"SalsaDesk", "from", "(I)I"⟩, 8) := ⟨⟨by decide +kernel, by decide +kernel⟩, lw_t1 (List.mem_of_getElem? (i := 25) rfl), lw_t1 (List.mem_of_getElem? (i := 23) rfl), lw_t1 (List.mem_of_getElem? (i := 24) rfl)⟩
theorem lw_p1 : lw_okq (⟨"SalsaDesk", "count", "(II)I"⟩, 8) := ⟨⟨by decide +kernel, by decide +kernel⟩, lw_t1 (List.mem_of_getElem? (i := 25) rfl), lw_t1 (List.mem_of_getElem? (i := 29) rfl), lw_t1 (List.mem_of_getElem? (i := 30) rfl)⟩
theorem lw_p2 : lw_okq (⟨"java/lang/Throwable", "fillInStackTrace", "(I)Ljava/lang/Throwable;"⟩, 6) := ⟨⟨by decide +kernel, by decide +kernel⟩, lw_t1 (List.mem_of_getElem? (i := 79) rfl), lw_t1 (List.mem_of_getElem? (i := 77) rfl), lw_t1 (List.mem_of_getElem? (i := 78) rfl)⟩
theorem lw_p3 : lw_okq (⟨"Salsa20Engine", "limitExceeded", "(I)Z"⟩, 9) := ⟨⟨by decide +kernel, by decide +kernel⟩, lw_t1 (List.mem_of_getElem? (i := 148) rfl), lw_t1 (List.mem_of_getElem? (i := 146) rfl), lw_t1 (List.mem_of_getElem? (i := 147) rfl)⟩
theorem lw_p4 : lw_okq (⟨"Salsa20Engine", "limitExceeded", "()Z"⟩, 9) := ⟨⟨by decide +kernel, by decide +kernel⟩, lw_t1 (List.mem_of_getElem? (i := 148) rfl), lw_t1 (List.mem_of_getElem? (i := 224) rfl), lw_t1 (List.mem_of_getElem? (i := 225) rfl)⟩
theorem lw_p5 : lw_okq (⟨"Salsa20Engine", "resetLimitCounter", "()V"⟩, 9) := ⟨⟨by decide +kernel, by decide +kernel⟩, lw_t1 (List.mem_of_getElem? (i := 148) rfl), lw_t1 (List.mem_of_getElem? (i := 237) rfl), lw_t1 (List.mem_of_getElem? (i := 238) rfl)⟩
def lw_privs_1 : List (MethodName × Nat) := [(⟨"SalsaDesk", "from", "(I)I"⟩, 8), (⟨"SalsaDesk", "count", "(II)I"⟩, 8), (⟨"java/lang/Throwable", "fillInStackTrace", "(I)Ljava/lang/Throwable;"⟩, 6), (⟨"Salsa20Engine", "limitExceeded", "(I)Z"⟩, 9), (⟨"Salsa20Engine", "limitExceeded", "()Z"⟩, 9), (⟨"Salsa20Engine", "resetLimitCounter", "()V"⟩, 9)]
theorem lw_r1 : ∀ q ∈ lw_privs_1, lw_okq q := List.forall_mem_cons.mpr ⟨lw_p0, List.forall_mem_cons.mpr ⟨lw_p1, List.forall_mem_cons.mpr ⟨lw_p2, List.forall_mem_cons.mpr ⟨lw_p3, List.forall_mem_cons.mpr ⟨lw_p4, List.forall_mem_cons.mpr ⟨lw_p5, fun _ h => absurd h List.not_mem_nil⟩⟩⟩⟩⟩⟩
def lw_privs : List (MethodName × Nat) := lw_privs_1
def lw_tbl : List Cond := k2_sels lw_privs ++ tables_1
theorem lw_privs_ok : ∀ q ∈ lw_privs, lw_okq q := lw_r1
-- ===== ONE list of words for every method: the tables' words that hold all through a run =====
def lw_all : List Cond := lw_tbl.filter goodWord
/-- a word of the tables by its place: claim/WORDS.tsv -/
theorem lw_w {w : Cond} (i : Nat) (h : lw_tbl[i]? = some w) (g : goodWord w = true) : w ∈ lw_all := List.mem_filter.mpr ⟨List.mem_of_getElem? h, g⟩
theorem lw_all_tbl {w : Cond} (h : w ∈ lw_all) : w ∈ lw_tbl := (List.mem_filter.mp h).1
theorem lw_self : GoodIn lw_all lw_all := fun w h => ⟨h, good_of_word (List.mem_filter.mp h).2⟩
/-- a class's field words, by their places -/
theorem lw_in (ws : List Cond) (ps : List Nat) (hp : ws = ps.filterMap (fun i => lw_tbl[i]?)) (hg : ws.all goodWord = true) : ∀ w ∈ ws, w ∈ lw_all := by
  intro w h
  have h1 := List.all_eq_true.mp hg w h
  rw [hp] at h
  obtain ⟨i, -, hi⟩ := List.mem_filterMap.mp h
  exact lw_w i hi h1
/-- the words of a contract for the method y with code b, L locals, answer r -/
abbrev ws_ (y : MethodName) (b : ByteArray) (L : Nat) (r : Option FieldType) : List Cond := Cond.code y b L r :: lw_all
theorem lw_meth {y : MethodName} {b : ByteArray} {L : Nat} {r : Option FieldType} (h : Cond.code y b L r ∈ lw_all) : GoodIn lw_all (ws_ y b L r) := by
  intro w hw
  rcases List.mem_cons.mp hw with e | e
  · rw [e]
    exact lw_self _ h
  · exact lw_self _ e
theorem lw_app {a c : List Cond} (ha : ∀ w ∈ a, w ∈ lw_all) (hc : GoodIn lw_all c) : GoodIn lw_all (a ++ c) := by
  intro w hw
  rcases List.mem_append.mp hw with e | e
  · exact lw_self w (ha w e)
  · exact hc w e
/-- what a call through an object asks: cwV n hts (lw_V ..) -/
theorem lw_V {own : String} {idx : Nat} {C : String} {y : MethodName} {b : ByteArray} {L : Nat} {r : Option FieldType} (h1 : Cond.methodLink own idx y ∈ lw_all) (h2 : Cond.instanceMethod y ∈ lw_all) (h3 : Cond.selects C y y ∈ lw_all) (h4 : Cond.initialized C ∈ lw_all) (h5 : Cond.code y b L r ∈ lw_all) : GoodIn lw_all (wsV own idx C y (ws_ y b L r)) := by
  refine lw_app ?_ (lw_meth h5)
  intro w hw
  simp only [List.mem_cons, List.not_mem_nil, or_false] at hw
  rcases hw with e | e | e | e
  · rw [e]; exact h1
  · rw [e]; exact h2
  · rw [e]; exact h3
  · rw [e]; exact h4
/-- what a static call asks: va_cwS n hts (lw_S ..) -/
theorem lw_S {own : String} {idx : Nat} {y : MethodName} {b : ByteArray} {L : Nat} {r : Option FieldType} (h1 : Cond.methodLink own idx y ∈ lw_all) (h2 : Cond.static y ∈ lw_all) (h3 : Cond.initialized y.cls ∈ lw_all) (h4 : Cond.code y b L r ∈ lw_all) : GoodIn lw_all (va_wsS own idx y (ws_ y b L r)) := by
  refine lw_app ?_ (lw_meth h4)
  intro w hw
  simp only [List.mem_cons, List.not_mem_nil, or_false] at hw
  rcases hw with e | e | e
  · rw [e]; exact h1
  · rw [e]; exact h2
  · rw [e]; exact h3
/-- the words of a contract for a method WITH HANDLERS (hh: its table) -/
abbrev wsW_ (y : MethodName) (b : ByteArray) (L : Nat) (r : Option FieldType) (hh : List (Nat × Nat × Nat × Nat)) : List Cond := Cond.codeWith y b L r hh :: lw_all
theorem lw_methW {y : MethodName} {b : ByteArray} {L : Nat} {r : Option FieldType} {hh : List (Nat × Nat × Nat × Nat)} (h : Cond.codeWith y b L r hh ∈ lw_all) : GoodIn lw_all (wsW_ y b L r hh) := by
  intro w hw
  rcases List.mem_cons.mp hw with e | e
  · rw [e]
    exact lw_self _ h
  · exact lw_self _ e
/-- any list of words by their places (lw_in), good -/
theorem lw_good {ws : List Cond} (h : ∀ w ∈ ws, w ∈ lw_all) : GoodIn lw_all ws := fun w hw => lw_self w (h w hw)
/-- what a call of a method with handlers asks: vx_cwVW n hts (lw_VW ..), vx_cwSW n hts (lw_SW ..) -/
theorem lw_VW {own : String} {idx : Nat} {C : String} {y : MethodName} {b : ByteArray} {L : Nat} {r : Option FieldType} {hh : List (Nat × Nat × Nat × Nat)} (h1 : Cond.methodLink own idx y ∈ lw_all) (h2 : Cond.instanceMethod y ∈ lw_all) (h3 : Cond.selects C y y ∈ lw_all) (h4 : Cond.initialized C ∈ lw_all) (h5 : Cond.codeWith y b L r hh ∈ lw_all) : GoodIn lw_all (wsV own idx C y (wsW_ y b L r hh)) := by
  refine lw_app ?_ (lw_methW h5)
  intro w hw
  simp only [List.mem_cons, List.not_mem_nil, or_false] at hw
  rcases hw with e | e | e | e
  · rw [e]; exact h1
  · rw [e]; exact h2
  · rw [e]; exact h3
  · rw [e]; exact h4
theorem lw_SW {own : String} {idx : Nat} {y : MethodName} {b : ByteArray} {L : Nat} {r : Option FieldType} {hh : List (Nat × Nat × Nat × Nat)} (h1 : Cond.methodLink own idx y ∈ lw_all) (h2 : Cond.static y ∈ lw_all) (h3 : Cond.initialized y.cls ∈ lw_all) (h4 : Cond.codeWith y b L r hh ∈ lw_all) : GoodIn lw_all (va_wsS own idx y (wsW_ y b L r hh)) := by
  refine lw_app ?_ (lw_methW h4)
  intro w hw
  simp only [List.mem_cons, List.not_mem_nil, or_false] at hw
  rcases hw with e | e | e
  · rw [e]; exact h1
  · rw [e]; exact h2
  · rw [e]; exact h3
/-- a word by its place in its run of the tables -/
theorem lw_at {r : List Cond} (hr : ∀ w ∈ r, w ∈ lw_tbl) {w : Cond} (i : Nat) (h : r[i]? = some w) : w ∈ lw_tbl := hr w (List.mem_of_getElem? h)
theorem lw_g {w : Cond} (h : w ∈ lw_tbl) (g : goodWord w = true) : w ∈ lw_all := List.mem_filter.mpr ⟨h, g⟩
theorem lw_ms : ∀ w ∈ k2_sels lw_privs, w ∈ lw_tbl := fun w h => show w ∈ k2_sels lw_privs ++ tables_1 from List.mem_append_left _ h
theorem lw_m1 : ∀ w ∈ tables_1_1, w ∈ lw_tbl := fun w h => show w ∈ k2_sels lw_privs ++ tables_1 from List.mem_append_right (k2_sels lw_privs) (show w ∈ tables_1 from List.mem_append_left _ h)
theorem lw_m2 : ∀ w ∈ tables_1_2, w ∈ lw_tbl := fun w h => show w ∈ k2_sels lw_privs ++ tables_1 from List.mem_append_right (k2_sels lw_privs) (show w ∈ tables_1 from List.mem_append_right _ h)
theorem qs0 : (Cond.selects "SalsaDesk" ⟨"SalsaDesk", "from", "(I)I"⟩ ⟨"SalsaDesk", "from", "(I)I"⟩) ∈ lw_all := lw_g (lw_at lw_ms 0 rfl) rfl
theorem qs1 : (Cond.selects "SalsaDesk" ⟨"SalsaDesk", "count", "(II)I"⟩ ⟨"SalsaDesk", "count", "(II)I"⟩) ∈ lw_all := lw_g (lw_at lw_ms 1 rfl) rfl
theorem qs2 : (Cond.selects "java/lang/Throwable" ⟨"java/lang/Throwable", "fillInStackTrace", "(I)Ljava/lang/Throwable;"⟩ ⟨"java/lang/Throwable", "fillInStackTrace", "(I)Ljava/lang/Throwable;"⟩) ∈ lw_all := lw_g (lw_at lw_ms 2 rfl) rfl
theorem qs3 : (Cond.selects "Salsa20Engine" ⟨"Salsa20Engine", "limitExceeded", "(I)Z"⟩ ⟨"Salsa20Engine", "limitExceeded", "(I)Z"⟩) ∈ lw_all := lw_g (lw_at lw_ms 3 rfl) rfl
theorem qs4 : (Cond.selects "Salsa20Engine" ⟨"Salsa20Engine", "limitExceeded", "()Z"⟩ ⟨"Salsa20Engine", "limitExceeded", "()Z"⟩) ∈ lw_all := lw_g (lw_at lw_ms 4 rfl) rfl
theorem qs5 : (Cond.selects "Salsa20Engine" ⟨"Salsa20Engine", "resetLimitCounter", "()V"⟩ ⟨"Salsa20Engine", "resetLimitCounter", "()V"⟩) ∈ lw_all := lw_g (lw_at lw_ms 5 rfl) rfl
/-! DECODE ROWS BY BYTES: one lemma an opcode; a method's code is cut into short pieces once, and a row reads its own piece alone. -/
set_option maxRecDepth 100000
/-- the code has just these bytes from pc on -/
def DkAt (code : ByteArray) (pc : Nat) (bs : List UInt8) : Prop := ∀ (j : Nat) (b : UInt8), bs[j]? = some b → code.data.toList[pc + j]? = some b
/-- the piece W has the bytes bs from its place j on -/
def dkIn (W : List UInt8) (j : Nat) (bs : List UInt8) : Bool := decide ((W.drop j).take bs.length = bs)
theorem dk_seg {l W T : List UInt8} {o o2 : Nat} (h : l.drop o = W ++ T) (n : Nat) (hn : W.length = n) (ho : o + n = o2) : l.drop o2 = T := by
  subst ho
  rw [← List.drop_drop, h, List.drop_left' hn]
theorem dk_at {code : ByteArray} {W T bs : List UInt8} {o pc : Nat} (h : code.data.toList.drop o = W ++ T) (j : Nat) (hp : o + j = pc) (hw : dkIn W j bs = true) : DkAt code pc bs := by
  subst hp
  intro i b e
  have h1 := of_decide_eq_true hw
  have h2 : i < bs.length := (List.getElem?_eq_some_iff.mp e).1
  have h3 : W[j + i]? = some b := by
    rw [← h1, List.getElem?_take, if_pos h2, List.getElem?_drop] at e
    exact e
  have h4 : j + i < W.length := (List.getElem?_eq_some_iff.mp h3).1
  have h5 : (code.data.toList.drop o)[j + i]? = some b := by
    rw [h, List.getElem?_append_left h4]
    exact h3
  rw [List.getElem?_drop, ← Nat.add_assoc] at h5
  exact h5
theorem dk_u1 {A : ByteArray} {p : Nat} {b : UInt8} (h : A.data.toList[p]? = some b) : (Reader.u1 : Reader DecodeError Nat) A p = .ok (b.toNat, p + 1) := by
  obtain ⟨h1, h2⟩ := List.getElem?_eq_some_iff.mp h
  have h3 : p < A.size := by simpa using h1
  have h4 : A[p]'h3 = b := h2
  have e : (Reader.u1 : Reader DecodeError Nat) A p = (if h : p < A.size then .ok (A[p].toNat, p + 1) else .error (HasTruncated.truncated p)) := by
    show (do if h : p < A.size then do set (p + 1); Pure.pure A[p].toNat else MonadExcept.throw (HasTruncated.truncated p) : Reader DecodeError Nat) A p = _
    by_cases hi : p < A.size
    · rw [dif_pos hi, dif_pos hi]; rfl
    · rw [dif_neg hi, dif_neg hi]; rfl
  rw [e, dif_pos h3, h4]
theorem dk_bind {α β : Type} {r : Reader DecodeError α} {f : α → Reader DecodeError β} {A : ByteArray} {p s : Nat} {a : α} (h : r A p = .ok (a, s)) : (r >>= f) A p = f a A s := by
  show (do let (a, s) ← r A p; f a A s : Except DecodeError (β × Nat)) = _
  rw [h]
  rfl
theorem dk_map {α β : Type} {r : Reader DecodeError α} {g : α → β} {A : ByteArray} {p s : Nat} {a : α} (h : r A p = .ok (a, s)) : (g <$> r) A p = .ok (g a, s) := by
  show (do let (a, s) ← r A p; .ok (g a, s) : Except DecodeError (β × Nat)) = _
  rw [h]
  rfl
theorem dk_u2 {A : ByteArray} {p : Nat} {a b : UInt8} (h : A.data.toList[p]? = some a) (h2 : A.data.toList[p + 1]? = some b) : (Reader.u2 : Reader DecodeError Nat) A p = .ok (a.toNat * 256 + b.toNat, p + 2) := by
  show (Reader.u1 >>= fun hi => Reader.u1 >>= fun lo => Pure.pure (hi * 256 + lo) : Reader DecodeError Nat) A p = _
  rw [dk_bind (dk_u1 h), dk_bind (dk_u1 h2)]
  rfl
theorem dk_of {code : ByteArray} {pc n : Nat} {i : Instr} (h : Decoder.instr pc code pc = .ok (i, pc + n)) : decode code pc = .ok (i, n) := by
  have e : decode code pc = (match Decoder.instr pc code pc with | .error x => .error x | .ok (j, s) => .ok (j, s - pc)) := by
    show (do let (j, s) ← Decoder.instr pc code pc; Pure.pure (j, s - pc) : Except DecodeError (Instr × Nat)) = _
    cases Decoder.instr pc code pc <;> rfl
  rw [e, h]
  show Except.ok (i, pc + n - pc) = _
  rw [Nat.add_sub_cancel_left]
theorem dk_1 {code : ByteArray} {pc : Nat} (h : DkAt code pc [1]) : decode code pc = .ok (.aconst_null, 1) := dk_of ((dk_bind (dk_u1 (h 0 _ rfl))).trans rfl)
theorem dk_2 {code : ByteArray} {pc : Nat} (h : DkAt code pc [2]) : decode code pc = .ok (.iconst (-1), 1) := dk_of ((dk_bind (dk_u1 (h 0 _ rfl))).trans rfl)
theorem dk_3 {code : ByteArray} {pc : Nat} (h : DkAt code pc [3]) : decode code pc = .ok (.iconst 0, 1) := dk_of ((dk_bind (dk_u1 (h 0 _ rfl))).trans rfl)
theorem dk_4 {code : ByteArray} {pc : Nat} (h : DkAt code pc [4]) : decode code pc = .ok (.iconst 1, 1) := dk_of ((dk_bind (dk_u1 (h 0 _ rfl))).trans rfl)
theorem dk_5 {code : ByteArray} {pc : Nat} (h : DkAt code pc [5]) : decode code pc = .ok (.iconst 2, 1) := dk_of ((dk_bind (dk_u1 (h 0 _ rfl))).trans rfl)
theorem dk_6 {code : ByteArray} {pc : Nat} (h : DkAt code pc [6]) : decode code pc = .ok (.iconst 3, 1) := dk_of ((dk_bind (dk_u1 (h 0 _ rfl))).trans rfl)
theorem dk_7 {code : ByteArray} {pc : Nat} (h : DkAt code pc [7]) : decode code pc = .ok (.iconst 4, 1) := dk_of ((dk_bind (dk_u1 (h 0 _ rfl))).trans rfl)
theorem dk_8 {code : ByteArray} {pc : Nat} (h : DkAt code pc [8]) : decode code pc = .ok (.iconst 5, 1) := dk_of ((dk_bind (dk_u1 (h 0 _ rfl))).trans rfl)
theorem dk_16 {code : ByteArray} {pc : Nat} (a : UInt8) (h : DkAt code pc [16, a]) : decode code pc = .ok (.bipush (Reader.signed 8 a.toNat), 2) := dk_of ((dk_bind (dk_u1 (h 0 _ rfl))).trans ((dk_bind (dk_map (dk_u1 (h 1 _ rfl)))).trans rfl))
theorem dk_17 {code : ByteArray} {pc : Nat} (a b : UInt8) (h : DkAt code pc [17, a, b]) : decode code pc = .ok (.sipush (Reader.signed 16 (a.toNat * 256 + b.toNat)), 3) := dk_of ((dk_bind (dk_u1 (h 0 _ rfl))).trans ((dk_bind (dk_map (dk_u2 (h 1 _ rfl) (h 2 _ rfl)))).trans rfl))
theorem dk_18 {code : ByteArray} {pc : Nat} (a : UInt8) (h : DkAt code pc [18, a]) : decode code pc = .ok (.ldc a.toNat, 2) := dk_of ((dk_bind (dk_u1 (h 0 _ rfl))).trans ((dk_bind (dk_u1 (h 1 _ rfl))).trans rfl))
theorem dk_21 {code : ByteArray} {pc : Nat} (a : UInt8) (h : DkAt code pc [21, a]) : decode code pc = .ok (.iload a.toNat, 2) := dk_of ((dk_bind (dk_u1 (h 0 _ rfl))).trans ((dk_bind (dk_u1 (h 1 _ rfl))).trans rfl))
theorem dk_25 {code : ByteArray} {pc : Nat} (a : UInt8) (h : DkAt code pc [25, a]) : decode code pc = .ok (.aload a.toNat, 2) := dk_of ((dk_bind (dk_u1 (h 0 _ rfl))).trans ((dk_bind (dk_u1 (h 1 _ rfl))).trans rfl))
theorem dk_26 {code : ByteArray} {pc : Nat} (h : DkAt code pc [26]) : decode code pc = .ok (.iload_n 0, 1) := dk_of ((dk_bind (dk_u1 (h 0 _ rfl))).trans rfl)
theorem dk_27 {code : ByteArray} {pc : Nat} (h : DkAt code pc [27]) : decode code pc = .ok (.iload_n 1, 1) := dk_of ((dk_bind (dk_u1 (h 0 _ rfl))).trans rfl)
theorem dk_28 {code : ByteArray} {pc : Nat} (h : DkAt code pc [28]) : decode code pc = .ok (.iload_n 2, 1) := dk_of ((dk_bind (dk_u1 (h 0 _ rfl))).trans rfl)
theorem dk_29 {code : ByteArray} {pc : Nat} (h : DkAt code pc [29]) : decode code pc = .ok (.iload_n 3, 1) := dk_of ((dk_bind (dk_u1 (h 0 _ rfl))).trans rfl)
theorem dk_42 {code : ByteArray} {pc : Nat} (h : DkAt code pc [42]) : decode code pc = .ok (.aload_n 0, 1) := dk_of ((dk_bind (dk_u1 (h 0 _ rfl))).trans rfl)
theorem dk_43 {code : ByteArray} {pc : Nat} (h : DkAt code pc [43]) : decode code pc = .ok (.aload_n 1, 1) := dk_of ((dk_bind (dk_u1 (h 0 _ rfl))).trans rfl)
theorem dk_44 {code : ByteArray} {pc : Nat} (h : DkAt code pc [44]) : decode code pc = .ok (.aload_n 2, 1) := dk_of ((dk_bind (dk_u1 (h 0 _ rfl))).trans rfl)
theorem dk_45 {code : ByteArray} {pc : Nat} (h : DkAt code pc [45]) : decode code pc = .ok (.aload_n 3, 1) := dk_of ((dk_bind (dk_u1 (h 0 _ rfl))).trans rfl)
theorem dk_46 {code : ByteArray} {pc : Nat} (h : DkAt code pc [46]) : decode code pc = .ok (.iaload, 1) := dk_of ((dk_bind (dk_u1 (h 0 _ rfl))).trans rfl)
theorem dk_51 {code : ByteArray} {pc : Nat} (h : DkAt code pc [51]) : decode code pc = .ok (.baload, 1) := dk_of ((dk_bind (dk_u1 (h 0 _ rfl))).trans rfl)
theorem dk_54 {code : ByteArray} {pc : Nat} (a : UInt8) (h : DkAt code pc [54, a]) : decode code pc = .ok (.istore a.toNat, 2) := dk_of ((dk_bind (dk_u1 (h 0 _ rfl))).trans ((dk_bind (dk_u1 (h 1 _ rfl))).trans rfl))
theorem dk_58 {code : ByteArray} {pc : Nat} (a : UInt8) (h : DkAt code pc [58, a]) : decode code pc = .ok (.astore a.toNat, 2) := dk_of ((dk_bind (dk_u1 (h 0 _ rfl))).trans ((dk_bind (dk_u1 (h 1 _ rfl))).trans rfl))
theorem dk_60 {code : ByteArray} {pc : Nat} (h : DkAt code pc [60]) : decode code pc = .ok (.istore_n 1, 1) := dk_of ((dk_bind (dk_u1 (h 0 _ rfl))).trans rfl)
theorem dk_61 {code : ByteArray} {pc : Nat} (h : DkAt code pc [61]) : decode code pc = .ok (.istore_n 2, 1) := dk_of ((dk_bind (dk_u1 (h 0 _ rfl))).trans rfl)
theorem dk_62 {code : ByteArray} {pc : Nat} (h : DkAt code pc [62]) : decode code pc = .ok (.istore_n 3, 1) := dk_of ((dk_bind (dk_u1 (h 0 _ rfl))).trans rfl)
theorem dk_75 {code : ByteArray} {pc : Nat} (h : DkAt code pc [75]) : decode code pc = .ok (.astore_n 0, 1) := dk_of ((dk_bind (dk_u1 (h 0 _ rfl))).trans rfl)
theorem dk_76 {code : ByteArray} {pc : Nat} (h : DkAt code pc [76]) : decode code pc = .ok (.astore_n 1, 1) := dk_of ((dk_bind (dk_u1 (h 0 _ rfl))).trans rfl)
theorem dk_77 {code : ByteArray} {pc : Nat} (h : DkAt code pc [77]) : decode code pc = .ok (.astore_n 2, 1) := dk_of ((dk_bind (dk_u1 (h 0 _ rfl))).trans rfl)
theorem dk_78 {code : ByteArray} {pc : Nat} (h : DkAt code pc [78]) : decode code pc = .ok (.astore_n 3, 1) := dk_of ((dk_bind (dk_u1 (h 0 _ rfl))).trans rfl)
theorem dk_79 {code : ByteArray} {pc : Nat} (h : DkAt code pc [79]) : decode code pc = .ok (.iastore, 1) := dk_of ((dk_bind (dk_u1 (h 0 _ rfl))).trans rfl)
theorem dk_84 {code : ByteArray} {pc : Nat} (h : DkAt code pc [84]) : decode code pc = .ok (.bastore, 1) := dk_of ((dk_bind (dk_u1 (h 0 _ rfl))).trans rfl)
theorem dk_87 {code : ByteArray} {pc : Nat} (h : DkAt code pc [87]) : decode code pc = .ok (.pop, 1) := dk_of ((dk_bind (dk_u1 (h 0 _ rfl))).trans rfl)
theorem dk_89 {code : ByteArray} {pc : Nat} (h : DkAt code pc [89]) : decode code pc = .ok (.dup, 1) := dk_of ((dk_bind (dk_u1 (h 0 _ rfl))).trans rfl)
theorem dk_90 {code : ByteArray} {pc : Nat} (h : DkAt code pc [90]) : decode code pc = .ok (.dup_x1, 1) := dk_of ((dk_bind (dk_u1 (h 0 _ rfl))).trans rfl)
theorem dk_91 {code : ByteArray} {pc : Nat} (h : DkAt code pc [91]) : decode code pc = .ok (.dup_x2, 1) := dk_of ((dk_bind (dk_u1 (h 0 _ rfl))).trans rfl)
theorem dk_92 {code : ByteArray} {pc : Nat} (h : DkAt code pc [92]) : decode code pc = .ok (.dup2, 1) := dk_of ((dk_bind (dk_u1 (h 0 _ rfl))).trans rfl)
theorem dk_96 {code : ByteArray} {pc : Nat} (h : DkAt code pc [96]) : decode code pc = .ok (.iadd, 1) := dk_of ((dk_bind (dk_u1 (h 0 _ rfl))).trans rfl)
theorem dk_100 {code : ByteArray} {pc : Nat} (h : DkAt code pc [100]) : decode code pc = .ok (.isub, 1) := dk_of ((dk_bind (dk_u1 (h 0 _ rfl))).trans rfl)
theorem dk_104 {code : ByteArray} {pc : Nat} (h : DkAt code pc [104]) : decode code pc = .ok (.imul, 1) := dk_of ((dk_bind (dk_u1 (h 0 _ rfl))).trans rfl)
theorem dk_108 {code : ByteArray} {pc : Nat} (h : DkAt code pc [108]) : decode code pc = .ok (.idiv, 1) := dk_of ((dk_bind (dk_u1 (h 0 _ rfl))).trans rfl)
theorem dk_112 {code : ByteArray} {pc : Nat} (h : DkAt code pc [112]) : decode code pc = .ok (.irem, 1) := dk_of ((dk_bind (dk_u1 (h 0 _ rfl))).trans rfl)
theorem dk_116 {code : ByteArray} {pc : Nat} (h : DkAt code pc [116]) : decode code pc = .ok (.ineg, 1) := dk_of ((dk_bind (dk_u1 (h 0 _ rfl))).trans rfl)
theorem dk_120 {code : ByteArray} {pc : Nat} (h : DkAt code pc [120]) : decode code pc = .ok (.ishl, 1) := dk_of ((dk_bind (dk_u1 (h 0 _ rfl))).trans rfl)
theorem dk_122 {code : ByteArray} {pc : Nat} (h : DkAt code pc [122]) : decode code pc = .ok (.ishr, 1) := dk_of ((dk_bind (dk_u1 (h 0 _ rfl))).trans rfl)
theorem dk_124 {code : ByteArray} {pc : Nat} (h : DkAt code pc [124]) : decode code pc = .ok (.iushr, 1) := dk_of ((dk_bind (dk_u1 (h 0 _ rfl))).trans rfl)
theorem dk_126 {code : ByteArray} {pc : Nat} (h : DkAt code pc [126]) : decode code pc = .ok (.iand, 1) := dk_of ((dk_bind (dk_u1 (h 0 _ rfl))).trans rfl)
theorem dk_128 {code : ByteArray} {pc : Nat} (h : DkAt code pc [128]) : decode code pc = .ok (.ior, 1) := dk_of ((dk_bind (dk_u1 (h 0 _ rfl))).trans rfl)
theorem dk_130 {code : ByteArray} {pc : Nat} (h : DkAt code pc [130]) : decode code pc = .ok (.ixor, 1) := dk_of ((dk_bind (dk_u1 (h 0 _ rfl))).trans rfl)
theorem dk_132 {code : ByteArray} {pc : Nat} (a b : UInt8) (h : DkAt code pc [132, a, b]) : decode code pc = .ok (.iinc a.toNat (Reader.signed 8 b.toNat), 3) := dk_of ((dk_bind (dk_u1 (h 0 _ rfl))).trans ((dk_bind (dk_u1 (h 1 _ rfl))).trans ((dk_bind (dk_map (dk_u1 (h 2 _ rfl)))).trans rfl)))
theorem dk_145 {code : ByteArray} {pc : Nat} (h : DkAt code pc [145]) : decode code pc = .ok (.i2b, 1) := dk_of ((dk_bind (dk_u1 (h 0 _ rfl))).trans rfl)
theorem dk_153 {code : ByteArray} {pc : Nat} (a b : UInt8) (h : DkAt code pc [153, a, b]) : decode code pc = .ok (.ifCond .eq (Reader.signed 16 (a.toNat * 256 + b.toNat)), 3) := dk_of ((dk_bind (dk_u1 (h 0 _ rfl))).trans ((dk_bind (dk_map (dk_u2 (h 1 _ rfl) (h 2 _ rfl)))).trans rfl))
theorem dk_154 {code : ByteArray} {pc : Nat} (a b : UInt8) (h : DkAt code pc [154, a, b]) : decode code pc = .ok (.ifCond .ne (Reader.signed 16 (a.toNat * 256 + b.toNat)), 3) := dk_of ((dk_bind (dk_u1 (h 0 _ rfl))).trans ((dk_bind (dk_map (dk_u2 (h 1 _ rfl) (h 2 _ rfl)))).trans rfl))
theorem dk_155 {code : ByteArray} {pc : Nat} (a b : UInt8) (h : DkAt code pc [155, a, b]) : decode code pc = .ok (.ifCond .lt (Reader.signed 16 (a.toNat * 256 + b.toNat)), 3) := dk_of ((dk_bind (dk_u1 (h 0 _ rfl))).trans ((dk_bind (dk_map (dk_u2 (h 1 _ rfl) (h 2 _ rfl)))).trans rfl))
theorem dk_158 {code : ByteArray} {pc : Nat} (a b : UInt8) (h : DkAt code pc [158, a, b]) : decode code pc = .ok (.ifCond .le (Reader.signed 16 (a.toNat * 256 + b.toNat)), 3) := dk_of ((dk_bind (dk_u1 (h 0 _ rfl))).trans ((dk_bind (dk_map (dk_u2 (h 1 _ rfl) (h 2 _ rfl)))).trans rfl))
theorem dk_159 {code : ByteArray} {pc : Nat} (a b : UInt8) (h : DkAt code pc [159, a, b]) : decode code pc = .ok (.if_icmp .eq (Reader.signed 16 (a.toNat * 256 + b.toNat)), 3) := dk_of ((dk_bind (dk_u1 (h 0 _ rfl))).trans ((dk_bind (dk_map (dk_u2 (h 1 _ rfl) (h 2 _ rfl)))).trans rfl))
theorem dk_160 {code : ByteArray} {pc : Nat} (a b : UInt8) (h : DkAt code pc [160, a, b]) : decode code pc = .ok (.if_icmp .ne (Reader.signed 16 (a.toNat * 256 + b.toNat)), 3) := dk_of ((dk_bind (dk_u1 (h 0 _ rfl))).trans ((dk_bind (dk_map (dk_u2 (h 1 _ rfl) (h 2 _ rfl)))).trans rfl))
theorem dk_161 {code : ByteArray} {pc : Nat} (a b : UInt8) (h : DkAt code pc [161, a, b]) : decode code pc = .ok (.if_icmp .lt (Reader.signed 16 (a.toNat * 256 + b.toNat)), 3) := dk_of ((dk_bind (dk_u1 (h 0 _ rfl))).trans ((dk_bind (dk_map (dk_u2 (h 1 _ rfl) (h 2 _ rfl)))).trans rfl))
theorem dk_162 {code : ByteArray} {pc : Nat} (a b : UInt8) (h : DkAt code pc [162, a, b]) : decode code pc = .ok (.if_icmp .ge (Reader.signed 16 (a.toNat * 256 + b.toNat)), 3) := dk_of ((dk_bind (dk_u1 (h 0 _ rfl))).trans ((dk_bind (dk_map (dk_u2 (h 1 _ rfl) (h 2 _ rfl)))).trans rfl))
theorem dk_164 {code : ByteArray} {pc : Nat} (a b : UInt8) (h : DkAt code pc [164, a, b]) : decode code pc = .ok (.if_icmp .le (Reader.signed 16 (a.toNat * 256 + b.toNat)), 3) := dk_of ((dk_bind (dk_u1 (h 0 _ rfl))).trans ((dk_bind (dk_map (dk_u2 (h 1 _ rfl) (h 2 _ rfl)))).trans rfl))
theorem dk_167 {code : ByteArray} {pc : Nat} (a b : UInt8) (h : DkAt code pc [167, a, b]) : decode code pc = .ok (.goto (Reader.signed 16 (a.toNat * 256 + b.toNat)), 3) := dk_of ((dk_bind (dk_u1 (h 0 _ rfl))).trans ((dk_bind (dk_map (dk_u2 (h 1 _ rfl) (h 2 _ rfl)))).trans rfl))
theorem dk_172 {code : ByteArray} {pc : Nat} (h : DkAt code pc [172]) : decode code pc = .ok (.ireturn, 1) := dk_of ((dk_bind (dk_u1 (h 0 _ rfl))).trans rfl)
theorem dk_176 {code : ByteArray} {pc : Nat} (h : DkAt code pc [176]) : decode code pc = .ok (.areturn, 1) := dk_of ((dk_bind (dk_u1 (h 0 _ rfl))).trans rfl)
theorem dk_177 {code : ByteArray} {pc : Nat} (h : DkAt code pc [177]) : decode code pc = .ok (.return_, 1) := dk_of ((dk_bind (dk_u1 (h 0 _ rfl))).trans rfl)
theorem dk_178 {code : ByteArray} {pc : Nat} (a b : UInt8) (h : DkAt code pc [178, a, b]) : decode code pc = .ok (.getstatic (a.toNat * 256 + b.toNat), 3) := dk_of ((dk_bind (dk_u1 (h 0 _ rfl))).trans ((dk_bind (dk_u2 (h 1 _ rfl) (h 2 _ rfl))).trans rfl))
theorem dk_180 {code : ByteArray} {pc : Nat} (a b : UInt8) (h : DkAt code pc [180, a, b]) : decode code pc = .ok (.getfield (a.toNat * 256 + b.toNat), 3) := dk_of ((dk_bind (dk_u1 (h 0 _ rfl))).trans ((dk_bind (dk_u2 (h 1 _ rfl) (h 2 _ rfl))).trans rfl))
theorem dk_181 {code : ByteArray} {pc : Nat} (a b : UInt8) (h : DkAt code pc [181, a, b]) : decode code pc = .ok (.putfield (a.toNat * 256 + b.toNat), 3) := dk_of ((dk_bind (dk_u1 (h 0 _ rfl))).trans ((dk_bind (dk_u2 (h 1 _ rfl) (h 2 _ rfl))).trans rfl))
theorem dk_182 {code : ByteArray} {pc : Nat} (a b : UInt8) (h : DkAt code pc [182, a, b]) : decode code pc = .ok (.invokevirtual (a.toNat * 256 + b.toNat), 3) := dk_of ((dk_bind (dk_u1 (h 0 _ rfl))).trans ((dk_bind (dk_u2 (h 1 _ rfl) (h 2 _ rfl))).trans rfl))
theorem dk_183 {code : ByteArray} {pc : Nat} (a b : UInt8) (h : DkAt code pc [183, a, b]) : decode code pc = .ok (.invokespecial (a.toNat * 256 + b.toNat), 3) := dk_of ((dk_bind (dk_u1 (h 0 _ rfl))).trans ((dk_bind (dk_u2 (h 1 _ rfl) (h 2 _ rfl))).trans rfl))
theorem dk_184 {code : ByteArray} {pc : Nat} (a b : UInt8) (h : DkAt code pc [184, a, b]) : decode code pc = .ok (.invokestatic (a.toNat * 256 + b.toNat), 3) := dk_of ((dk_bind (dk_u1 (h 0 _ rfl))).trans ((dk_bind (dk_u2 (h 1 _ rfl) (h 2 _ rfl))).trans rfl))
theorem dk_187 {code : ByteArray} {pc : Nat} (a b : UInt8) (h : DkAt code pc [187, a, b]) : decode code pc = .ok (.new (a.toNat * 256 + b.toNat), 3) := dk_of ((dk_bind (dk_u1 (h 0 _ rfl))).trans ((dk_bind (dk_u2 (h 1 _ rfl) (h 2 _ rfl))).trans rfl))
theorem dk_188_8 {code : ByteArray} {pc : Nat} (h : DkAt code pc [188, 8]) : decode code pc = .ok (.newarray .byte, 2) := dk_of ((dk_bind (dk_u1 (h 0 _ rfl))).trans ((dk_bind (dk_u1 (h 1 _ rfl))).trans rfl))
theorem dk_188_10 {code : ByteArray} {pc : Nat} (h : DkAt code pc [188, 10]) : decode code pc = .ok (.newarray .int, 2) := dk_of ((dk_bind (dk_u1 (h 0 _ rfl))).trans ((dk_bind (dk_u1 (h 1 _ rfl))).trans rfl))
theorem dk_190 {code : ByteArray} {pc : Nat} (h : DkAt code pc [190]) : decode code pc = .ok (.arraylength, 1) := dk_of ((dk_bind (dk_u1 (h 0 _ rfl))).trans rfl)
theorem dk_191 {code : ByteArray} {pc : Nat} (h : DkAt code pc [191]) : decode code pc = .ok (.athrow, 1) := dk_of ((dk_bind (dk_u1 (h 0 _ rfl))).trans rfl)
theorem dk_192 {code : ByteArray} {pc : Nat} (a b : UInt8) (h : DkAt code pc [192, a, b]) : decode code pc = .ok (.checkcast (a.toNat * 256 + b.toNat), 3) := dk_of ((dk_bind (dk_u1 (h 0 _ rfl))).trans ((dk_bind (dk_u2 (h 1 _ rfl) (h 2 _ rfl))).trans rfl))
theorem dk_193 {code : ByteArray} {pc : Nat} (a b : UInt8) (h : DkAt code pc [193, a, b]) : decode code pc = .ok (.instanceof (a.toNat * 256 + b.toNat), 3) := dk_of ((dk_bind (dk_u1 (h 0 _ rfl))).trans ((dk_bind (dk_u2 (h 1 _ rfl) (h 2 _ rfl))).trans rfl))
theorem dk_198 {code : ByteArray} {pc : Nat} (a b : UInt8) (h : DkAt code pc [198, a, b]) : decode code pc = .ok (.ifnull (Reader.signed 16 (a.toNat * 256 + b.toNat)), 3) := dk_of ((dk_bind (dk_u1 (h 0 _ rfl))).trans ((dk_bind (dk_map (dk_u2 (h 1 _ rfl) (h 2 _ rfl)))).trans rfl))
theorem dk_199 {code : ByteArray} {pc : Nat} (a b : UInt8) (h : DkAt code pc [199, a, b]) : decode code pc = .ok (.ifnonnull (Reader.signed 16 (a.toNat * 256 + b.toNat)), 3) := dk_of ((dk_bind (dk_u1 (h 0 _ rfl))).trans ((dk_bind (dk_map (dk_u2 (h 1 _ rfl) (h 2 _ rfl)))).trans rfl))
theorem q113 : (Jvm.Cond.arrayClass Jvm.ClassFile.FieldType.byte) ∈ lw_all := lw_g (lw_at lw_m1 107 rfl) rfl
set_option maxRecDepth 100000
theorem q302 : (Jvm.Cond.arrayClass Jvm.ClassFile.FieldType.int) ∈ lw_all := lw_g (lw_at lw_m2 56 rfl) rfl
theorem q15 : (Jvm.Cond.initialized "java/lang/System") ∈ lw_all := lw_g (lw_at lw_m1 9 rfl) rfl
set_option maxRecDepth 100000
theorem q370 : (Jvm.Cond.static ({ cls := "java/lang/System", name := "arraycopy", desc := "(Ljava/lang/Object;ILjava/lang/Object;II)V" } : Jvm.MethodName)) ∈ lw_all := lw_g (lw_at lw_m2 124 rfl) rfl
theorem q371 : (Jvm.Cond.native ({ cls := "java/lang/System", name := "arraycopy", desc := "(Ljava/lang/Object;ILjava/lang/Object;II)V" } : Jvm.MethodName)) ∈ lw_all := lw_g (lw_at lw_m2 125 rfl) rfl
/-! java/lang/Object -/
set_option maxRecDepth 100000
def RJ6 : String := "java/lang/Object"
abbrev cJ6_init : ByteArray := object_method_1_code
def yJ6_init : MethodName := ⟨RJ6, "<init>", "()V"⟩
theorem dJ6_init_0 : decode cJ6_init 0 = .ok (.return_, 1) := by decide +kernel
theorem q68 : (Jvm.Cond.instanceMethod ({ cls := "java/lang/Object", name := "<init>", desc := "()V" } : Jvm.MethodName)) ∈ lw_all := lw_g (lw_at lw_m1 62 rfl) rfl
theorem q69 : (Jvm.Cond.code ({ cls := "java/lang/Object", name := "<init>", desc := "()V" } : Jvm.MethodName) object_method_1_code (1 : Nat) (Option.none : Option Jvm.ClassFile.FieldType)) ∈ lw_all := lw_g (lw_at lw_m1 63 rfl) rfl
/-! java/lang/Integer -/
set_option maxRecDepth 100000
def RJ5 : String := "java/lang/Integer"
abbrev cJ5_rotateLeft : ByteArray := prog_17_method_50_code
def yJ5_rotateLeft : MethodName := ⟨RJ5, "rotateLeft", "(II)I"⟩
def dkwJ5_rotateLeft_0 : List UInt8 := [26, 27, 120, 26, 27, 116, 124, 128, 172]
abbrev dktJ5_rotateLeft_0 : List UInt8 := dkwJ5_rotateLeft_0 ++ []
theorem dksJ5_rotateLeft_0 : cJ5_rotateLeft.data.toList.drop 0 = dktJ5_rotateLeft_0 := by decide +kernel
theorem dJ5_rotateLeft_0 : decode cJ5_rotateLeft 0 = .ok (.iload_n 0, 1) := dk_26 (dk_at dksJ5_rotateLeft_0 0 rfl rfl)
theorem dJ5_rotateLeft_1 : decode cJ5_rotateLeft 1 = .ok (.iload_n 1, 1) := dk_27 (dk_at dksJ5_rotateLeft_0 1 rfl rfl)
theorem dJ5_rotateLeft_2 : decode cJ5_rotateLeft 2 = .ok (.ishl, 1) := dk_120 (dk_at dksJ5_rotateLeft_0 2 rfl rfl)
theorem dJ5_rotateLeft_3 : decode cJ5_rotateLeft 3 = .ok (.iload_n 0, 1) := dk_26 (dk_at dksJ5_rotateLeft_0 3 rfl rfl)
theorem dJ5_rotateLeft_4 : decode cJ5_rotateLeft 4 = .ok (.iload_n 1, 1) := dk_27 (dk_at dksJ5_rotateLeft_0 4 rfl rfl)
theorem dJ5_rotateLeft_5 : decode cJ5_rotateLeft 5 = .ok (.ineg, 1) := dk_116 (dk_at dksJ5_rotateLeft_0 5 rfl rfl)
theorem dJ5_rotateLeft_6 : decode cJ5_rotateLeft 6 = .ok (.iushr, 1) := dk_124 (dk_at dksJ5_rotateLeft_0 6 rfl rfl)
theorem dJ5_rotateLeft_7 : decode cJ5_rotateLeft 7 = .ok (.ior, 1) := dk_128 (dk_at dksJ5_rotateLeft_0 7 rfl rfl)
theorem dJ5_rotateLeft_8 : decode cJ5_rotateLeft 8 = .ok (.ireturn, 1) := dk_172 (dk_at dksJ5_rotateLeft_0 8 rfl rfl)
theorem q19 : (Jvm.Cond.initialized "java/lang/Integer") ∈ lw_all := lw_g (lw_at lw_m1 13 rfl) rfl
theorem q213 : (Jvm.Cond.static ({ cls := "java/lang/Integer", name := "rotateLeft", desc := "(II)I" } : Jvm.MethodName)) ∈ lw_all := lw_g (lw_at lw_m1 207 rfl) rfl
theorem q214 : (Jvm.Cond.code ({ cls := "java/lang/Integer", name := "rotateLeft", desc := "(II)I" } : Jvm.MethodName) prog_17_method_50_code (2 : Nat) (Option.some Jvm.ClassFile.FieldType.int)) ∈ lw_all := lw_g (lw_at lw_m1 208 rfl) rfl
/-! Integers -/
set_option maxRecDepth 100000
def RX6 : String := "Integers"
abbrev cX6_rotateLeft : ByteArray := prog_3_method_2_code
def yX6_rotateLeft : MethodName := ⟨RX6, "rotateLeft", "(II)I"⟩
def dkwX6_rotateLeft_0 : List UInt8 := [26, 27, 184, 0, 7, 172]
abbrev dktX6_rotateLeft_0 : List UInt8 := dkwX6_rotateLeft_0 ++ []
theorem dksX6_rotateLeft_0 : cX6_rotateLeft.data.toList.drop 0 = dktX6_rotateLeft_0 := by decide +kernel
theorem dX6_rotateLeft_0 : decode cX6_rotateLeft 0 = .ok (.iload_n 0, 1) := dk_26 (dk_at dksX6_rotateLeft_0 0 rfl rfl)
theorem dX6_rotateLeft_1 : decode cX6_rotateLeft 1 = .ok (.iload_n 1, 1) := dk_27 (dk_at dksX6_rotateLeft_0 1 rfl rfl)
theorem dX6_rotateLeft_2 : decode cX6_rotateLeft 2 = .ok (.invokestatic 7, 3) := dk_184 0 7 (dk_at dksX6_rotateLeft_0 2 rfl rfl)
theorem dX6_rotateLeft_5 : decode cX6_rotateLeft 5 = .ok (.ireturn, 1) := dk_172 (dk_at dksX6_rotateLeft_0 5 rfl rfl)
theorem q18 : (Jvm.Cond.initialized "Integers") ∈ lw_all := lw_g (lw_at lw_m1 12 rfl) rfl
theorem q210 : (Jvm.Cond.static ({ cls := "Integers", name := "rotateLeft", desc := "(II)I" } : Jvm.MethodName)) ∈ lw_all := lw_g (lw_at lw_m1 204 rfl) rfl
theorem q211 : (Jvm.Cond.code ({ cls := "Integers", name := "rotateLeft", desc := "(II)I" } : Jvm.MethodName) prog_3_method_2_code (2 : Nat) (Option.some Jvm.ClassFile.FieldType.int)) ∈ lw_all := lw_g (lw_at lw_m1 205 rfl) rfl
theorem q212 : (Jvm.Cond.methodLink "Integers" (7 : Nat) ({ cls := "java/lang/Integer", name := "rotateLeft", desc := "(II)I" } : Jvm.MethodName)) ∈ lw_all := lw_g (lw_at lw_m1 206 rfl) rfl
/-! Pack -/
set_option maxRecDepth 100000
def RX5 : String := "Pack"
abbrev cX5_intToLittleEndian : ByteArray := prog_7_method_7_code
def yX5_intToLittleEndian : MethodName := ⟨RX5, "intToLittleEndian", "([I[BI)V"⟩
def dkwX5_intToLittleEndian_1 : List UInt8 := [167, 255, 236, 177]
abbrev dktX5_intToLittleEndian_1 : List UInt8 := dkwX5_intToLittleEndian_1 ++ []
def dkwX5_intToLittleEndian_0 : List UInt8 := [3, 62, 29, 42, 190, 162, 0, 20, 42, 29, 46, 43, 28, 184, 0, 16, 132, 2, 4, 132, 3, 1]
abbrev dktX5_intToLittleEndian_0 : List UInt8 := dkwX5_intToLittleEndian_0 ++ dktX5_intToLittleEndian_1
theorem dksX5_intToLittleEndian_0 : cX5_intToLittleEndian.data.toList.drop 0 = dktX5_intToLittleEndian_0 := by decide +kernel
theorem dksX5_intToLittleEndian_1 : cX5_intToLittleEndian.data.toList.drop 22 = dktX5_intToLittleEndian_1 := dk_seg dksX5_intToLittleEndian_0 22 rfl rfl
theorem dX5_intToLittleEndian_0 : decode cX5_intToLittleEndian 0 = .ok (.iconst 0, 1) := dk_3 (dk_at dksX5_intToLittleEndian_0 0 rfl rfl)
theorem dX5_intToLittleEndian_1 : decode cX5_intToLittleEndian 1 = .ok (.istore_n 3, 1) := dk_62 (dk_at dksX5_intToLittleEndian_0 1 rfl rfl)
theorem dX5_intToLittleEndian_2 : decode cX5_intToLittleEndian 2 = .ok (.iload_n 3, 1) := dk_29 (dk_at dksX5_intToLittleEndian_0 2 rfl rfl)
theorem dX5_intToLittleEndian_3 : decode cX5_intToLittleEndian 3 = .ok (.aload_n 0, 1) := dk_42 (dk_at dksX5_intToLittleEndian_0 3 rfl rfl)
theorem dX5_intToLittleEndian_4 : decode cX5_intToLittleEndian 4 = .ok (.arraylength, 1) := dk_190 (dk_at dksX5_intToLittleEndian_0 4 rfl rfl)
theorem dX5_intToLittleEndian_5 : decode cX5_intToLittleEndian 5 = .ok (.if_icmp .ge 20, 3) := dk_162 0 20 (dk_at dksX5_intToLittleEndian_0 5 rfl rfl)
theorem dX5_intToLittleEndian_8 : decode cX5_intToLittleEndian 8 = .ok (.aload_n 0, 1) := dk_42 (dk_at dksX5_intToLittleEndian_0 8 rfl rfl)
theorem dX5_intToLittleEndian_9 : decode cX5_intToLittleEndian 9 = .ok (.iload_n 3, 1) := dk_29 (dk_at dksX5_intToLittleEndian_0 9 rfl rfl)
theorem dX5_intToLittleEndian_10 : decode cX5_intToLittleEndian 10 = .ok (.iaload, 1) := dk_46 (dk_at dksX5_intToLittleEndian_0 10 rfl rfl)
theorem dX5_intToLittleEndian_11 : decode cX5_intToLittleEndian 11 = .ok (.aload_n 1, 1) := dk_43 (dk_at dksX5_intToLittleEndian_0 11 rfl rfl)
theorem dX5_intToLittleEndian_12 : decode cX5_intToLittleEndian 12 = .ok (.iload_n 2, 1) := dk_28 (dk_at dksX5_intToLittleEndian_0 12 rfl rfl)
theorem dX5_intToLittleEndian_13 : decode cX5_intToLittleEndian 13 = .ok (.invokestatic 16, 3) := dk_184 0 16 (dk_at dksX5_intToLittleEndian_0 13 rfl rfl)
theorem dX5_intToLittleEndian_16 : decode cX5_intToLittleEndian 16 = .ok (.iinc 2 4, 3) := dk_132 2 4 (dk_at dksX5_intToLittleEndian_0 16 rfl rfl)
theorem dX5_intToLittleEndian_19 : decode cX5_intToLittleEndian 19 = .ok (.iinc 3 1, 3) := dk_132 3 1 (dk_at dksX5_intToLittleEndian_0 19 rfl rfl)
theorem dX5_intToLittleEndian_22 : decode cX5_intToLittleEndian 22 = .ok (.goto (-20), 3) := dk_167 255 236 (dk_at dksX5_intToLittleEndian_1 0 rfl rfl)
theorem dX5_intToLittleEndian_25 : decode cX5_intToLittleEndian 25 = .ok (.return_, 1) := dk_177 (dk_at dksX5_intToLittleEndian_1 3 rfl rfl)
abbrev cX5_intToLittleEndian_2 : ByteArray := prog_7_method_6_code
def yX5_intToLittleEndian_2 : MethodName := ⟨RX5, "intToLittleEndian", "(I[BI)V"⟩
def dkwX5_intToLittleEndian_2_1 : List UInt8 := [124, 145, 84, 43, 132, 2, 1, 28, 26, 16, 24, 124, 145, 84, 177]
abbrev dktX5_intToLittleEndian_2_1 : List UInt8 := dkwX5_intToLittleEndian_2_1 ++ []
def dkwX5_intToLittleEndian_2_0 : List UInt8 := [43, 28, 26, 145, 84, 43, 132, 2, 1, 28, 26, 16, 8, 124, 145, 84, 43, 132, 2, 1, 28, 26, 16, 16]
abbrev dktX5_intToLittleEndian_2_0 : List UInt8 := dkwX5_intToLittleEndian_2_0 ++ dktX5_intToLittleEndian_2_1
theorem dksX5_intToLittleEndian_2_0 : cX5_intToLittleEndian_2.data.toList.drop 0 = dktX5_intToLittleEndian_2_0 := by decide +kernel
theorem dksX5_intToLittleEndian_2_1 : cX5_intToLittleEndian_2.data.toList.drop 24 = dktX5_intToLittleEndian_2_1 := dk_seg dksX5_intToLittleEndian_2_0 24 rfl rfl
theorem dX5_intToLittleEndian_2_0 : decode cX5_intToLittleEndian_2 0 = .ok (.aload_n 1, 1) := dk_43 (dk_at dksX5_intToLittleEndian_2_0 0 rfl rfl)
theorem dX5_intToLittleEndian_2_1 : decode cX5_intToLittleEndian_2 1 = .ok (.iload_n 2, 1) := dk_28 (dk_at dksX5_intToLittleEndian_2_0 1 rfl rfl)
theorem dX5_intToLittleEndian_2_2 : decode cX5_intToLittleEndian_2 2 = .ok (.iload_n 0, 1) := dk_26 (dk_at dksX5_intToLittleEndian_2_0 2 rfl rfl)
theorem dX5_intToLittleEndian_2_3 : decode cX5_intToLittleEndian_2 3 = .ok (.i2b, 1) := dk_145 (dk_at dksX5_intToLittleEndian_2_0 3 rfl rfl)
theorem dX5_intToLittleEndian_2_4 : decode cX5_intToLittleEndian_2 4 = .ok (.bastore, 1) := dk_84 (dk_at dksX5_intToLittleEndian_2_0 4 rfl rfl)
theorem dX5_intToLittleEndian_2_5 : decode cX5_intToLittleEndian_2 5 = .ok (.aload_n 1, 1) := dk_43 (dk_at dksX5_intToLittleEndian_2_0 5 rfl rfl)
theorem dX5_intToLittleEndian_2_6 : decode cX5_intToLittleEndian_2 6 = .ok (.iinc 2 1, 3) := dk_132 2 1 (dk_at dksX5_intToLittleEndian_2_0 6 rfl rfl)
theorem dX5_intToLittleEndian_2_9 : decode cX5_intToLittleEndian_2 9 = .ok (.iload_n 2, 1) := dk_28 (dk_at dksX5_intToLittleEndian_2_0 9 rfl rfl)
theorem dX5_intToLittleEndian_2_10 : decode cX5_intToLittleEndian_2 10 = .ok (.iload_n 0, 1) := dk_26 (dk_at dksX5_intToLittleEndian_2_0 10 rfl rfl)
theorem dX5_intToLittleEndian_2_11 : decode cX5_intToLittleEndian_2 11 = .ok (.bipush 8, 2) := dk_16 8 (dk_at dksX5_intToLittleEndian_2_0 11 rfl rfl)
theorem dX5_intToLittleEndian_2_13 : decode cX5_intToLittleEndian_2 13 = .ok (.iushr, 1) := dk_124 (dk_at dksX5_intToLittleEndian_2_0 13 rfl rfl)
theorem dX5_intToLittleEndian_2_14 : decode cX5_intToLittleEndian_2 14 = .ok (.i2b, 1) := dk_145 (dk_at dksX5_intToLittleEndian_2_0 14 rfl rfl)
theorem dX5_intToLittleEndian_2_15 : decode cX5_intToLittleEndian_2 15 = .ok (.bastore, 1) := dk_84 (dk_at dksX5_intToLittleEndian_2_0 15 rfl rfl)
theorem dX5_intToLittleEndian_2_16 : decode cX5_intToLittleEndian_2 16 = .ok (.aload_n 1, 1) := dk_43 (dk_at dksX5_intToLittleEndian_2_0 16 rfl rfl)
theorem dX5_intToLittleEndian_2_17 : decode cX5_intToLittleEndian_2 17 = .ok (.iinc 2 1, 3) := dk_132 2 1 (dk_at dksX5_intToLittleEndian_2_0 17 rfl rfl)
theorem dX5_intToLittleEndian_2_20 : decode cX5_intToLittleEndian_2 20 = .ok (.iload_n 2, 1) := dk_28 (dk_at dksX5_intToLittleEndian_2_0 20 rfl rfl)
theorem dX5_intToLittleEndian_2_21 : decode cX5_intToLittleEndian_2 21 = .ok (.iload_n 0, 1) := dk_26 (dk_at dksX5_intToLittleEndian_2_0 21 rfl rfl)
theorem dX5_intToLittleEndian_2_22 : decode cX5_intToLittleEndian_2 22 = .ok (.bipush 16, 2) := dk_16 16 (dk_at dksX5_intToLittleEndian_2_0 22 rfl rfl)
theorem dX5_intToLittleEndian_2_24 : decode cX5_intToLittleEndian_2 24 = .ok (.iushr, 1) := dk_124 (dk_at dksX5_intToLittleEndian_2_1 0 rfl rfl)
theorem dX5_intToLittleEndian_2_25 : decode cX5_intToLittleEndian_2 25 = .ok (.i2b, 1) := dk_145 (dk_at dksX5_intToLittleEndian_2_1 1 rfl rfl)
theorem dX5_intToLittleEndian_2_26 : decode cX5_intToLittleEndian_2 26 = .ok (.bastore, 1) := dk_84 (dk_at dksX5_intToLittleEndian_2_1 2 rfl rfl)
theorem dX5_intToLittleEndian_2_27 : decode cX5_intToLittleEndian_2 27 = .ok (.aload_n 1, 1) := dk_43 (dk_at dksX5_intToLittleEndian_2_1 3 rfl rfl)
theorem dX5_intToLittleEndian_2_28 : decode cX5_intToLittleEndian_2 28 = .ok (.iinc 2 1, 3) := dk_132 2 1 (dk_at dksX5_intToLittleEndian_2_1 4 rfl rfl)
theorem dX5_intToLittleEndian_2_31 : decode cX5_intToLittleEndian_2 31 = .ok (.iload_n 2, 1) := dk_28 (dk_at dksX5_intToLittleEndian_2_1 7 rfl rfl)
theorem dX5_intToLittleEndian_2_32 : decode cX5_intToLittleEndian_2 32 = .ok (.iload_n 0, 1) := dk_26 (dk_at dksX5_intToLittleEndian_2_1 8 rfl rfl)
theorem dX5_intToLittleEndian_2_33 : decode cX5_intToLittleEndian_2 33 = .ok (.bipush 24, 2) := dk_16 24 (dk_at dksX5_intToLittleEndian_2_1 9 rfl rfl)
theorem dX5_intToLittleEndian_2_35 : decode cX5_intToLittleEndian_2 35 = .ok (.iushr, 1) := dk_124 (dk_at dksX5_intToLittleEndian_2_1 11 rfl rfl)
theorem dX5_intToLittleEndian_2_36 : decode cX5_intToLittleEndian_2 36 = .ok (.i2b, 1) := dk_145 (dk_at dksX5_intToLittleEndian_2_1 12 rfl rfl)
theorem dX5_intToLittleEndian_2_37 : decode cX5_intToLittleEndian_2 37 = .ok (.bastore, 1) := dk_84 (dk_at dksX5_intToLittleEndian_2_1 13 rfl rfl)
theorem dX5_intToLittleEndian_2_38 : decode cX5_intToLittleEndian_2 38 = .ok (.return_, 1) := dk_177 (dk_at dksX5_intToLittleEndian_2_1 14 rfl rfl)
abbrev cX5_littleEndianToInt : ByteArray := prog_7_method_4_code
def yX5_littleEndianToInt : MethodName := ⟨RX5, "littleEndianToInt", "([BI[III)V"⟩
def dkwX5_littleEndianToInt_1 : List UInt8 := [132, 5, 1, 167, 255, 232, 177]
abbrev dktX5_littleEndianToInt_1 : List UInt8 := dkwX5_littleEndianToInt_1 ++ []
def dkwX5_littleEndianToInt_0 : List UInt8 := [3, 54, 5, 21, 5, 21, 4, 162, 0, 23, 44, 29, 21, 5, 96, 42, 27, 184, 0, 7, 79, 132, 1, 4]
abbrev dktX5_littleEndianToInt_0 : List UInt8 := dkwX5_littleEndianToInt_0 ++ dktX5_littleEndianToInt_1
theorem dksX5_littleEndianToInt_0 : cX5_littleEndianToInt.data.toList.drop 0 = dktX5_littleEndianToInt_0 := by decide +kernel
theorem dksX5_littleEndianToInt_1 : cX5_littleEndianToInt.data.toList.drop 24 = dktX5_littleEndianToInt_1 := dk_seg dksX5_littleEndianToInt_0 24 rfl rfl
theorem dX5_littleEndianToInt_0 : decode cX5_littleEndianToInt 0 = .ok (.iconst 0, 1) := dk_3 (dk_at dksX5_littleEndianToInt_0 0 rfl rfl)
theorem dX5_littleEndianToInt_1 : decode cX5_littleEndianToInt 1 = .ok (.istore 5, 2) := dk_54 5 (dk_at dksX5_littleEndianToInt_0 1 rfl rfl)
theorem dX5_littleEndianToInt_3 : decode cX5_littleEndianToInt 3 = .ok (.iload 5, 2) := dk_21 5 (dk_at dksX5_littleEndianToInt_0 3 rfl rfl)
theorem dX5_littleEndianToInt_5 : decode cX5_littleEndianToInt 5 = .ok (.iload 4, 2) := dk_21 4 (dk_at dksX5_littleEndianToInt_0 5 rfl rfl)
theorem dX5_littleEndianToInt_7 : decode cX5_littleEndianToInt 7 = .ok (.if_icmp .ge 23, 3) := dk_162 0 23 (dk_at dksX5_littleEndianToInt_0 7 rfl rfl)
theorem dX5_littleEndianToInt_10 : decode cX5_littleEndianToInt 10 = .ok (.aload_n 2, 1) := dk_44 (dk_at dksX5_littleEndianToInt_0 10 rfl rfl)
theorem dX5_littleEndianToInt_11 : decode cX5_littleEndianToInt 11 = .ok (.iload_n 3, 1) := dk_29 (dk_at dksX5_littleEndianToInt_0 11 rfl rfl)
theorem dX5_littleEndianToInt_12 : decode cX5_littleEndianToInt 12 = .ok (.iload 5, 2) := dk_21 5 (dk_at dksX5_littleEndianToInt_0 12 rfl rfl)
theorem dX5_littleEndianToInt_14 : decode cX5_littleEndianToInt 14 = .ok (.iadd, 1) := dk_96 (dk_at dksX5_littleEndianToInt_0 14 rfl rfl)
theorem dX5_littleEndianToInt_15 : decode cX5_littleEndianToInt 15 = .ok (.aload_n 0, 1) := dk_42 (dk_at dksX5_littleEndianToInt_0 15 rfl rfl)
theorem dX5_littleEndianToInt_16 : decode cX5_littleEndianToInt 16 = .ok (.iload_n 1, 1) := dk_27 (dk_at dksX5_littleEndianToInt_0 16 rfl rfl)
theorem dX5_littleEndianToInt_17 : decode cX5_littleEndianToInt 17 = .ok (.invokestatic 7, 3) := dk_184 0 7 (dk_at dksX5_littleEndianToInt_0 17 rfl rfl)
theorem dX5_littleEndianToInt_20 : decode cX5_littleEndianToInt 20 = .ok (.iastore, 1) := dk_79 (dk_at dksX5_littleEndianToInt_0 20 rfl rfl)
theorem dX5_littleEndianToInt_21 : decode cX5_littleEndianToInt 21 = .ok (.iinc 1 4, 3) := dk_132 1 4 (dk_at dksX5_littleEndianToInt_0 21 rfl rfl)
theorem dX5_littleEndianToInt_24 : decode cX5_littleEndianToInt 24 = .ok (.iinc 5 1, 3) := dk_132 5 1 (dk_at dksX5_littleEndianToInt_1 0 rfl rfl)
theorem dX5_littleEndianToInt_27 : decode cX5_littleEndianToInt 27 = .ok (.goto (-24), 3) := dk_167 255 232 (dk_at dksX5_littleEndianToInt_1 3 rfl rfl)
theorem dX5_littleEndianToInt_30 : decode cX5_littleEndianToInt 30 = .ok (.return_, 1) := dk_177 (dk_at dksX5_littleEndianToInt_1 6 rfl rfl)
abbrev cX5_littleEndianToInt_2 : ByteArray := prog_7_method_2_code
def yX5_littleEndianToInt_2 : MethodName := ⟨RX5, "littleEndianToInt", "([BI)I"⟩
def dkwX5_littleEndianToInt_2_2 : List UInt8 := [16, 24, 120, 128, 61, 28, 172]
abbrev dktX5_littleEndianToInt_2_2 : List UInt8 := dkwX5_littleEndianToInt_2_2 ++ []
def dkwX5_littleEndianToInt_2_1 : List UInt8 := [28, 42, 132, 1, 1, 27, 51, 17, 0, 255, 126, 16, 16, 120, 128, 61, 28, 42, 132, 1, 1, 27, 51]
abbrev dktX5_littleEndianToInt_2_1 : List UInt8 := dkwX5_littleEndianToInt_2_1 ++ dktX5_littleEndianToInt_2_2
def dkwX5_littleEndianToInt_2_0 : List UInt8 := [42, 27, 51, 17, 0, 255, 126, 61, 28, 42, 132, 1, 1, 27, 51, 17, 0, 255, 126, 16, 8, 120, 128, 61]
abbrev dktX5_littleEndianToInt_2_0 : List UInt8 := dkwX5_littleEndianToInt_2_0 ++ dktX5_littleEndianToInt_2_1
theorem dksX5_littleEndianToInt_2_0 : cX5_littleEndianToInt_2.data.toList.drop 0 = dktX5_littleEndianToInt_2_0 := by decide +kernel
theorem dksX5_littleEndianToInt_2_1 : cX5_littleEndianToInt_2.data.toList.drop 24 = dktX5_littleEndianToInt_2_1 := dk_seg dksX5_littleEndianToInt_2_0 24 rfl rfl
theorem dksX5_littleEndianToInt_2_2 : cX5_littleEndianToInt_2.data.toList.drop 47 = dktX5_littleEndianToInt_2_2 := dk_seg dksX5_littleEndianToInt_2_1 23 rfl rfl
theorem dX5_littleEndianToInt_2_0 : decode cX5_littleEndianToInt_2 0 = .ok (.aload_n 0, 1) := dk_42 (dk_at dksX5_littleEndianToInt_2_0 0 rfl rfl)
theorem dX5_littleEndianToInt_2_1 : decode cX5_littleEndianToInt_2 1 = .ok (.iload_n 1, 1) := dk_27 (dk_at dksX5_littleEndianToInt_2_0 1 rfl rfl)
theorem dX5_littleEndianToInt_2_2 : decode cX5_littleEndianToInt_2 2 = .ok (.baload, 1) := dk_51 (dk_at dksX5_littleEndianToInt_2_0 2 rfl rfl)
theorem dX5_littleEndianToInt_2_3 : decode cX5_littleEndianToInt_2 3 = .ok (.sipush 255, 3) := dk_17 0 255 (dk_at dksX5_littleEndianToInt_2_0 3 rfl rfl)
theorem dX5_littleEndianToInt_2_6 : decode cX5_littleEndianToInt_2 6 = .ok (.iand, 1) := dk_126 (dk_at dksX5_littleEndianToInt_2_0 6 rfl rfl)
theorem dX5_littleEndianToInt_2_7 : decode cX5_littleEndianToInt_2 7 = .ok (.istore_n 2, 1) := dk_61 (dk_at dksX5_littleEndianToInt_2_0 7 rfl rfl)
theorem dX5_littleEndianToInt_2_8 : decode cX5_littleEndianToInt_2 8 = .ok (.iload_n 2, 1) := dk_28 (dk_at dksX5_littleEndianToInt_2_0 8 rfl rfl)
theorem dX5_littleEndianToInt_2_9 : decode cX5_littleEndianToInt_2 9 = .ok (.aload_n 0, 1) := dk_42 (dk_at dksX5_littleEndianToInt_2_0 9 rfl rfl)
theorem dX5_littleEndianToInt_2_10 : decode cX5_littleEndianToInt_2 10 = .ok (.iinc 1 1, 3) := dk_132 1 1 (dk_at dksX5_littleEndianToInt_2_0 10 rfl rfl)
theorem dX5_littleEndianToInt_2_13 : decode cX5_littleEndianToInt_2 13 = .ok (.iload_n 1, 1) := dk_27 (dk_at dksX5_littleEndianToInt_2_0 13 rfl rfl)
theorem dX5_littleEndianToInt_2_14 : decode cX5_littleEndianToInt_2 14 = .ok (.baload, 1) := dk_51 (dk_at dksX5_littleEndianToInt_2_0 14 rfl rfl)
theorem dX5_littleEndianToInt_2_15 : decode cX5_littleEndianToInt_2 15 = .ok (.sipush 255, 3) := dk_17 0 255 (dk_at dksX5_littleEndianToInt_2_0 15 rfl rfl)
theorem dX5_littleEndianToInt_2_18 : decode cX5_littleEndianToInt_2 18 = .ok (.iand, 1) := dk_126 (dk_at dksX5_littleEndianToInt_2_0 18 rfl rfl)
theorem dX5_littleEndianToInt_2_19 : decode cX5_littleEndianToInt_2 19 = .ok (.bipush 8, 2) := dk_16 8 (dk_at dksX5_littleEndianToInt_2_0 19 rfl rfl)
theorem dX5_littleEndianToInt_2_21 : decode cX5_littleEndianToInt_2 21 = .ok (.ishl, 1) := dk_120 (dk_at dksX5_littleEndianToInt_2_0 21 rfl rfl)
theorem dX5_littleEndianToInt_2_22 : decode cX5_littleEndianToInt_2 22 = .ok (.ior, 1) := dk_128 (dk_at dksX5_littleEndianToInt_2_0 22 rfl rfl)
theorem dX5_littleEndianToInt_2_23 : decode cX5_littleEndianToInt_2 23 = .ok (.istore_n 2, 1) := dk_61 (dk_at dksX5_littleEndianToInt_2_0 23 rfl rfl)
theorem dX5_littleEndianToInt_2_24 : decode cX5_littleEndianToInt_2 24 = .ok (.iload_n 2, 1) := dk_28 (dk_at dksX5_littleEndianToInt_2_1 0 rfl rfl)
theorem dX5_littleEndianToInt_2_25 : decode cX5_littleEndianToInt_2 25 = .ok (.aload_n 0, 1) := dk_42 (dk_at dksX5_littleEndianToInt_2_1 1 rfl rfl)
theorem dX5_littleEndianToInt_2_26 : decode cX5_littleEndianToInt_2 26 = .ok (.iinc 1 1, 3) := dk_132 1 1 (dk_at dksX5_littleEndianToInt_2_1 2 rfl rfl)
theorem dX5_littleEndianToInt_2_29 : decode cX5_littleEndianToInt_2 29 = .ok (.iload_n 1, 1) := dk_27 (dk_at dksX5_littleEndianToInt_2_1 5 rfl rfl)
theorem dX5_littleEndianToInt_2_30 : decode cX5_littleEndianToInt_2 30 = .ok (.baload, 1) := dk_51 (dk_at dksX5_littleEndianToInt_2_1 6 rfl rfl)
theorem dX5_littleEndianToInt_2_31 : decode cX5_littleEndianToInt_2 31 = .ok (.sipush 255, 3) := dk_17 0 255 (dk_at dksX5_littleEndianToInt_2_1 7 rfl rfl)
theorem dX5_littleEndianToInt_2_34 : decode cX5_littleEndianToInt_2 34 = .ok (.iand, 1) := dk_126 (dk_at dksX5_littleEndianToInt_2_1 10 rfl rfl)
theorem dX5_littleEndianToInt_2_35 : decode cX5_littleEndianToInt_2 35 = .ok (.bipush 16, 2) := dk_16 16 (dk_at dksX5_littleEndianToInt_2_1 11 rfl rfl)
theorem dX5_littleEndianToInt_2_37 : decode cX5_littleEndianToInt_2 37 = .ok (.ishl, 1) := dk_120 (dk_at dksX5_littleEndianToInt_2_1 13 rfl rfl)
theorem dX5_littleEndianToInt_2_38 : decode cX5_littleEndianToInt_2 38 = .ok (.ior, 1) := dk_128 (dk_at dksX5_littleEndianToInt_2_1 14 rfl rfl)
theorem dX5_littleEndianToInt_2_39 : decode cX5_littleEndianToInt_2 39 = .ok (.istore_n 2, 1) := dk_61 (dk_at dksX5_littleEndianToInt_2_1 15 rfl rfl)
theorem dX5_littleEndianToInt_2_40 : decode cX5_littleEndianToInt_2 40 = .ok (.iload_n 2, 1) := dk_28 (dk_at dksX5_littleEndianToInt_2_1 16 rfl rfl)
theorem dX5_littleEndianToInt_2_41 : decode cX5_littleEndianToInt_2 41 = .ok (.aload_n 0, 1) := dk_42 (dk_at dksX5_littleEndianToInt_2_1 17 rfl rfl)
theorem dX5_littleEndianToInt_2_42 : decode cX5_littleEndianToInt_2 42 = .ok (.iinc 1 1, 3) := dk_132 1 1 (dk_at dksX5_littleEndianToInt_2_1 18 rfl rfl)
theorem dX5_littleEndianToInt_2_45 : decode cX5_littleEndianToInt_2 45 = .ok (.iload_n 1, 1) := dk_27 (dk_at dksX5_littleEndianToInt_2_1 21 rfl rfl)
theorem dX5_littleEndianToInt_2_46 : decode cX5_littleEndianToInt_2 46 = .ok (.baload, 1) := dk_51 (dk_at dksX5_littleEndianToInt_2_1 22 rfl rfl)
theorem dX5_littleEndianToInt_2_47 : decode cX5_littleEndianToInt_2 47 = .ok (.bipush 24, 2) := dk_16 24 (dk_at dksX5_littleEndianToInt_2_2 0 rfl rfl)
theorem dX5_littleEndianToInt_2_49 : decode cX5_littleEndianToInt_2 49 = .ok (.ishl, 1) := dk_120 (dk_at dksX5_littleEndianToInt_2_2 2 rfl rfl)
theorem dX5_littleEndianToInt_2_50 : decode cX5_littleEndianToInt_2 50 = .ok (.ior, 1) := dk_128 (dk_at dksX5_littleEndianToInt_2_2 3 rfl rfl)
theorem dX5_littleEndianToInt_2_51 : decode cX5_littleEndianToInt_2 51 = .ok (.istore_n 2, 1) := dk_61 (dk_at dksX5_littleEndianToInt_2_2 4 rfl rfl)
theorem dX5_littleEndianToInt_2_52 : decode cX5_littleEndianToInt_2 52 = .ok (.iload_n 2, 1) := dk_28 (dk_at dksX5_littleEndianToInt_2_2 5 rfl rfl)
theorem dX5_littleEndianToInt_2_53 : decode cX5_littleEndianToInt_2 53 = .ok (.ireturn, 1) := dk_172 (dk_at dksX5_littleEndianToInt_2_2 6 rfl rfl)
theorem q17 : (Jvm.Cond.initialized "Pack") ∈ lw_all := lw_g (lw_at lw_m1 11 rfl) rfl
theorem q216 : (Jvm.Cond.static ({ cls := "Pack", name := "intToLittleEndian", desc := "([I[BI)V" } : Jvm.MethodName)) ∈ lw_all := lw_g (lw_at lw_m1 210 rfl) rfl
theorem q217 : (Jvm.Cond.code ({ cls := "Pack", name := "intToLittleEndian", desc := "([I[BI)V" } : Jvm.MethodName) prog_7_method_7_code (4 : Nat) (Option.none : Option Jvm.ClassFile.FieldType)) ∈ lw_all := lw_g (lw_at lw_m1 211 rfl) rfl
theorem q218 : (Jvm.Cond.methodLink "Pack" (16 : Nat) ({ cls := "Pack", name := "intToLittleEndian", desc := "(I[BI)V" } : Jvm.MethodName)) ∈ lw_all := lw_g (lw_at lw_m1 212 rfl) rfl
theorem q219 : (Jvm.Cond.static ({ cls := "Pack", name := "intToLittleEndian", desc := "(I[BI)V" } : Jvm.MethodName)) ∈ lw_all := lw_g (lw_at lw_m1 213 rfl) rfl
theorem q220 : (Jvm.Cond.code ({ cls := "Pack", name := "intToLittleEndian", desc := "(I[BI)V" } : Jvm.MethodName) prog_7_method_6_code (3 : Nat) (Option.none : Option Jvm.ClassFile.FieldType)) ∈ lw_all := lw_g (lw_at lw_m1 214 rfl) rfl
theorem q411 : (Jvm.Cond.static ({ cls := "Pack", name := "littleEndianToInt", desc := "([BI[III)V" } : Jvm.MethodName)) ∈ lw_all := lw_g (lw_at lw_m2 165 rfl) rfl
theorem q412 : (Jvm.Cond.code ({ cls := "Pack", name := "littleEndianToInt", desc := "([BI[III)V" } : Jvm.MethodName) prog_7_method_4_code (6 : Nat) (Option.none : Option Jvm.ClassFile.FieldType)) ∈ lw_all := lw_g (lw_at lw_m2 166 rfl) rfl
theorem q413 : (Jvm.Cond.methodLink "Pack" (7 : Nat) ({ cls := "Pack", name := "littleEndianToInt", desc := "([BI)I" } : Jvm.MethodName)) ∈ lw_all := lw_g (lw_at lw_m2 167 rfl) rfl
theorem q414 : (Jvm.Cond.static ({ cls := "Pack", name := "littleEndianToInt", desc := "([BI)I" } : Jvm.MethodName)) ∈ lw_all := lw_g (lw_at lw_m2 168 rfl) rfl
theorem q415 : (Jvm.Cond.code ({ cls := "Pack", name := "littleEndianToInt", desc := "([BI)I" } : Jvm.MethodName) prog_7_method_2_code (3 : Nat) (Option.some Jvm.ClassFile.FieldType.int)) ∈ lw_all := lw_g (lw_at lw_m2 169 rfl) rfl
/-! KeyParameter -/
set_option maxRecDepth 100000
def RX4 : String := "KeyParameter"
def TX4 : u_T := fun k => match k with
  | _ => ("KeyParameter", "key", "[B", false)
def tyX4 : Nat → FieldType := fun k => match k with
  | _ => .array .byte
abbrev wsX40 : List Cond := u_ws RX4 TX4 1
theorem nmX4 : ∀ a, a < 1 → ∀ b, b < 1 → a ≠ b → (TX4 a).2.1 ≠ (TX4 b).2.1 := by decide +kernel
theorem tyX4_ok : ∀ k, k < 1 → parseFieldDescriptor (TX4 k).2.2.1 = some (tyX4 k) := by decide +kernel
abbrev cX4_init : ByteArray := prog_4_method_1_code
def yX4_init : MethodName := ⟨RX4, "<init>", "([B)V"⟩
def dkwX4_init_0 : List UInt8 := [42, 43, 3, 43, 190, 183, 0, 1, 177]
abbrev dktX4_init_0 : List UInt8 := dkwX4_init_0 ++ []
theorem dksX4_init_0 : cX4_init.data.toList.drop 0 = dktX4_init_0 := by decide +kernel
theorem dX4_init_0 : decode cX4_init 0 = .ok (.aload_n 0, 1) := dk_42 (dk_at dksX4_init_0 0 rfl rfl)
theorem dX4_init_1 : decode cX4_init 1 = .ok (.aload_n 1, 1) := dk_43 (dk_at dksX4_init_0 1 rfl rfl)
theorem dX4_init_2 : decode cX4_init 2 = .ok (.iconst 0, 1) := dk_3 (dk_at dksX4_init_0 2 rfl rfl)
theorem dX4_init_3 : decode cX4_init 3 = .ok (.aload_n 1, 1) := dk_43 (dk_at dksX4_init_0 3 rfl rfl)
theorem dX4_init_4 : decode cX4_init 4 = .ok (.arraylength, 1) := dk_190 (dk_at dksX4_init_0 4 rfl rfl)
theorem dX4_init_5 : decode cX4_init 5 = .ok (.invokespecial 1, 3) := dk_183 0 1 (dk_at dksX4_init_0 5 rfl rfl)
theorem dX4_init_8 : decode cX4_init 8 = .ok (.return_, 1) := dk_177 (dk_at dksX4_init_0 8 rfl rfl)
abbrev cX4_init_2 : ByteArray := prog_4_method_2_code
def yX4_init_2 : MethodName := ⟨RX4, "<init>", "([BII)V"⟩
def dkwX4_init_2_0 : List UInt8 := [42, 29, 183, 0, 7, 43, 28, 42, 180, 0, 10, 3, 29, 184, 0, 14, 177]
abbrev dktX4_init_2_0 : List UInt8 := dkwX4_init_2_0 ++ []
theorem dksX4_init_2_0 : cX4_init_2.data.toList.drop 0 = dktX4_init_2_0 := by decide +kernel
theorem dX4_init_2_0 : decode cX4_init_2 0 = .ok (.aload_n 0, 1) := dk_42 (dk_at dksX4_init_2_0 0 rfl rfl)
theorem dX4_init_2_1 : decode cX4_init_2 1 = .ok (.iload_n 3, 1) := dk_29 (dk_at dksX4_init_2_0 1 rfl rfl)
theorem dX4_init_2_2 : decode cX4_init_2 2 = .ok (.invokespecial 7, 3) := dk_183 0 7 (dk_at dksX4_init_2_0 2 rfl rfl)
theorem dX4_init_2_5 : decode cX4_init_2 5 = .ok (.aload_n 1, 1) := dk_43 (dk_at dksX4_init_2_0 5 rfl rfl)
theorem dX4_init_2_6 : decode cX4_init_2 6 = .ok (.iload_n 2, 1) := dk_28 (dk_at dksX4_init_2_0 6 rfl rfl)
theorem dX4_init_2_7 : decode cX4_init_2 7 = .ok (.aload_n 0, 1) := dk_42 (dk_at dksX4_init_2_0 7 rfl rfl)
theorem dX4_init_2_8 : decode cX4_init_2 8 = .ok (.getfield 10, 3) := dk_180 0 10 (dk_at dksX4_init_2_0 8 rfl rfl)
theorem dX4_init_2_11 : decode cX4_init_2 11 = .ok (.iconst 0, 1) := dk_3 (dk_at dksX4_init_2_0 11 rfl rfl)
theorem dX4_init_2_12 : decode cX4_init_2 12 = .ok (.iload_n 3, 1) := dk_29 (dk_at dksX4_init_2_0 12 rfl rfl)
theorem dX4_init_2_13 : decode cX4_init_2 13 = .ok (.invokestatic 14, 3) := dk_184 0 14 (dk_at dksX4_init_2_0 13 rfl rfl)
theorem dX4_init_2_16 : decode cX4_init_2 16 = .ok (.return_, 1) := dk_177 (dk_at dksX4_init_2_0 16 rfl rfl)
abbrev cX4_init_3 : ByteArray := prog_4_method_3_code
def yX4_init_3 : MethodName := ⟨RX4, "<init>", "(I)V"⟩
def dkwX4_init_3_0 : List UInt8 := [42, 183, 0, 20, 42, 27, 188, 8, 181, 0, 10, 177]
abbrev dktX4_init_3_0 : List UInt8 := dkwX4_init_3_0 ++ []
theorem dksX4_init_3_0 : cX4_init_3.data.toList.drop 0 = dktX4_init_3_0 := by decide +kernel
theorem dX4_init_3_0 : decode cX4_init_3 0 = .ok (.aload_n 0, 1) := dk_42 (dk_at dksX4_init_3_0 0 rfl rfl)
theorem dX4_init_3_1 : decode cX4_init_3 1 = .ok (.invokespecial 20, 3) := dk_183 0 20 (dk_at dksX4_init_3_0 1 rfl rfl)
theorem dX4_init_3_4 : decode cX4_init_3 4 = .ok (.aload_n 0, 1) := dk_42 (dk_at dksX4_init_3_0 4 rfl rfl)
theorem dX4_init_3_5 : decode cX4_init_3 5 = .ok (.iload_n 1, 1) := dk_27 (dk_at dksX4_init_3_0 5 rfl rfl)
theorem dX4_init_3_6 : decode cX4_init_3 6 = .ok (.newarray .byte, 2) := dk_188_8 (dk_at dksX4_init_3_0 6 rfl rfl)
theorem dX4_init_3_8 : decode cX4_init_3 8 = .ok (.putfield 10, 3) := dk_181 0 10 (dk_at dksX4_init_3_0 8 rfl rfl)
theorem dX4_init_3_11 : decode cX4_init_3 11 = .ok (.return_, 1) := dk_177 (dk_at dksX4_init_3_0 11 rfl rfl)
abbrev cX4_getKey : ByteArray := prog_4_method_4_code
def yX4_getKey : MethodName := ⟨RX4, "getKey", "()[B"⟩
theorem dX4_getKey_0 : decode cX4_getKey 0 = .ok (.aload_n 0, 1) := by decide +kernel
theorem dX4_getKey_1 : decode cX4_getKey 1 = .ok (.getfield 10, 3) := by decide +kernel
theorem dX4_getKey_4 : decode cX4_getKey 4 = .ok (.areturn, 1) := by decide +kernel
theorem q14 : (Jvm.Cond.initialized "KeyParameter") ∈ lw_all := lw_g (lw_at lw_m1 8 rfl) rfl
theorem q354 : (Jvm.Cond.instantiable "KeyParameter" (1 : Nat)) ∈ lw_all := lw_g (lw_at lw_m2 108 rfl) rfl
theorem q356 : (Jvm.Cond.instanceMethod ({ cls := "KeyParameter", name := "<init>", desc := "([B)V" } : Jvm.MethodName)) ∈ lw_all := lw_g (lw_at lw_m2 110 rfl) rfl
theorem q357 : (Jvm.Cond.code ({ cls := "KeyParameter", name := "<init>", desc := "([B)V" } : Jvm.MethodName) prog_4_method_1_code (2 : Nat) (Option.none : Option Jvm.ClassFile.FieldType)) ∈ lw_all := lw_g (lw_at lw_m2 111 rfl) rfl
theorem q358 : (Jvm.Cond.methodLink "KeyParameter" (1 : Nat) ({ cls := "KeyParameter", name := "<init>", desc := "([BII)V" } : Jvm.MethodName)) ∈ lw_all := lw_g (lw_at lw_m2 112 rfl) rfl
theorem q359 : (Jvm.Cond.instanceMethod ({ cls := "KeyParameter", name := "<init>", desc := "([BII)V" } : Jvm.MethodName)) ∈ lw_all := lw_g (lw_at lw_m2 113 rfl) rfl
theorem q360 : (Jvm.Cond.code ({ cls := "KeyParameter", name := "<init>", desc := "([BII)V" } : Jvm.MethodName) prog_4_method_2_code (4 : Nat) (Option.none : Option Jvm.ClassFile.FieldType)) ∈ lw_all := lw_g (lw_at lw_m2 114 rfl) rfl
theorem q361 : (Jvm.Cond.methodLink "KeyParameter" (7 : Nat) ({ cls := "KeyParameter", name := "<init>", desc := "(I)V" } : Jvm.MethodName)) ∈ lw_all := lw_g (lw_at lw_m2 115 rfl) rfl
theorem q362 : (Jvm.Cond.instanceMethod ({ cls := "KeyParameter", name := "<init>", desc := "(I)V" } : Jvm.MethodName)) ∈ lw_all := lw_g (lw_at lw_m2 116 rfl) rfl
theorem q363 : (Jvm.Cond.code ({ cls := "KeyParameter", name := "<init>", desc := "(I)V" } : Jvm.MethodName) prog_4_method_3_code (2 : Nat) (Option.none : Option Jvm.ClassFile.FieldType)) ∈ lw_all := lw_g (lw_at lw_m2 117 rfl) rfl
theorem q364 : (Jvm.Cond.methodLink "KeyParameter" (20 : Nat) ({ cls := "java/lang/Object", name := "<init>", desc := "()V" } : Jvm.MethodName)) ∈ lw_all := lw_g (lw_at lw_m2 118 rfl) rfl
theorem q365 : (Jvm.Cond.fieldLink "KeyParameter" (10 : Nat) "KeyParameter" "key" "[B") ∈ lw_all := lw_g (lw_at lw_m2 119 rfl) rfl
theorem q366 : (Jvm.Cond.lays "KeyParameter" "KeyParameter" "key" "[B") ∈ lw_all := lw_g (lw_at lw_m2 120 rfl) rfl
theorem q367 : (Jvm.Cond.soleField "KeyParameter" "key") ∈ lw_all := lw_g (lw_at lw_m2 121 rfl) rfl
theorem q368 : (Jvm.Cond.superclass "KeyParameter" "java/lang/Object") ∈ lw_all := lw_g (lw_at lw_m2 122 rfl) rfl
theorem q369 : (Jvm.Cond.methodLink "KeyParameter" (14 : Nat) ({ cls := "java/lang/System", name := "arraycopy", desc := "(Ljava/lang/Object;ILjava/lang/Object;II)V" } : Jvm.MethodName)) ∈ lw_all := lw_g (lw_at lw_m2 123 rfl) rfl
theorem q418 : (Jvm.Cond.instanceMethod ({ cls := "KeyParameter", name := "getKey", desc := "()[B" } : Jvm.MethodName)) ∈ lw_all := lw_g (lw_at lw_m2 172 rfl) rfl
theorem q419 : (Jvm.Cond.selects "KeyParameter" ({ cls := "KeyParameter", name := "getKey", desc := "()[B" } : Jvm.MethodName) ({ cls := "KeyParameter", name := "getKey", desc := "()[B" } : Jvm.MethodName)) ∈ lw_all := lw_g (lw_at lw_m2 173 rfl) rfl
theorem q420 : (Jvm.Cond.code ({ cls := "KeyParameter", name := "getKey", desc := "()[B" } : Jvm.MethodName) prog_4_method_4_code (1 : Nat) (Option.some (Jvm.ClassFile.FieldType.array Jvm.ClassFile.FieldType.byte))) ∈ lw_all := lw_g (lw_at lw_m2 174 rfl) rfl
theorem in_X4 : ∀ w ∈ wsX40, w ∈ lw_all := lw_in wsX40 [366] (by decide +kernel) (by decide +kernel)
/-! ParametersWithIV -/
set_option maxRecDepth 100000
def RX3 : String := "ParametersWithIV"
def TX3 : u_T := fun k => match k with
  | 0 => ("ParametersWithIV", "iv", "[B", false)
  | _ => ("ParametersWithIV", "parameters", "LCipherParameters;", false)
def tyX3 : Nat → FieldType := fun k => match k with
  | 0 => .array .byte
  | _ => .object "CipherParameters"
abbrev wsX30 : List Cond := u_ws RX3 TX3 2
theorem nmX3 : ∀ a, a < 2 → ∀ b, b < 2 → a ≠ b → (TX3 a).2.1 ≠ (TX3 b).2.1 := by decide +kernel
theorem tyX3_ok : ∀ k, k < 2 → parseFieldDescriptor (TX3 k).2.2.1 = some (tyX3 k) := by decide +kernel
abbrev cX3_init : ByteArray := prog_8_method_1_code
def yX3_init : MethodName := ⟨RX3, "<init>", "(LCipherParameters;[B)V"⟩
def dkwX3_init_0 : List UInt8 := [42, 43, 44, 3, 44, 190, 183, 0, 1, 177]
abbrev dktX3_init_0 : List UInt8 := dkwX3_init_0 ++ []
theorem dksX3_init_0 : cX3_init.data.toList.drop 0 = dktX3_init_0 := by decide +kernel
theorem dX3_init_0 : decode cX3_init 0 = .ok (.aload_n 0, 1) := dk_42 (dk_at dksX3_init_0 0 rfl rfl)
theorem dX3_init_1 : decode cX3_init 1 = .ok (.aload_n 1, 1) := dk_43 (dk_at dksX3_init_0 1 rfl rfl)
theorem dX3_init_2 : decode cX3_init 2 = .ok (.aload_n 2, 1) := dk_44 (dk_at dksX3_init_0 2 rfl rfl)
theorem dX3_init_3 : decode cX3_init 3 = .ok (.iconst 0, 1) := dk_3 (dk_at dksX3_init_0 3 rfl rfl)
theorem dX3_init_4 : decode cX3_init 4 = .ok (.aload_n 2, 1) := dk_44 (dk_at dksX3_init_0 4 rfl rfl)
theorem dX3_init_5 : decode cX3_init 5 = .ok (.arraylength, 1) := dk_190 (dk_at dksX3_init_0 5 rfl rfl)
theorem dX3_init_6 : decode cX3_init 6 = .ok (.invokespecial 1, 3) := dk_183 0 1 (dk_at dksX3_init_0 6 rfl rfl)
theorem dX3_init_9 : decode cX3_init 9 = .ok (.return_, 1) := dk_177 (dk_at dksX3_init_0 9 rfl rfl)
abbrev cX3_init_2 : ByteArray := prog_8_method_2_code
def yX3_init_2 : MethodName := ⟨RX3, "<init>", "(LCipherParameters;[BII)V"⟩
def dkwX3_init_2_1 : List UInt8 := [21, 4, 184, 0, 20, 177]
abbrev dktX3_init_2_1 : List UInt8 := dkwX3_init_2_1 ++ []
def dkwX3_init_2_0 : List UInt8 := [42, 183, 0, 7, 42, 21, 4, 188, 8, 181, 0, 12, 42, 43, 181, 0, 16, 44, 29, 42, 180, 0, 12, 3]
abbrev dktX3_init_2_0 : List UInt8 := dkwX3_init_2_0 ++ dktX3_init_2_1
theorem dksX3_init_2_0 : cX3_init_2.data.toList.drop 0 = dktX3_init_2_0 := by decide +kernel
theorem dksX3_init_2_1 : cX3_init_2.data.toList.drop 24 = dktX3_init_2_1 := dk_seg dksX3_init_2_0 24 rfl rfl
theorem dX3_init_2_0 : decode cX3_init_2 0 = .ok (.aload_n 0, 1) := dk_42 (dk_at dksX3_init_2_0 0 rfl rfl)
theorem dX3_init_2_1 : decode cX3_init_2 1 = .ok (.invokespecial 7, 3) := dk_183 0 7 (dk_at dksX3_init_2_0 1 rfl rfl)
theorem dX3_init_2_4 : decode cX3_init_2 4 = .ok (.aload_n 0, 1) := dk_42 (dk_at dksX3_init_2_0 4 rfl rfl)
theorem dX3_init_2_5 : decode cX3_init_2 5 = .ok (.iload 4, 2) := dk_21 4 (dk_at dksX3_init_2_0 5 rfl rfl)
theorem dX3_init_2_7 : decode cX3_init_2 7 = .ok (.newarray .byte, 2) := dk_188_8 (dk_at dksX3_init_2_0 7 rfl rfl)
theorem dX3_init_2_9 : decode cX3_init_2 9 = .ok (.putfield 12, 3) := dk_181 0 12 (dk_at dksX3_init_2_0 9 rfl rfl)
theorem dX3_init_2_12 : decode cX3_init_2 12 = .ok (.aload_n 0, 1) := dk_42 (dk_at dksX3_init_2_0 12 rfl rfl)
theorem dX3_init_2_13 : decode cX3_init_2 13 = .ok (.aload_n 1, 1) := dk_43 (dk_at dksX3_init_2_0 13 rfl rfl)
theorem dX3_init_2_14 : decode cX3_init_2 14 = .ok (.putfield 16, 3) := dk_181 0 16 (dk_at dksX3_init_2_0 14 rfl rfl)
theorem dX3_init_2_17 : decode cX3_init_2 17 = .ok (.aload_n 2, 1) := dk_44 (dk_at dksX3_init_2_0 17 rfl rfl)
theorem dX3_init_2_18 : decode cX3_init_2 18 = .ok (.iload_n 3, 1) := dk_29 (dk_at dksX3_init_2_0 18 rfl rfl)
theorem dX3_init_2_19 : decode cX3_init_2 19 = .ok (.aload_n 0, 1) := dk_42 (dk_at dksX3_init_2_0 19 rfl rfl)
theorem dX3_init_2_20 : decode cX3_init_2 20 = .ok (.getfield 12, 3) := dk_180 0 12 (dk_at dksX3_init_2_0 20 rfl rfl)
theorem dX3_init_2_23 : decode cX3_init_2 23 = .ok (.iconst 0, 1) := dk_3 (dk_at dksX3_init_2_0 23 rfl rfl)
theorem dX3_init_2_24 : decode cX3_init_2 24 = .ok (.iload 4, 2) := dk_21 4 (dk_at dksX3_init_2_1 0 rfl rfl)
theorem dX3_init_2_26 : decode cX3_init_2 26 = .ok (.invokestatic 20, 3) := dk_184 0 20 (dk_at dksX3_init_2_1 2 rfl rfl)
theorem dX3_init_2_29 : decode cX3_init_2 29 = .ok (.return_, 1) := dk_177 (dk_at dksX3_init_2_1 5 rfl rfl)
abbrev cX3_getIV : ByteArray := prog_8_method_3_code
def yX3_getIV : MethodName := ⟨RX3, "getIV", "()[B"⟩
theorem dX3_getIV_0 : decode cX3_getIV 0 = .ok (.aload_n 0, 1) := by decide +kernel
theorem dX3_getIV_1 : decode cX3_getIV 1 = .ok (.getfield 12, 3) := by decide +kernel
theorem dX3_getIV_4 : decode cX3_getIV 4 = .ok (.areturn, 1) := by decide +kernel
abbrev cX3_getParameters : ByteArray := prog_8_method_4_code
def yX3_getParameters : MethodName := ⟨RX3, "getParameters", "()LCipherParameters;"⟩
theorem dX3_getParameters_0 : decode cX3_getParameters 0 = .ok (.aload_n 0, 1) := by decide +kernel
theorem dX3_getParameters_1 : decode cX3_getParameters 1 = .ok (.getfield 16, 3) := by decide +kernel
theorem dX3_getParameters_4 : decode cX3_getParameters 4 = .ok (.areturn, 1) := by decide +kernel
theorem q13 : (Jvm.Cond.initialized "ParametersWithIV") ∈ lw_all := lw_g (lw_at lw_m1 7 rfl) rfl
theorem q352 : (Jvm.Cond.instantiable "ParametersWithIV" (2 : Nat)) ∈ lw_all := lw_g (lw_at lw_m2 106 rfl) rfl
theorem q373 : (Jvm.Cond.instanceMethod ({ cls := "ParametersWithIV", name := "<init>", desc := "(LCipherParameters;[B)V" } : Jvm.MethodName)) ∈ lw_all := lw_g (lw_at lw_m2 127 rfl) rfl
theorem q374 : (Jvm.Cond.code ({ cls := "ParametersWithIV", name := "<init>", desc := "(LCipherParameters;[B)V" } : Jvm.MethodName) prog_8_method_1_code (3 : Nat) (Option.none : Option Jvm.ClassFile.FieldType)) ∈ lw_all := lw_g (lw_at lw_m2 128 rfl) rfl
theorem q375 : (Jvm.Cond.methodLink "ParametersWithIV" (1 : Nat) ({ cls := "ParametersWithIV", name := "<init>", desc := "(LCipherParameters;[BII)V" } : Jvm.MethodName)) ∈ lw_all := lw_g (lw_at lw_m2 129 rfl) rfl
theorem q376 : (Jvm.Cond.instanceMethod ({ cls := "ParametersWithIV", name := "<init>", desc := "(LCipherParameters;[BII)V" } : Jvm.MethodName)) ∈ lw_all := lw_g (lw_at lw_m2 130 rfl) rfl
theorem q377 : (Jvm.Cond.code ({ cls := "ParametersWithIV", name := "<init>", desc := "(LCipherParameters;[BII)V" } : Jvm.MethodName) prog_8_method_2_code (5 : Nat) (Option.none : Option Jvm.ClassFile.FieldType)) ∈ lw_all := lw_g (lw_at lw_m2 131 rfl) rfl
theorem q378 : (Jvm.Cond.methodLink "ParametersWithIV" (7 : Nat) ({ cls := "java/lang/Object", name := "<init>", desc := "()V" } : Jvm.MethodName)) ∈ lw_all := lw_g (lw_at lw_m2 132 rfl) rfl
theorem q379 : (Jvm.Cond.methodLink "ParametersWithIV" (20 : Nat) ({ cls := "java/lang/System", name := "arraycopy", desc := "(Ljava/lang/Object;ILjava/lang/Object;II)V" } : Jvm.MethodName)) ∈ lw_all := lw_g (lw_at lw_m2 133 rfl) rfl
theorem q380 : (Jvm.Cond.fieldLink "ParametersWithIV" (12 : Nat) "ParametersWithIV" "iv" "[B") ∈ lw_all := lw_g (lw_at lw_m2 134 rfl) rfl
theorem q381 : (Jvm.Cond.fieldLink "ParametersWithIV" (16 : Nat) "ParametersWithIV" "parameters" "LCipherParameters;") ∈ lw_all := lw_g (lw_at lw_m2 135 rfl) rfl
theorem q382 : (Jvm.Cond.lays "ParametersWithIV" "ParametersWithIV" "iv" "[B") ∈ lw_all := lw_g (lw_at lw_m2 136 rfl) rfl
theorem q383 : (Jvm.Cond.soleField "ParametersWithIV" "iv") ∈ lw_all := lw_g (lw_at lw_m2 137 rfl) rfl
theorem q384 : (Jvm.Cond.lays "ParametersWithIV" "ParametersWithIV" "parameters" "LCipherParameters;") ∈ lw_all := lw_g (lw_at lw_m2 138 rfl) rfl
theorem q385 : (Jvm.Cond.soleField "ParametersWithIV" "parameters") ∈ lw_all := lw_g (lw_at lw_m2 139 rfl) rfl
theorem q386 : (Jvm.Cond.superclass "ParametersWithIV" "java/lang/Object") ∈ lw_all := lw_g (lw_at lw_m2 140 rfl) rfl
theorem q393 : (Jvm.Cond.instanceMethod ({ cls := "ParametersWithIV", name := "getIV", desc := "()[B" } : Jvm.MethodName)) ∈ lw_all := lw_g (lw_at lw_m2 147 rfl) rfl
theorem q394 : (Jvm.Cond.selects "ParametersWithIV" ({ cls := "ParametersWithIV", name := "getIV", desc := "()[B" } : Jvm.MethodName) ({ cls := "ParametersWithIV", name := "getIV", desc := "()[B" } : Jvm.MethodName)) ∈ lw_all := lw_g (lw_at lw_m2 148 rfl) rfl
theorem q395 : (Jvm.Cond.code ({ cls := "ParametersWithIV", name := "getIV", desc := "()[B" } : Jvm.MethodName) prog_8_method_3_code (1 : Nat) (Option.some (Jvm.ClassFile.FieldType.array Jvm.ClassFile.FieldType.byte))) ∈ lw_all := lw_g (lw_at lw_m2 149 rfl) rfl
theorem q401 : (Jvm.Cond.instanceMethod ({ cls := "ParametersWithIV", name := "getParameters", desc := "()LCipherParameters;" } : Jvm.MethodName)) ∈ lw_all := lw_g (lw_at lw_m2 155 rfl) rfl
theorem q402 : (Jvm.Cond.selects "ParametersWithIV" ({ cls := "ParametersWithIV", name := "getParameters", desc := "()LCipherParameters;" } : Jvm.MethodName) ({ cls := "ParametersWithIV", name := "getParameters", desc := "()LCipherParameters;" } : Jvm.MethodName)) ∈ lw_all := lw_g (lw_at lw_m2 156 rfl) rfl
theorem q403 : (Jvm.Cond.code ({ cls := "ParametersWithIV", name := "getParameters", desc := "()LCipherParameters;" } : Jvm.MethodName) prog_8_method_4_code (1 : Nat) (Option.some (Jvm.ClassFile.FieldType.object "CipherParameters"))) ∈ lw_all := lw_g (lw_at lw_m2 157 rfl) rfl
theorem in_X3 : ∀ w ∈ wsX30, w ∈ lw_all := lw_in wsX30 [382, 384] (by decide +kernel) (by decide +kernel)
/-! SalsaDesk -/
set_option maxRecDepth 100000
def RX1 : String := "SalsaDesk"
def TX1 : u_T := fun k => match k with
  | 0 => ("SalsaDesk", "run", "LSalsa20Engine;", false)
  | 1 => ("SalsaDesk", "set", "Z", false)
  | 2 => ("SalsaDesk", "given", "I", false)
  | 3 => ("SalsaDesk", "key", "[B", true)
  | 4 => ("SalsaDesk", "nonce", "[B", true)
  | 5 => ("SalsaDesk", "text", "[B", true)
  | 6 => ("SalsaDesk", "size", "I", false)
  | _ => ("SalsaDesk", "out", "[B", false)
def tyX1 : Nat → FieldType := fun k => match k with
  | 0 => .object "Salsa20Engine"
  | 1 => .boolean
  | 2 => .int
  | 3 => .array .byte
  | 4 => .array .byte
  | 5 => .array .byte
  | 6 => .int
  | _ => .array .byte
abbrev wsX10 : List Cond := u_ws RX1 TX1 8
theorem nmX1 : ∀ a, a < 8 → ∀ b, b < 8 → a ≠ b → (TX1 a).2.1 ≠ (TX1 b).2.1 := by decide +kernel
theorem tyX1_ok : ∀ k, k < 8 → parseFieldDescriptor (TX1 k).2.2.1 = some (tyX1 k) := by decide +kernel
abbrev cX1_run : ByteArray := prog_11_method_10_code
def yX1_run : MethodName := ⟨RX1, "run", "(II)I"⟩
def dkwX1_run_3 : List UInt8 := [182, 0, 67, 87, 42, 25, 5, 181, 0, 26, 21, 4, 172]
abbrev dktX1_run_3 : List UInt8 := dkwX1_run_3 ++ []
def dkwX1_run_2 : List UInt8 := [181, 0, 60, 21, 4, 188, 8, 58, 5, 42, 180, 0, 10, 42, 180, 0, 23, 29, 21, 4, 25, 5, 3]
abbrev dktX1_run_2 : List UInt8 := dkwX1_run_2 ++ dktX1_run_3
def dkwX1_run_1 : List UInt8 := [180, 0, 60, 21, 4, 96, 17, 4, 0, 164, 0, 6, 16, 254, 172, 42, 89, 180, 0, 60, 21, 4, 96]
abbrev dktX1_run_1 : List UInt8 := dkwX1_run_1 ++ dktX1_run_2
def dkwX1_run_0 : List UInt8 := [42, 180, 0, 56, 154, 0, 5, 2, 172, 42, 27, 182, 0, 37, 62, 42, 29, 28, 182, 0, 63, 54, 4, 42]
abbrev dktX1_run_0 : List UInt8 := dkwX1_run_0 ++ dktX1_run_1
theorem dksX1_run_0 : cX1_run.data.toList.drop 0 = dktX1_run_0 := by decide +kernel
theorem dksX1_run_1 : cX1_run.data.toList.drop 24 = dktX1_run_1 := dk_seg dksX1_run_0 24 rfl rfl
theorem dksX1_run_2 : cX1_run.data.toList.drop 47 = dktX1_run_2 := dk_seg dksX1_run_1 23 rfl rfl
theorem dksX1_run_3 : cX1_run.data.toList.drop 70 = dktX1_run_3 := dk_seg dksX1_run_2 23 rfl rfl
theorem dX1_run_0 : decode cX1_run 0 = .ok (.aload_n 0, 1) := dk_42 (dk_at dksX1_run_0 0 rfl rfl)
theorem dX1_run_1 : decode cX1_run 1 = .ok (.getfield 56, 3) := dk_180 0 56 (dk_at dksX1_run_0 1 rfl rfl)
theorem dX1_run_4 : decode cX1_run 4 = .ok (.ifCond .ne 5, 3) := dk_154 0 5 (dk_at dksX1_run_0 4 rfl rfl)
theorem dX1_run_7 : decode cX1_run 7 = .ok (.iconst (-1), 1) := dk_2 (dk_at dksX1_run_0 7 rfl rfl)
theorem dX1_run_8 : decode cX1_run 8 = .ok (.ireturn, 1) := dk_172 (dk_at dksX1_run_0 8 rfl rfl)
theorem dX1_run_9 : decode cX1_run 9 = .ok (.aload_n 0, 1) := dk_42 (dk_at dksX1_run_0 9 rfl rfl)
theorem dX1_run_10 : decode cX1_run 10 = .ok (.iload_n 1, 1) := dk_27 (dk_at dksX1_run_0 10 rfl rfl)
theorem dX1_run_11 : decode cX1_run 11 = .ok (.invokevirtual 37, 3) := dk_182 0 37 (dk_at dksX1_run_0 11 rfl rfl)
theorem dX1_run_14 : decode cX1_run 14 = .ok (.istore_n 3, 1) := dk_62 (dk_at dksX1_run_0 14 rfl rfl)
theorem dX1_run_15 : decode cX1_run 15 = .ok (.aload_n 0, 1) := dk_42 (dk_at dksX1_run_0 15 rfl rfl)
theorem dX1_run_16 : decode cX1_run 16 = .ok (.iload_n 3, 1) := dk_29 (dk_at dksX1_run_0 16 rfl rfl)
theorem dX1_run_17 : decode cX1_run 17 = .ok (.iload_n 2, 1) := dk_28 (dk_at dksX1_run_0 17 rfl rfl)
theorem dX1_run_18 : decode cX1_run 18 = .ok (.invokevirtual 63, 3) := dk_182 0 63 (dk_at dksX1_run_0 18 rfl rfl)
theorem dX1_run_21 : decode cX1_run 21 = .ok (.istore 4, 2) := dk_54 4 (dk_at dksX1_run_0 21 rfl rfl)
theorem dX1_run_23 : decode cX1_run 23 = .ok (.aload_n 0, 1) := dk_42 (dk_at dksX1_run_0 23 rfl rfl)
theorem dX1_run_24 : decode cX1_run 24 = .ok (.getfield 60, 3) := dk_180 0 60 (dk_at dksX1_run_1 0 rfl rfl)
theorem dX1_run_27 : decode cX1_run 27 = .ok (.iload 4, 2) := dk_21 4 (dk_at dksX1_run_1 3 rfl rfl)
theorem dX1_run_29 : decode cX1_run 29 = .ok (.iadd, 1) := dk_96 (dk_at dksX1_run_1 5 rfl rfl)
theorem dX1_run_30 : decode cX1_run 30 = .ok (.sipush 1024, 3) := dk_17 4 0 (dk_at dksX1_run_1 6 rfl rfl)
theorem dX1_run_33 : decode cX1_run 33 = .ok (.if_icmp .le 6, 3) := dk_164 0 6 (dk_at dksX1_run_1 9 rfl rfl)
theorem dX1_run_36 : decode cX1_run 36 = .ok (.bipush (-2), 2) := dk_16 254 (dk_at dksX1_run_1 12 rfl rfl)
theorem dX1_run_38 : decode cX1_run 38 = .ok (.ireturn, 1) := dk_172 (dk_at dksX1_run_1 14 rfl rfl)
theorem dX1_run_39 : decode cX1_run 39 = .ok (.aload_n 0, 1) := dk_42 (dk_at dksX1_run_1 15 rfl rfl)
theorem dX1_run_40 : decode cX1_run 40 = .ok (.dup, 1) := dk_89 (dk_at dksX1_run_1 16 rfl rfl)
theorem dX1_run_41 : decode cX1_run 41 = .ok (.getfield 60, 3) := dk_180 0 60 (dk_at dksX1_run_1 17 rfl rfl)
theorem dX1_run_44 : decode cX1_run 44 = .ok (.iload 4, 2) := dk_21 4 (dk_at dksX1_run_1 20 rfl rfl)
theorem dX1_run_46 : decode cX1_run 46 = .ok (.iadd, 1) := dk_96 (dk_at dksX1_run_1 22 rfl rfl)
theorem dX1_run_47 : decode cX1_run 47 = .ok (.putfield 60, 3) := dk_181 0 60 (dk_at dksX1_run_2 0 rfl rfl)
theorem dX1_run_50 : decode cX1_run 50 = .ok (.iload 4, 2) := dk_21 4 (dk_at dksX1_run_2 3 rfl rfl)
theorem dX1_run_52 : decode cX1_run 52 = .ok (.newarray .byte, 2) := dk_188_8 (dk_at dksX1_run_2 5 rfl rfl)
theorem dX1_run_54 : decode cX1_run 54 = .ok (.astore 5, 2) := dk_58 5 (dk_at dksX1_run_2 7 rfl rfl)
theorem dX1_run_56 : decode cX1_run 56 = .ok (.aload_n 0, 1) := dk_42 (dk_at dksX1_run_2 9 rfl rfl)
theorem dX1_run_57 : decode cX1_run 57 = .ok (.getfield 10, 3) := dk_180 0 10 (dk_at dksX1_run_2 10 rfl rfl)
theorem dX1_run_60 : decode cX1_run 60 = .ok (.aload_n 0, 1) := dk_42 (dk_at dksX1_run_2 13 rfl rfl)
theorem dX1_run_61 : decode cX1_run 61 = .ok (.getfield 23, 3) := dk_180 0 23 (dk_at dksX1_run_2 14 rfl rfl)
theorem dX1_run_64 : decode cX1_run 64 = .ok (.iload_n 3, 1) := dk_29 (dk_at dksX1_run_2 17 rfl rfl)
theorem dX1_run_65 : decode cX1_run 65 = .ok (.iload 4, 2) := dk_21 4 (dk_at dksX1_run_2 18 rfl rfl)
theorem dX1_run_67 : decode cX1_run 67 = .ok (.aload 5, 2) := dk_25 5 (dk_at dksX1_run_2 20 rfl rfl)
theorem dX1_run_69 : decode cX1_run 69 = .ok (.iconst 0, 1) := dk_3 (dk_at dksX1_run_2 22 rfl rfl)
theorem dX1_run_70 : decode cX1_run 70 = .ok (.invokevirtual 67, 3) := dk_182 0 67 (dk_at dksX1_run_3 0 rfl rfl)
theorem dX1_run_73 : decode cX1_run 73 = .ok (.pop, 1) := dk_87 (dk_at dksX1_run_3 3 rfl rfl)
theorem dX1_run_74 : decode cX1_run 74 = .ok (.aload_n 0, 1) := dk_42 (dk_at dksX1_run_3 4 rfl rfl)
theorem dX1_run_75 : decode cX1_run 75 = .ok (.aload 5, 2) := dk_25 5 (dk_at dksX1_run_3 5 rfl rfl)
theorem dX1_run_77 : decode cX1_run 77 = .ok (.putfield 26, 3) := dk_181 0 26 (dk_at dksX1_run_3 7 rfl rfl)
theorem dX1_run_80 : decode cX1_run 80 = .ok (.iload 4, 2) := dk_21 4 (dk_at dksX1_run_3 10 rfl rfl)
theorem dX1_run_82 : decode cX1_run 82 = .ok (.ireturn, 1) := dk_172 (dk_at dksX1_run_3 12 rfl rfl)
abbrev cX1_from : ByteArray := prog_11_method_5_code
def yX1_from : MethodName := ⟨RX1, "from", "(I)I"⟩
def dkwX1_from_0 : List UInt8 := [27, 18, 41, 126, 42, 180, 0, 29, 4, 96, 112, 172]
abbrev dktX1_from_0 : List UInt8 := dkwX1_from_0 ++ []
theorem dksX1_from_0 : cX1_from.data.toList.drop 0 = dktX1_from_0 := by decide +kernel
theorem dX1_from_0 : decode cX1_from 0 = .ok (.iload_n 1, 1) := dk_27 (dk_at dksX1_from_0 0 rfl rfl)
theorem dX1_from_1 : decode cX1_from 1 = .ok (.ldc 41, 2) := dk_18 41 (dk_at dksX1_from_0 1 rfl rfl)
theorem dX1_from_3 : decode cX1_from 3 = .ok (.iand, 1) := dk_126 (dk_at dksX1_from_0 3 rfl rfl)
theorem dX1_from_4 : decode cX1_from 4 = .ok (.aload_n 0, 1) := dk_42 (dk_at dksX1_from_0 4 rfl rfl)
theorem dX1_from_5 : decode cX1_from 5 = .ok (.getfield 29, 3) := dk_180 0 29 (dk_at dksX1_from_0 5 rfl rfl)
theorem dX1_from_8 : decode cX1_from 8 = .ok (.iconst 1, 1) := dk_4 (dk_at dksX1_from_0 8 rfl rfl)
theorem dX1_from_9 : decode cX1_from 9 = .ok (.iadd, 1) := dk_96 (dk_at dksX1_from_0 9 rfl rfl)
theorem dX1_from_10 : decode cX1_from 10 = .ok (.irem, 1) := dk_112 (dk_at dksX1_from_0 10 rfl rfl)
theorem dX1_from_11 : decode cX1_from 11 = .ok (.ireturn, 1) := dk_172 (dk_at dksX1_from_0 11 rfl rfl)
abbrev cX1_count : ByteArray := prog_11_method_6_code
def yX1_count : MethodName := ⟨RX1, "count", "(II)I"⟩
def dkwX1_count_0 : List UInt8 := [28, 18, 41, 126, 42, 180, 0, 29, 27, 100, 4, 96, 112, 172]
abbrev dktX1_count_0 : List UInt8 := dkwX1_count_0 ++ []
theorem dksX1_count_0 : cX1_count.data.toList.drop 0 = dktX1_count_0 := by decide +kernel
theorem dX1_count_0 : decode cX1_count 0 = .ok (.iload_n 2, 1) := dk_28 (dk_at dksX1_count_0 0 rfl rfl)
theorem dX1_count_1 : decode cX1_count 1 = .ok (.ldc 41, 2) := dk_18 41 (dk_at dksX1_count_0 1 rfl rfl)
theorem dX1_count_3 : decode cX1_count 3 = .ok (.iand, 1) := dk_126 (dk_at dksX1_count_0 3 rfl rfl)
theorem dX1_count_4 : decode cX1_count 4 = .ok (.aload_n 0, 1) := dk_42 (dk_at dksX1_count_0 4 rfl rfl)
theorem dX1_count_5 : decode cX1_count 5 = .ok (.getfield 29, 3) := dk_180 0 29 (dk_at dksX1_count_0 5 rfl rfl)
theorem dX1_count_8 : decode cX1_count 8 = .ok (.iload_n 1, 1) := dk_27 (dk_at dksX1_count_0 8 rfl rfl)
theorem dX1_count_9 : decode cX1_count 9 = .ok (.isub, 1) := dk_100 (dk_at dksX1_count_0 9 rfl rfl)
theorem dX1_count_10 : decode cX1_count 10 = .ok (.iconst 1, 1) := dk_4 (dk_at dksX1_count_0 10 rfl rfl)
theorem dX1_count_11 : decode cX1_count 11 = .ok (.iadd, 1) := dk_96 (dk_at dksX1_count_0 11 rfl rfl)
theorem dX1_count_12 : decode cX1_count 12 = .ok (.irem, 1) := dk_112 (dk_at dksX1_count_0 12 rfl rfl)
theorem dX1_count_13 : decode cX1_count 13 = .ok (.ireturn, 1) := dk_172 (dk_at dksX1_count_0 13 rfl rfl)
abbrev cX1_one : ByteArray := prog_11_method_11_code
def yX1_one : MethodName := ⟨RX1, "one", "(I)I"⟩
def dkwX1_one_1 : List UInt8 := [180, 0, 60, 4, 96, 181, 0, 60, 42, 180, 0, 10, 27, 145, 182, 0, 71, 17, 0, 255, 126, 172]
abbrev dktX1_one_1 : List UInt8 := dkwX1_one_1 ++ []
def dkwX1_one_0 : List UInt8 := [42, 180, 0, 56, 154, 0, 5, 2, 172, 42, 180, 0, 60, 17, 4, 0, 161, 0, 6, 16, 254, 172, 42, 89]
abbrev dktX1_one_0 : List UInt8 := dkwX1_one_0 ++ dktX1_one_1
theorem dksX1_one_0 : cX1_one.data.toList.drop 0 = dktX1_one_0 := by decide +kernel
theorem dksX1_one_1 : cX1_one.data.toList.drop 24 = dktX1_one_1 := dk_seg dksX1_one_0 24 rfl rfl
theorem dX1_one_0 : decode cX1_one 0 = .ok (.aload_n 0, 1) := dk_42 (dk_at dksX1_one_0 0 rfl rfl)
theorem dX1_one_1 : decode cX1_one 1 = .ok (.getfield 56, 3) := dk_180 0 56 (dk_at dksX1_one_0 1 rfl rfl)
theorem dX1_one_4 : decode cX1_one 4 = .ok (.ifCond .ne 5, 3) := dk_154 0 5 (dk_at dksX1_one_0 4 rfl rfl)
theorem dX1_one_7 : decode cX1_one 7 = .ok (.iconst (-1), 1) := dk_2 (dk_at dksX1_one_0 7 rfl rfl)
theorem dX1_one_8 : decode cX1_one 8 = .ok (.ireturn, 1) := dk_172 (dk_at dksX1_one_0 8 rfl rfl)
theorem dX1_one_9 : decode cX1_one 9 = .ok (.aload_n 0, 1) := dk_42 (dk_at dksX1_one_0 9 rfl rfl)
theorem dX1_one_10 : decode cX1_one 10 = .ok (.getfield 60, 3) := dk_180 0 60 (dk_at dksX1_one_0 10 rfl rfl)
theorem dX1_one_13 : decode cX1_one 13 = .ok (.sipush 1024, 3) := dk_17 4 0 (dk_at dksX1_one_0 13 rfl rfl)
theorem dX1_one_16 : decode cX1_one 16 = .ok (.if_icmp .lt 6, 3) := dk_161 0 6 (dk_at dksX1_one_0 16 rfl rfl)
theorem dX1_one_19 : decode cX1_one 19 = .ok (.bipush (-2), 2) := dk_16 254 (dk_at dksX1_one_0 19 rfl rfl)
theorem dX1_one_21 : decode cX1_one 21 = .ok (.ireturn, 1) := dk_172 (dk_at dksX1_one_0 21 rfl rfl)
theorem dX1_one_22 : decode cX1_one 22 = .ok (.aload_n 0, 1) := dk_42 (dk_at dksX1_one_0 22 rfl rfl)
theorem dX1_one_23 : decode cX1_one 23 = .ok (.dup, 1) := dk_89 (dk_at dksX1_one_0 23 rfl rfl)
theorem dX1_one_24 : decode cX1_one 24 = .ok (.getfield 60, 3) := dk_180 0 60 (dk_at dksX1_one_1 0 rfl rfl)
theorem dX1_one_27 : decode cX1_one 27 = .ok (.iconst 1, 1) := dk_4 (dk_at dksX1_one_1 3 rfl rfl)
theorem dX1_one_28 : decode cX1_one 28 = .ok (.iadd, 1) := dk_96 (dk_at dksX1_one_1 4 rfl rfl)
theorem dX1_one_29 : decode cX1_one 29 = .ok (.putfield 60, 3) := dk_181 0 60 (dk_at dksX1_one_1 5 rfl rfl)
theorem dX1_one_32 : decode cX1_one 32 = .ok (.aload_n 0, 1) := dk_42 (dk_at dksX1_one_1 8 rfl rfl)
theorem dX1_one_33 : decode cX1_one 33 = .ok (.getfield 10, 3) := dk_180 0 10 (dk_at dksX1_one_1 9 rfl rfl)
theorem dX1_one_36 : decode cX1_one 36 = .ok (.iload_n 1, 1) := dk_27 (dk_at dksX1_one_1 12 rfl rfl)
theorem dX1_one_37 : decode cX1_one 37 = .ok (.i2b, 1) := dk_145 (dk_at dksX1_one_1 13 rfl rfl)
theorem dX1_one_38 : decode cX1_one 38 = .ok (.invokevirtual 71, 3) := dk_182 0 71 (dk_at dksX1_one_1 14 rfl rfl)
theorem dX1_one_41 : decode cX1_one 41 = .ok (.sipush 255, 3) := dk_17 0 255 (dk_at dksX1_one_1 17 rfl rfl)
theorem dX1_one_44 : decode cX1_one 44 = .ok (.iand, 1) := dk_126 (dk_at dksX1_one_1 20 rfl rfl)
theorem dX1_one_45 : decode cX1_one 45 = .ok (.ireturn, 1) := dk_172 (dk_at dksX1_one_1 21 rfl rfl)
abbrev cX1_again : ByteArray := prog_11_method_12_code
def yX1_again : MethodName := ⟨RX1, "again", "()V"⟩
def dkwX1_again_0 : List UInt8 := [42, 180, 0, 56, 153, 0, 15, 42, 180, 0, 10, 182, 0, 75, 42, 3, 181, 0, 60, 177]
abbrev dktX1_again_0 : List UInt8 := dkwX1_again_0 ++ []
theorem dksX1_again_0 : cX1_again.data.toList.drop 0 = dktX1_again_0 := by decide +kernel
theorem dX1_again_0 : decode cX1_again 0 = .ok (.aload_n 0, 1) := dk_42 (dk_at dksX1_again_0 0 rfl rfl)
theorem dX1_again_1 : decode cX1_again 1 = .ok (.getfield 56, 3) := dk_180 0 56 (dk_at dksX1_again_0 1 rfl rfl)
theorem dX1_again_4 : decode cX1_again 4 = .ok (.ifCond .eq 15, 3) := dk_153 0 15 (dk_at dksX1_again_0 4 rfl rfl)
theorem dX1_again_7 : decode cX1_again 7 = .ok (.aload_n 0, 1) := dk_42 (dk_at dksX1_again_0 7 rfl rfl)
theorem dX1_again_8 : decode cX1_again 8 = .ok (.getfield 10, 3) := dk_180 0 10 (dk_at dksX1_again_0 8 rfl rfl)
theorem dX1_again_11 : decode cX1_again 11 = .ok (.invokevirtual 75, 3) := dk_182 0 75 (dk_at dksX1_again_0 11 rfl rfl)
theorem dX1_again_14 : decode cX1_again 14 = .ok (.aload_n 0, 1) := dk_42 (dk_at dksX1_again_0 14 rfl rfl)
theorem dX1_again_15 : decode cX1_again 15 = .ok (.iconst 0, 1) := dk_3 (dk_at dksX1_again_0 15 rfl rfl)
theorem dX1_again_16 : decode cX1_again 16 = .ok (.putfield 60, 3) := dk_181 0 60 (dk_at dksX1_again_0 16 rfl rfl)
theorem dX1_again_19 : decode cX1_again 19 = .ok (.return_, 1) := dk_177 (dk_at dksX1_again_0 19 rfl rfl)
abbrev cX1_out : ByteArray := prog_11_method_13_code
def yX1_out : MethodName := ⟨RX1, "out", "(I)I"⟩
def dkwX1_out_1 : List UInt8 := [190, 112, 51, 17, 0, 255, 126, 172]
abbrev dktX1_out_1 : List UInt8 := dkwX1_out_1 ++ []
def dkwX1_out_0 : List UInt8 := [42, 180, 0, 26, 190, 154, 0, 7, 2, 167, 0, 22, 42, 180, 0, 26, 27, 18, 41, 126, 42, 180, 0, 26]
abbrev dktX1_out_0 : List UInt8 := dkwX1_out_0 ++ dktX1_out_1
theorem dksX1_out_0 : cX1_out.data.toList.drop 0 = dktX1_out_0 := by decide +kernel
theorem dksX1_out_1 : cX1_out.data.toList.drop 24 = dktX1_out_1 := dk_seg dksX1_out_0 24 rfl rfl
theorem dX1_out_0 : decode cX1_out 0 = .ok (.aload_n 0, 1) := dk_42 (dk_at dksX1_out_0 0 rfl rfl)
theorem dX1_out_1 : decode cX1_out 1 = .ok (.getfield 26, 3) := dk_180 0 26 (dk_at dksX1_out_0 1 rfl rfl)
theorem dX1_out_4 : decode cX1_out 4 = .ok (.arraylength, 1) := dk_190 (dk_at dksX1_out_0 4 rfl rfl)
theorem dX1_out_5 : decode cX1_out 5 = .ok (.ifCond .ne 7, 3) := dk_154 0 7 (dk_at dksX1_out_0 5 rfl rfl)
theorem dX1_out_8 : decode cX1_out 8 = .ok (.iconst (-1), 1) := dk_2 (dk_at dksX1_out_0 8 rfl rfl)
theorem dX1_out_9 : decode cX1_out 9 = .ok (.goto 22, 3) := dk_167 0 22 (dk_at dksX1_out_0 9 rfl rfl)
theorem dX1_out_12 : decode cX1_out 12 = .ok (.aload_n 0, 1) := dk_42 (dk_at dksX1_out_0 12 rfl rfl)
theorem dX1_out_13 : decode cX1_out 13 = .ok (.getfield 26, 3) := dk_180 0 26 (dk_at dksX1_out_0 13 rfl rfl)
theorem dX1_out_16 : decode cX1_out 16 = .ok (.iload_n 1, 1) := dk_27 (dk_at dksX1_out_0 16 rfl rfl)
theorem dX1_out_17 : decode cX1_out 17 = .ok (.ldc 41, 2) := dk_18 41 (dk_at dksX1_out_0 17 rfl rfl)
theorem dX1_out_19 : decode cX1_out 19 = .ok (.iand, 1) := dk_126 (dk_at dksX1_out_0 19 rfl rfl)
theorem dX1_out_20 : decode cX1_out 20 = .ok (.aload_n 0, 1) := dk_42 (dk_at dksX1_out_0 20 rfl rfl)
theorem dX1_out_21 : decode cX1_out 21 = .ok (.getfield 26, 3) := dk_180 0 26 (dk_at dksX1_out_0 21 rfl rfl)
theorem dX1_out_24 : decode cX1_out 24 = .ok (.arraylength, 1) := dk_190 (dk_at dksX1_out_1 0 rfl rfl)
theorem dX1_out_25 : decode cX1_out 25 = .ok (.irem, 1) := dk_112 (dk_at dksX1_out_1 1 rfl rfl)
theorem dX1_out_26 : decode cX1_out 26 = .ok (.baload, 1) := dk_51 (dk_at dksX1_out_1 2 rfl rfl)
theorem dX1_out_27 : decode cX1_out 27 = .ok (.sipush 255, 3) := dk_17 0 255 (dk_at dksX1_out_1 3 rfl rfl)
theorem dX1_out_30 : decode cX1_out 30 = .ok (.iand, 1) := dk_126 (dk_at dksX1_out_1 6 rfl rfl)
theorem dX1_out_31 : decode cX1_out 31 = .ok (.ireturn, 1) := dk_172 (dk_at dksX1_out_1 7 rfl rfl)
abbrev cX1_init : ByteArray := prog_11_method_1_code
def yX1_init : MethodName := ⟨RX1, "<init>", "()V"⟩
def dkwX1_init_1 : List UInt8 := [16, 32, 188, 8, 181, 0, 20, 42, 17, 1, 0, 188, 8, 181, 0, 23, 42, 3, 188, 8, 181, 0, 26, 177]
abbrev dktX1_init_1 : List UInt8 := dkwX1_init_1 ++ []
def dkwX1_init_0 : List UInt8 := [42, 183, 0, 1, 42, 187, 0, 7, 89, 183, 0, 9, 181, 0, 10, 42, 16, 32, 188, 8, 181, 0, 16, 42]
abbrev dktX1_init_0 : List UInt8 := dkwX1_init_0 ++ dktX1_init_1
theorem dksX1_init_0 : cX1_init.data.toList.drop 0 = dktX1_init_0 := by decide +kernel
theorem dksX1_init_1 : cX1_init.data.toList.drop 24 = dktX1_init_1 := dk_seg dksX1_init_0 24 rfl rfl
theorem dX1_init_0 : decode cX1_init 0 = .ok (.aload_n 0, 1) := dk_42 (dk_at dksX1_init_0 0 rfl rfl)
theorem dX1_init_1 : decode cX1_init 1 = .ok (.invokespecial 1, 3) := dk_183 0 1 (dk_at dksX1_init_0 1 rfl rfl)
theorem dX1_init_4 : decode cX1_init 4 = .ok (.aload_n 0, 1) := dk_42 (dk_at dksX1_init_0 4 rfl rfl)
theorem dX1_init_5 : decode cX1_init 5 = .ok (.new 7, 3) := dk_187 0 7 (dk_at dksX1_init_0 5 rfl rfl)
theorem dX1_init_8 : decode cX1_init 8 = .ok (.dup, 1) := dk_89 (dk_at dksX1_init_0 8 rfl rfl)
theorem dX1_init_9 : decode cX1_init 9 = .ok (.invokespecial 9, 3) := dk_183 0 9 (dk_at dksX1_init_0 9 rfl rfl)
theorem dX1_init_12 : decode cX1_init 12 = .ok (.putfield 10, 3) := dk_181 0 10 (dk_at dksX1_init_0 12 rfl rfl)
theorem dX1_init_15 : decode cX1_init 15 = .ok (.aload_n 0, 1) := dk_42 (dk_at dksX1_init_0 15 rfl rfl)
theorem dX1_init_16 : decode cX1_init 16 = .ok (.bipush 32, 2) := dk_16 32 (dk_at dksX1_init_0 16 rfl rfl)
theorem dX1_init_18 : decode cX1_init 18 = .ok (.newarray .byte, 2) := dk_188_8 (dk_at dksX1_init_0 18 rfl rfl)
theorem dX1_init_20 : decode cX1_init 20 = .ok (.putfield 16, 3) := dk_181 0 16 (dk_at dksX1_init_0 20 rfl rfl)
theorem dX1_init_23 : decode cX1_init 23 = .ok (.aload_n 0, 1) := dk_42 (dk_at dksX1_init_0 23 rfl rfl)
theorem dX1_init_24 : decode cX1_init 24 = .ok (.bipush 32, 2) := dk_16 32 (dk_at dksX1_init_1 0 rfl rfl)
theorem dX1_init_26 : decode cX1_init 26 = .ok (.newarray .byte, 2) := dk_188_8 (dk_at dksX1_init_1 2 rfl rfl)
theorem dX1_init_28 : decode cX1_init 28 = .ok (.putfield 20, 3) := dk_181 0 20 (dk_at dksX1_init_1 4 rfl rfl)
theorem dX1_init_31 : decode cX1_init 31 = .ok (.aload_n 0, 1) := dk_42 (dk_at dksX1_init_1 7 rfl rfl)
theorem dX1_init_32 : decode cX1_init 32 = .ok (.sipush 256, 3) := dk_17 1 0 (dk_at dksX1_init_1 8 rfl rfl)
theorem dX1_init_35 : decode cX1_init 35 = .ok (.newarray .byte, 2) := dk_188_8 (dk_at dksX1_init_1 11 rfl rfl)
theorem dX1_init_37 : decode cX1_init 37 = .ok (.putfield 23, 3) := dk_181 0 23 (dk_at dksX1_init_1 13 rfl rfl)
theorem dX1_init_40 : decode cX1_init 40 = .ok (.aload_n 0, 1) := dk_42 (dk_at dksX1_init_1 16 rfl rfl)
theorem dX1_init_41 : decode cX1_init 41 = .ok (.iconst 0, 1) := dk_3 (dk_at dksX1_init_1 17 rfl rfl)
theorem dX1_init_42 : decode cX1_init 42 = .ok (.newarray .byte, 2) := dk_188_8 (dk_at dksX1_init_1 18 rfl rfl)
theorem dX1_init_44 : decode cX1_init 44 = .ok (.putfield 26, 3) := dk_181 0 26 (dk_at dksX1_init_1 20 rfl rfl)
theorem dX1_init_47 : decode cX1_init 47 = .ok (.return_, 1) := dk_177 (dk_at dksX1_init_1 23 rfl rfl)
abbrev cX1_put : ByteArray := prog_11_method_2_code
def yX1_put : MethodName := ⟨RX1, "put", "(IIII)Z"⟩
def dkwX1_put_3 : List UInt8 := [96, 21, 4, 184, 0, 33, 42, 89, 180, 0, 29, 16, 16, 96, 181, 0, 29, 4, 172]
abbrev dktX1_put_3 : List UInt8 := dkwX1_put_3 ++ []
def dkwX1_put_2 : List UInt8 := [180, 0, 23, 42, 180, 0, 29, 16, 8, 96, 29, 184, 0, 33, 42, 180, 0, 23, 42, 180, 0, 29, 16, 12]
abbrev dktX1_put_2 : List UInt8 := dkwX1_put_2 ++ dktX1_put_3
def dkwX1_put_1 : List UInt8 := [180, 0, 29, 27, 184, 0, 33, 42, 180, 0, 23, 42, 180, 0, 29, 7, 96, 28, 184, 0, 33, 42]
abbrev dktX1_put_1 : List UInt8 := dkwX1_put_1 ++ dktX1_put_2
def dkwX1_put_0 : List UInt8 := [42, 180, 0, 29, 42, 180, 0, 23, 190, 16, 16, 100, 164, 0, 5, 3, 172, 42, 180, 0, 23, 42]
abbrev dktX1_put_0 : List UInt8 := dkwX1_put_0 ++ dktX1_put_1
theorem dksX1_put_0 : cX1_put.data.toList.drop 0 = dktX1_put_0 := by decide +kernel
theorem dksX1_put_1 : cX1_put.data.toList.drop 22 = dktX1_put_1 := dk_seg dksX1_put_0 22 rfl rfl
theorem dksX1_put_2 : cX1_put.data.toList.drop 44 = dktX1_put_2 := dk_seg dksX1_put_1 22 rfl rfl
theorem dksX1_put_3 : cX1_put.data.toList.drop 68 = dktX1_put_3 := dk_seg dksX1_put_2 24 rfl rfl
theorem dX1_put_0 : decode cX1_put 0 = .ok (.aload_n 0, 1) := dk_42 (dk_at dksX1_put_0 0 rfl rfl)
theorem dX1_put_1 : decode cX1_put 1 = .ok (.getfield 29, 3) := dk_180 0 29 (dk_at dksX1_put_0 1 rfl rfl)
theorem dX1_put_4 : decode cX1_put 4 = .ok (.aload_n 0, 1) := dk_42 (dk_at dksX1_put_0 4 rfl rfl)
theorem dX1_put_5 : decode cX1_put 5 = .ok (.getfield 23, 3) := dk_180 0 23 (dk_at dksX1_put_0 5 rfl rfl)
theorem dX1_put_8 : decode cX1_put 8 = .ok (.arraylength, 1) := dk_190 (dk_at dksX1_put_0 8 rfl rfl)
theorem dX1_put_9 : decode cX1_put 9 = .ok (.bipush 16, 2) := dk_16 16 (dk_at dksX1_put_0 9 rfl rfl)
theorem dX1_put_11 : decode cX1_put 11 = .ok (.isub, 1) := dk_100 (dk_at dksX1_put_0 11 rfl rfl)
theorem dX1_put_12 : decode cX1_put 12 = .ok (.if_icmp .le 5, 3) := dk_164 0 5 (dk_at dksX1_put_0 12 rfl rfl)
theorem dX1_put_15 : decode cX1_put 15 = .ok (.iconst 0, 1) := dk_3 (dk_at dksX1_put_0 15 rfl rfl)
theorem dX1_put_16 : decode cX1_put 16 = .ok (.ireturn, 1) := dk_172 (dk_at dksX1_put_0 16 rfl rfl)
theorem dX1_put_17 : decode cX1_put 17 = .ok (.aload_n 0, 1) := dk_42 (dk_at dksX1_put_0 17 rfl rfl)
theorem dX1_put_18 : decode cX1_put 18 = .ok (.getfield 23, 3) := dk_180 0 23 (dk_at dksX1_put_0 18 rfl rfl)
theorem dX1_put_21 : decode cX1_put 21 = .ok (.aload_n 0, 1) := dk_42 (dk_at dksX1_put_0 21 rfl rfl)
theorem dX1_put_22 : decode cX1_put 22 = .ok (.getfield 29, 3) := dk_180 0 29 (dk_at dksX1_put_1 0 rfl rfl)
theorem dX1_put_25 : decode cX1_put 25 = .ok (.iload_n 1, 1) := dk_27 (dk_at dksX1_put_1 3 rfl rfl)
theorem dX1_put_26 : decode cX1_put 26 = .ok (.invokestatic 33, 3) := dk_184 0 33 (dk_at dksX1_put_1 4 rfl rfl)
theorem dX1_put_29 : decode cX1_put 29 = .ok (.aload_n 0, 1) := dk_42 (dk_at dksX1_put_1 7 rfl rfl)
theorem dX1_put_30 : decode cX1_put 30 = .ok (.getfield 23, 3) := dk_180 0 23 (dk_at dksX1_put_1 8 rfl rfl)
theorem dX1_put_33 : decode cX1_put 33 = .ok (.aload_n 0, 1) := dk_42 (dk_at dksX1_put_1 11 rfl rfl)
theorem dX1_put_34 : decode cX1_put 34 = .ok (.getfield 29, 3) := dk_180 0 29 (dk_at dksX1_put_1 12 rfl rfl)
theorem dX1_put_37 : decode cX1_put 37 = .ok (.iconst 4, 1) := dk_7 (dk_at dksX1_put_1 15 rfl rfl)
theorem dX1_put_38 : decode cX1_put 38 = .ok (.iadd, 1) := dk_96 (dk_at dksX1_put_1 16 rfl rfl)
theorem dX1_put_39 : decode cX1_put 39 = .ok (.iload_n 2, 1) := dk_28 (dk_at dksX1_put_1 17 rfl rfl)
theorem dX1_put_40 : decode cX1_put 40 = .ok (.invokestatic 33, 3) := dk_184 0 33 (dk_at dksX1_put_1 18 rfl rfl)
theorem dX1_put_43 : decode cX1_put 43 = .ok (.aload_n 0, 1) := dk_42 (dk_at dksX1_put_1 21 rfl rfl)
theorem dX1_put_44 : decode cX1_put 44 = .ok (.getfield 23, 3) := dk_180 0 23 (dk_at dksX1_put_2 0 rfl rfl)
theorem dX1_put_47 : decode cX1_put 47 = .ok (.aload_n 0, 1) := dk_42 (dk_at dksX1_put_2 3 rfl rfl)
theorem dX1_put_48 : decode cX1_put 48 = .ok (.getfield 29, 3) := dk_180 0 29 (dk_at dksX1_put_2 4 rfl rfl)
theorem dX1_put_51 : decode cX1_put 51 = .ok (.bipush 8, 2) := dk_16 8 (dk_at dksX1_put_2 7 rfl rfl)
theorem dX1_put_53 : decode cX1_put 53 = .ok (.iadd, 1) := dk_96 (dk_at dksX1_put_2 9 rfl rfl)
theorem dX1_put_54 : decode cX1_put 54 = .ok (.iload_n 3, 1) := dk_29 (dk_at dksX1_put_2 10 rfl rfl)
theorem dX1_put_55 : decode cX1_put 55 = .ok (.invokestatic 33, 3) := dk_184 0 33 (dk_at dksX1_put_2 11 rfl rfl)
theorem dX1_put_58 : decode cX1_put 58 = .ok (.aload_n 0, 1) := dk_42 (dk_at dksX1_put_2 14 rfl rfl)
theorem dX1_put_59 : decode cX1_put 59 = .ok (.getfield 23, 3) := dk_180 0 23 (dk_at dksX1_put_2 15 rfl rfl)
theorem dX1_put_62 : decode cX1_put 62 = .ok (.aload_n 0, 1) := dk_42 (dk_at dksX1_put_2 18 rfl rfl)
theorem dX1_put_63 : decode cX1_put 63 = .ok (.getfield 29, 3) := dk_180 0 29 (dk_at dksX1_put_2 19 rfl rfl)
theorem dX1_put_66 : decode cX1_put 66 = .ok (.bipush 12, 2) := dk_16 12 (dk_at dksX1_put_2 22 rfl rfl)
theorem dX1_put_68 : decode cX1_put 68 = .ok (.iadd, 1) := dk_96 (dk_at dksX1_put_3 0 rfl rfl)
theorem dX1_put_69 : decode cX1_put 69 = .ok (.iload 4, 2) := dk_21 4 (dk_at dksX1_put_3 1 rfl rfl)
theorem dX1_put_71 : decode cX1_put 71 = .ok (.invokestatic 33, 3) := dk_184 0 33 (dk_at dksX1_put_3 3 rfl rfl)
theorem dX1_put_74 : decode cX1_put 74 = .ok (.aload_n 0, 1) := dk_42 (dk_at dksX1_put_3 6 rfl rfl)
theorem dX1_put_75 : decode cX1_put 75 = .ok (.dup, 1) := dk_89 (dk_at dksX1_put_3 7 rfl rfl)
theorem dX1_put_76 : decode cX1_put 76 = .ok (.getfield 29, 3) := dk_180 0 29 (dk_at dksX1_put_3 8 rfl rfl)
theorem dX1_put_79 : decode cX1_put 79 = .ok (.bipush 16, 2) := dk_16 16 (dk_at dksX1_put_3 11 rfl rfl)
theorem dX1_put_81 : decode cX1_put 81 = .ok (.iadd, 1) := dk_96 (dk_at dksX1_put_3 13 rfl rfl)
theorem dX1_put_82 : decode cX1_put 82 = .ok (.putfield 29, 3) := dk_181 0 29 (dk_at dksX1_put_3 14 rfl rfl)
theorem dX1_put_85 : decode cX1_put 85 = .ok (.iconst 1, 1) := dk_4 (dk_at dksX1_put_3 17 rfl rfl)
theorem dX1_put_86 : decode cX1_put 86 = .ok (.ireturn, 1) := dk_172 (dk_at dksX1_put_3 18 rfl rfl)
abbrev cX1_word : ByteArray := prog_11_method_3_code
def yX1_word : MethodName := ⟨RX1, "word", "([BII)V"⟩
def dkwX1_word_1 : List UInt8 := [16, 8, 122, 145, 84, 42, 27, 6, 96, 28, 145, 84, 177]
abbrev dktX1_word_1 : List UInt8 := dkwX1_word_1 ++ []
def dkwX1_word_0 : List UInt8 := [42, 27, 28, 16, 24, 122, 145, 84, 42, 27, 4, 96, 28, 16, 16, 122, 145, 84, 42, 27, 5, 96, 28]
abbrev dktX1_word_0 : List UInt8 := dkwX1_word_0 ++ dktX1_word_1
theorem dksX1_word_0 : cX1_word.data.toList.drop 0 = dktX1_word_0 := by decide +kernel
theorem dksX1_word_1 : cX1_word.data.toList.drop 23 = dktX1_word_1 := dk_seg dksX1_word_0 23 rfl rfl
theorem dX1_word_0 : decode cX1_word 0 = .ok (.aload_n 0, 1) := dk_42 (dk_at dksX1_word_0 0 rfl rfl)
theorem dX1_word_1 : decode cX1_word 1 = .ok (.iload_n 1, 1) := dk_27 (dk_at dksX1_word_0 1 rfl rfl)
theorem dX1_word_2 : decode cX1_word 2 = .ok (.iload_n 2, 1) := dk_28 (dk_at dksX1_word_0 2 rfl rfl)
theorem dX1_word_3 : decode cX1_word 3 = .ok (.bipush 24, 2) := dk_16 24 (dk_at dksX1_word_0 3 rfl rfl)
theorem dX1_word_5 : decode cX1_word 5 = .ok (.ishr, 1) := dk_122 (dk_at dksX1_word_0 5 rfl rfl)
theorem dX1_word_6 : decode cX1_word 6 = .ok (.i2b, 1) := dk_145 (dk_at dksX1_word_0 6 rfl rfl)
theorem dX1_word_7 : decode cX1_word 7 = .ok (.bastore, 1) := dk_84 (dk_at dksX1_word_0 7 rfl rfl)
theorem dX1_word_8 : decode cX1_word 8 = .ok (.aload_n 0, 1) := dk_42 (dk_at dksX1_word_0 8 rfl rfl)
theorem dX1_word_9 : decode cX1_word 9 = .ok (.iload_n 1, 1) := dk_27 (dk_at dksX1_word_0 9 rfl rfl)
theorem dX1_word_10 : decode cX1_word 10 = .ok (.iconst 1, 1) := dk_4 (dk_at dksX1_word_0 10 rfl rfl)
theorem dX1_word_11 : decode cX1_word 11 = .ok (.iadd, 1) := dk_96 (dk_at dksX1_word_0 11 rfl rfl)
theorem dX1_word_12 : decode cX1_word 12 = .ok (.iload_n 2, 1) := dk_28 (dk_at dksX1_word_0 12 rfl rfl)
theorem dX1_word_13 : decode cX1_word 13 = .ok (.bipush 16, 2) := dk_16 16 (dk_at dksX1_word_0 13 rfl rfl)
theorem dX1_word_15 : decode cX1_word 15 = .ok (.ishr, 1) := dk_122 (dk_at dksX1_word_0 15 rfl rfl)
theorem dX1_word_16 : decode cX1_word 16 = .ok (.i2b, 1) := dk_145 (dk_at dksX1_word_0 16 rfl rfl)
theorem dX1_word_17 : decode cX1_word 17 = .ok (.bastore, 1) := dk_84 (dk_at dksX1_word_0 17 rfl rfl)
theorem dX1_word_18 : decode cX1_word 18 = .ok (.aload_n 0, 1) := dk_42 (dk_at dksX1_word_0 18 rfl rfl)
theorem dX1_word_19 : decode cX1_word 19 = .ok (.iload_n 1, 1) := dk_27 (dk_at dksX1_word_0 19 rfl rfl)
theorem dX1_word_20 : decode cX1_word 20 = .ok (.iconst 2, 1) := dk_5 (dk_at dksX1_word_0 20 rfl rfl)
theorem dX1_word_21 : decode cX1_word 21 = .ok (.iadd, 1) := dk_96 (dk_at dksX1_word_0 21 rfl rfl)
theorem dX1_word_22 : decode cX1_word 22 = .ok (.iload_n 2, 1) := dk_28 (dk_at dksX1_word_0 22 rfl rfl)
theorem dX1_word_23 : decode cX1_word 23 = .ok (.bipush 8, 2) := dk_16 8 (dk_at dksX1_word_1 0 rfl rfl)
theorem dX1_word_25 : decode cX1_word 25 = .ok (.ishr, 1) := dk_122 (dk_at dksX1_word_1 2 rfl rfl)
theorem dX1_word_26 : decode cX1_word 26 = .ok (.i2b, 1) := dk_145 (dk_at dksX1_word_1 3 rfl rfl)
theorem dX1_word_27 : decode cX1_word 27 = .ok (.bastore, 1) := dk_84 (dk_at dksX1_word_1 4 rfl rfl)
theorem dX1_word_28 : decode cX1_word 28 = .ok (.aload_n 0, 1) := dk_42 (dk_at dksX1_word_1 5 rfl rfl)
theorem dX1_word_29 : decode cX1_word 29 = .ok (.iload_n 1, 1) := dk_27 (dk_at dksX1_word_1 6 rfl rfl)
theorem dX1_word_30 : decode cX1_word 30 = .ok (.iconst 3, 1) := dk_6 (dk_at dksX1_word_1 7 rfl rfl)
theorem dX1_word_31 : decode cX1_word 31 = .ok (.iadd, 1) := dk_96 (dk_at dksX1_word_1 8 rfl rfl)
theorem dX1_word_32 : decode cX1_word 32 = .ok (.iload_n 2, 1) := dk_28 (dk_at dksX1_word_1 9 rfl rfl)
theorem dX1_word_33 : decode cX1_word 33 = .ok (.i2b, 1) := dk_145 (dk_at dksX1_word_1 10 rfl rfl)
theorem dX1_word_34 : decode cX1_word 34 = .ok (.bastore, 1) := dk_84 (dk_at dksX1_word_1 11 rfl rfl)
theorem dX1_word_35 : decode cX1_word 35 = .ok (.return_, 1) := dk_177 (dk_at dksX1_word_1 12 rfl rfl)
abbrev cX1_trim : ByteArray := prog_11_method_4_code
def yX1_trim : MethodName := ⟨RX1, "trim", "(I)V"⟩
def dkwX1_trim_0 : List UInt8 := [42, 42, 27, 182, 0, 37, 181, 0, 29, 177]
abbrev dktX1_trim_0 : List UInt8 := dkwX1_trim_0 ++ []
theorem dksX1_trim_0 : cX1_trim.data.toList.drop 0 = dktX1_trim_0 := by decide +kernel
theorem dX1_trim_0 : decode cX1_trim 0 = .ok (.aload_n 0, 1) := dk_42 (dk_at dksX1_trim_0 0 rfl rfl)
theorem dX1_trim_1 : decode cX1_trim 1 = .ok (.aload_n 0, 1) := dk_42 (dk_at dksX1_trim_0 1 rfl rfl)
theorem dX1_trim_2 : decode cX1_trim 2 = .ok (.iload_n 1, 1) := dk_27 (dk_at dksX1_trim_0 2 rfl rfl)
theorem dX1_trim_3 : decode cX1_trim 3 = .ok (.invokevirtual 37, 3) := dk_182 0 37 (dk_at dksX1_trim_0 3 rfl rfl)
theorem dX1_trim_6 : decode cX1_trim 6 = .ok (.putfield 29, 3) := dk_181 0 29 (dk_at dksX1_trim_0 6 rfl rfl)
theorem dX1_trim_9 : decode cX1_trim 9 = .ok (.return_, 1) := dk_177 (dk_at dksX1_trim_0 9 rfl rfl)
abbrev cX1_key : ByteArray := prog_11_method_7_code
def yX1_key : MethodName := ⟨RX1, "key", "(IIIII)V"⟩
def dkwX1_key_2 : List UInt8 := [21, 6, 16, 12, 96, 21, 5, 184, 0, 33, 177]
abbrev dktX1_key_2 : List UInt8 := dkwX1_key_2 ++ []
def dkwX1_key_1 : List UInt8 := [96, 29, 184, 0, 33, 42, 180, 0, 16, 21, 6, 16, 8, 96, 21, 4, 184, 0, 33, 42, 180, 0, 16]
abbrev dktX1_key_1 : List UInt8 := dkwX1_key_1 ++ dktX1_key_2
def dkwX1_key_0 : List UInt8 := [27, 4, 126, 7, 120, 54, 6, 42, 180, 0, 16, 21, 6, 28, 184, 0, 33, 42, 180, 0, 16, 21, 6, 7]
abbrev dktX1_key_0 : List UInt8 := dkwX1_key_0 ++ dktX1_key_1
theorem dksX1_key_0 : cX1_key.data.toList.drop 0 = dktX1_key_0 := by decide +kernel
theorem dksX1_key_1 : cX1_key.data.toList.drop 24 = dktX1_key_1 := dk_seg dksX1_key_0 24 rfl rfl
theorem dksX1_key_2 : cX1_key.data.toList.drop 47 = dktX1_key_2 := dk_seg dksX1_key_1 23 rfl rfl
theorem dX1_key_0 : decode cX1_key 0 = .ok (.iload_n 1, 1) := dk_27 (dk_at dksX1_key_0 0 rfl rfl)
theorem dX1_key_1 : decode cX1_key 1 = .ok (.iconst 1, 1) := dk_4 (dk_at dksX1_key_0 1 rfl rfl)
theorem dX1_key_2 : decode cX1_key 2 = .ok (.iand, 1) := dk_126 (dk_at dksX1_key_0 2 rfl rfl)
theorem dX1_key_3 : decode cX1_key 3 = .ok (.iconst 4, 1) := dk_7 (dk_at dksX1_key_0 3 rfl rfl)
theorem dX1_key_4 : decode cX1_key 4 = .ok (.ishl, 1) := dk_120 (dk_at dksX1_key_0 4 rfl rfl)
theorem dX1_key_5 : decode cX1_key 5 = .ok (.istore 6, 2) := dk_54 6 (dk_at dksX1_key_0 5 rfl rfl)
theorem dX1_key_7 : decode cX1_key 7 = .ok (.aload_n 0, 1) := dk_42 (dk_at dksX1_key_0 7 rfl rfl)
theorem dX1_key_8 : decode cX1_key 8 = .ok (.getfield 16, 3) := dk_180 0 16 (dk_at dksX1_key_0 8 rfl rfl)
theorem dX1_key_11 : decode cX1_key 11 = .ok (.iload 6, 2) := dk_21 6 (dk_at dksX1_key_0 11 rfl rfl)
theorem dX1_key_13 : decode cX1_key 13 = .ok (.iload_n 2, 1) := dk_28 (dk_at dksX1_key_0 13 rfl rfl)
theorem dX1_key_14 : decode cX1_key 14 = .ok (.invokestatic 33, 3) := dk_184 0 33 (dk_at dksX1_key_0 14 rfl rfl)
theorem dX1_key_17 : decode cX1_key 17 = .ok (.aload_n 0, 1) := dk_42 (dk_at dksX1_key_0 17 rfl rfl)
theorem dX1_key_18 : decode cX1_key 18 = .ok (.getfield 16, 3) := dk_180 0 16 (dk_at dksX1_key_0 18 rfl rfl)
theorem dX1_key_21 : decode cX1_key 21 = .ok (.iload 6, 2) := dk_21 6 (dk_at dksX1_key_0 21 rfl rfl)
theorem dX1_key_23 : decode cX1_key 23 = .ok (.iconst 4, 1) := dk_7 (dk_at dksX1_key_0 23 rfl rfl)
theorem dX1_key_24 : decode cX1_key 24 = .ok (.iadd, 1) := dk_96 (dk_at dksX1_key_1 0 rfl rfl)
theorem dX1_key_25 : decode cX1_key 25 = .ok (.iload_n 3, 1) := dk_29 (dk_at dksX1_key_1 1 rfl rfl)
theorem dX1_key_26 : decode cX1_key 26 = .ok (.invokestatic 33, 3) := dk_184 0 33 (dk_at dksX1_key_1 2 rfl rfl)
theorem dX1_key_29 : decode cX1_key 29 = .ok (.aload_n 0, 1) := dk_42 (dk_at dksX1_key_1 5 rfl rfl)
theorem dX1_key_30 : decode cX1_key 30 = .ok (.getfield 16, 3) := dk_180 0 16 (dk_at dksX1_key_1 6 rfl rfl)
theorem dX1_key_33 : decode cX1_key 33 = .ok (.iload 6, 2) := dk_21 6 (dk_at dksX1_key_1 9 rfl rfl)
theorem dX1_key_35 : decode cX1_key 35 = .ok (.bipush 8, 2) := dk_16 8 (dk_at dksX1_key_1 11 rfl rfl)
theorem dX1_key_37 : decode cX1_key 37 = .ok (.iadd, 1) := dk_96 (dk_at dksX1_key_1 13 rfl rfl)
theorem dX1_key_38 : decode cX1_key 38 = .ok (.iload 4, 2) := dk_21 4 (dk_at dksX1_key_1 14 rfl rfl)
theorem dX1_key_40 : decode cX1_key 40 = .ok (.invokestatic 33, 3) := dk_184 0 33 (dk_at dksX1_key_1 16 rfl rfl)
theorem dX1_key_43 : decode cX1_key 43 = .ok (.aload_n 0, 1) := dk_42 (dk_at dksX1_key_1 19 rfl rfl)
theorem dX1_key_44 : decode cX1_key 44 = .ok (.getfield 16, 3) := dk_180 0 16 (dk_at dksX1_key_1 20 rfl rfl)
theorem dX1_key_47 : decode cX1_key 47 = .ok (.iload 6, 2) := dk_21 6 (dk_at dksX1_key_2 0 rfl rfl)
theorem dX1_key_49 : decode cX1_key 49 = .ok (.bipush 12, 2) := dk_16 12 (dk_at dksX1_key_2 2 rfl rfl)
theorem dX1_key_51 : decode cX1_key 51 = .ok (.iadd, 1) := dk_96 (dk_at dksX1_key_2 4 rfl rfl)
theorem dX1_key_52 : decode cX1_key 52 = .ok (.iload 5, 2) := dk_21 5 (dk_at dksX1_key_2 5 rfl rfl)
theorem dX1_key_54 : decode cX1_key 54 = .ok (.invokestatic 33, 3) := dk_184 0 33 (dk_at dksX1_key_2 7 rfl rfl)
theorem dX1_key_57 : decode cX1_key 57 = .ok (.return_, 1) := dk_177 (dk_at dksX1_key_2 10 rfl rfl)
abbrev cX1_nonce : ByteArray := prog_11_method_8_code
def yX1_nonce : MethodName := ⟨RX1, "nonce", "(IIIII)V"⟩
def dkwX1_nonce_2 : List UInt8 := [21, 6, 16, 12, 96, 21, 5, 184, 0, 33, 177]
abbrev dktX1_nonce_2 : List UInt8 := dkwX1_nonce_2 ++ []
def dkwX1_nonce_1 : List UInt8 := [96, 29, 184, 0, 33, 42, 180, 0, 20, 21, 6, 16, 8, 96, 21, 4, 184, 0, 33, 42, 180, 0, 20]
abbrev dktX1_nonce_1 : List UInt8 := dkwX1_nonce_1 ++ dktX1_nonce_2
def dkwX1_nonce_0 : List UInt8 := [27, 4, 126, 7, 120, 54, 6, 42, 180, 0, 20, 21, 6, 28, 184, 0, 33, 42, 180, 0, 20, 21, 6, 7]
abbrev dktX1_nonce_0 : List UInt8 := dkwX1_nonce_0 ++ dktX1_nonce_1
theorem dksX1_nonce_0 : cX1_nonce.data.toList.drop 0 = dktX1_nonce_0 := by decide +kernel
theorem dksX1_nonce_1 : cX1_nonce.data.toList.drop 24 = dktX1_nonce_1 := dk_seg dksX1_nonce_0 24 rfl rfl
theorem dksX1_nonce_2 : cX1_nonce.data.toList.drop 47 = dktX1_nonce_2 := dk_seg dksX1_nonce_1 23 rfl rfl
theorem dX1_nonce_0 : decode cX1_nonce 0 = .ok (.iload_n 1, 1) := dk_27 (dk_at dksX1_nonce_0 0 rfl rfl)
theorem dX1_nonce_1 : decode cX1_nonce 1 = .ok (.iconst 1, 1) := dk_4 (dk_at dksX1_nonce_0 1 rfl rfl)
theorem dX1_nonce_2 : decode cX1_nonce 2 = .ok (.iand, 1) := dk_126 (dk_at dksX1_nonce_0 2 rfl rfl)
theorem dX1_nonce_3 : decode cX1_nonce 3 = .ok (.iconst 4, 1) := dk_7 (dk_at dksX1_nonce_0 3 rfl rfl)
theorem dX1_nonce_4 : decode cX1_nonce 4 = .ok (.ishl, 1) := dk_120 (dk_at dksX1_nonce_0 4 rfl rfl)
theorem dX1_nonce_5 : decode cX1_nonce 5 = .ok (.istore 6, 2) := dk_54 6 (dk_at dksX1_nonce_0 5 rfl rfl)
theorem dX1_nonce_7 : decode cX1_nonce 7 = .ok (.aload_n 0, 1) := dk_42 (dk_at dksX1_nonce_0 7 rfl rfl)
theorem dX1_nonce_8 : decode cX1_nonce 8 = .ok (.getfield 20, 3) := dk_180 0 20 (dk_at dksX1_nonce_0 8 rfl rfl)
theorem dX1_nonce_11 : decode cX1_nonce 11 = .ok (.iload 6, 2) := dk_21 6 (dk_at dksX1_nonce_0 11 rfl rfl)
theorem dX1_nonce_13 : decode cX1_nonce 13 = .ok (.iload_n 2, 1) := dk_28 (dk_at dksX1_nonce_0 13 rfl rfl)
theorem dX1_nonce_14 : decode cX1_nonce 14 = .ok (.invokestatic 33, 3) := dk_184 0 33 (dk_at dksX1_nonce_0 14 rfl rfl)
theorem dX1_nonce_17 : decode cX1_nonce 17 = .ok (.aload_n 0, 1) := dk_42 (dk_at dksX1_nonce_0 17 rfl rfl)
theorem dX1_nonce_18 : decode cX1_nonce 18 = .ok (.getfield 20, 3) := dk_180 0 20 (dk_at dksX1_nonce_0 18 rfl rfl)
theorem dX1_nonce_21 : decode cX1_nonce 21 = .ok (.iload 6, 2) := dk_21 6 (dk_at dksX1_nonce_0 21 rfl rfl)
theorem dX1_nonce_23 : decode cX1_nonce 23 = .ok (.iconst 4, 1) := dk_7 (dk_at dksX1_nonce_0 23 rfl rfl)
theorem dX1_nonce_24 : decode cX1_nonce 24 = .ok (.iadd, 1) := dk_96 (dk_at dksX1_nonce_1 0 rfl rfl)
theorem dX1_nonce_25 : decode cX1_nonce 25 = .ok (.iload_n 3, 1) := dk_29 (dk_at dksX1_nonce_1 1 rfl rfl)
theorem dX1_nonce_26 : decode cX1_nonce 26 = .ok (.invokestatic 33, 3) := dk_184 0 33 (dk_at dksX1_nonce_1 2 rfl rfl)
theorem dX1_nonce_29 : decode cX1_nonce 29 = .ok (.aload_n 0, 1) := dk_42 (dk_at dksX1_nonce_1 5 rfl rfl)
theorem dX1_nonce_30 : decode cX1_nonce 30 = .ok (.getfield 20, 3) := dk_180 0 20 (dk_at dksX1_nonce_1 6 rfl rfl)
theorem dX1_nonce_33 : decode cX1_nonce 33 = .ok (.iload 6, 2) := dk_21 6 (dk_at dksX1_nonce_1 9 rfl rfl)
theorem dX1_nonce_35 : decode cX1_nonce 35 = .ok (.bipush 8, 2) := dk_16 8 (dk_at dksX1_nonce_1 11 rfl rfl)
theorem dX1_nonce_37 : decode cX1_nonce 37 = .ok (.iadd, 1) := dk_96 (dk_at dksX1_nonce_1 13 rfl rfl)
theorem dX1_nonce_38 : decode cX1_nonce 38 = .ok (.iload 4, 2) := dk_21 4 (dk_at dksX1_nonce_1 14 rfl rfl)
theorem dX1_nonce_40 : decode cX1_nonce 40 = .ok (.invokestatic 33, 3) := dk_184 0 33 (dk_at dksX1_nonce_1 16 rfl rfl)
theorem dX1_nonce_43 : decode cX1_nonce 43 = .ok (.aload_n 0, 1) := dk_42 (dk_at dksX1_nonce_1 19 rfl rfl)
theorem dX1_nonce_44 : decode cX1_nonce 44 = .ok (.getfield 20, 3) := dk_180 0 20 (dk_at dksX1_nonce_1 20 rfl rfl)
theorem dX1_nonce_47 : decode cX1_nonce 47 = .ok (.iload 6, 2) := dk_21 6 (dk_at dksX1_nonce_2 0 rfl rfl)
theorem dX1_nonce_49 : decode cX1_nonce 49 = .ok (.bipush 12, 2) := dk_16 12 (dk_at dksX1_nonce_2 2 rfl rfl)
theorem dX1_nonce_51 : decode cX1_nonce 51 = .ok (.iadd, 1) := dk_96 (dk_at dksX1_nonce_2 4 rfl rfl)
theorem dX1_nonce_52 : decode cX1_nonce 52 = .ok (.iload 5, 2) := dk_21 5 (dk_at dksX1_nonce_2 5 rfl rfl)
theorem dX1_nonce_54 : decode cX1_nonce 54 = .ok (.invokestatic 33, 3) := dk_184 0 33 (dk_at dksX1_nonce_2 7 rfl rfl)
theorem dX1_nonce_57 : decode cX1_nonce 57 = .ok (.return_, 1) := dk_177 (dk_at dksX1_nonce_2 10 rfl rfl)
abbrev cX1_begin : ByteArray := prog_11_method_9_code
def yX1_begin : MethodName := ⟨RX1, "begin", "(I)V"⟩
def dkwX1_begin_5 : List UInt8 := [181, 0, 60, 177]
abbrev dktX1_begin_5 : List UInt8 := dkwX1_begin_5 ++ []
def dkwX1_begin_4 : List UInt8 := [183, 0, 9, 181, 0, 10, 42, 180, 0, 10, 4, 25, 4, 182, 0, 52, 42, 4, 181, 0, 56, 42, 3]
abbrev dktX1_begin_4 : List UInt8 := dkwX1_begin_4 ++ dktX1_begin_5
def dkwX1_begin_3 : List UInt8 := [187, 0, 42, 89, 187, 0, 44, 89, 44, 183, 0, 46, 45, 183, 0, 49, 58, 4, 42, 187, 0, 7, 89]
abbrev dktX1_begin_3 : List UInt8 := dkwX1_begin_3 ++ dktX1_begin_4
def dkwX1_begin_2 : List UInt8 := [21, 4, 16, 8, 162, 0, 20, 45, 21, 4, 42, 180, 0, 20, 21, 4, 51, 84, 132, 4, 1, 167, 255, 235]
abbrev dktX1_begin_2 : List UInt8 := dkwX1_begin_2 ++ dktX1_begin_3
def dkwX1_begin_1 : List UInt8 := [44, 29, 42, 180, 0, 16, 29, 51, 84, 132, 3, 1, 167, 255, 238, 16, 8, 188, 8, 78, 3, 54, 4]
abbrev dktX1_begin_1 : List UInt8 := dkwX1_begin_1 ++ dktX1_begin_2
def dkwX1_begin_0 : List UInt8 := [27, 4, 126, 154, 0, 8, 16, 16, 167, 0, 5, 16, 32, 188, 8, 77, 3, 62, 29, 44, 190, 162, 0, 18]
abbrev dktX1_begin_0 : List UInt8 := dkwX1_begin_0 ++ dktX1_begin_1
theorem dksX1_begin_0 : cX1_begin.data.toList.drop 0 = dktX1_begin_0 := by decide +kernel
theorem dksX1_begin_1 : cX1_begin.data.toList.drop 24 = dktX1_begin_1 := dk_seg dksX1_begin_0 24 rfl rfl
theorem dksX1_begin_2 : cX1_begin.data.toList.drop 47 = dktX1_begin_2 := dk_seg dksX1_begin_1 23 rfl rfl
theorem dksX1_begin_3 : cX1_begin.data.toList.drop 71 = dktX1_begin_3 := dk_seg dksX1_begin_2 24 rfl rfl
theorem dksX1_begin_4 : cX1_begin.data.toList.drop 94 = dktX1_begin_4 := dk_seg dksX1_begin_3 23 rfl rfl
theorem dksX1_begin_5 : cX1_begin.data.toList.drop 117 = dktX1_begin_5 := dk_seg dksX1_begin_4 23 rfl rfl
theorem dX1_begin_0 : decode cX1_begin 0 = .ok (.iload_n 1, 1) := dk_27 (dk_at dksX1_begin_0 0 rfl rfl)
theorem dX1_begin_1 : decode cX1_begin 1 = .ok (.iconst 1, 1) := dk_4 (dk_at dksX1_begin_0 1 rfl rfl)
theorem dX1_begin_2 : decode cX1_begin 2 = .ok (.iand, 1) := dk_126 (dk_at dksX1_begin_0 2 rfl rfl)
theorem dX1_begin_3 : decode cX1_begin 3 = .ok (.ifCond .ne 8, 3) := dk_154 0 8 (dk_at dksX1_begin_0 3 rfl rfl)
theorem dX1_begin_6 : decode cX1_begin 6 = .ok (.bipush 16, 2) := dk_16 16 (dk_at dksX1_begin_0 6 rfl rfl)
theorem dX1_begin_8 : decode cX1_begin 8 = .ok (.goto 5, 3) := dk_167 0 5 (dk_at dksX1_begin_0 8 rfl rfl)
theorem dX1_begin_11 : decode cX1_begin 11 = .ok (.bipush 32, 2) := dk_16 32 (dk_at dksX1_begin_0 11 rfl rfl)
theorem dX1_begin_13 : decode cX1_begin 13 = .ok (.newarray .byte, 2) := dk_188_8 (dk_at dksX1_begin_0 13 rfl rfl)
theorem dX1_begin_15 : decode cX1_begin 15 = .ok (.astore_n 2, 1) := dk_77 (dk_at dksX1_begin_0 15 rfl rfl)
theorem dX1_begin_16 : decode cX1_begin 16 = .ok (.iconst 0, 1) := dk_3 (dk_at dksX1_begin_0 16 rfl rfl)
theorem dX1_begin_17 : decode cX1_begin 17 = .ok (.istore_n 3, 1) := dk_62 (dk_at dksX1_begin_0 17 rfl rfl)
theorem dX1_begin_18 : decode cX1_begin 18 = .ok (.iload_n 3, 1) := dk_29 (dk_at dksX1_begin_0 18 rfl rfl)
theorem dX1_begin_19 : decode cX1_begin 19 = .ok (.aload_n 2, 1) := dk_44 (dk_at dksX1_begin_0 19 rfl rfl)
theorem dX1_begin_20 : decode cX1_begin 20 = .ok (.arraylength, 1) := dk_190 (dk_at dksX1_begin_0 20 rfl rfl)
theorem dX1_begin_21 : decode cX1_begin 21 = .ok (.if_icmp .ge 18, 3) := dk_162 0 18 (dk_at dksX1_begin_0 21 rfl rfl)
theorem dX1_begin_24 : decode cX1_begin 24 = .ok (.aload_n 2, 1) := dk_44 (dk_at dksX1_begin_1 0 rfl rfl)
theorem dX1_begin_25 : decode cX1_begin 25 = .ok (.iload_n 3, 1) := dk_29 (dk_at dksX1_begin_1 1 rfl rfl)
theorem dX1_begin_26 : decode cX1_begin 26 = .ok (.aload_n 0, 1) := dk_42 (dk_at dksX1_begin_1 2 rfl rfl)
theorem dX1_begin_27 : decode cX1_begin 27 = .ok (.getfield 16, 3) := dk_180 0 16 (dk_at dksX1_begin_1 3 rfl rfl)
theorem dX1_begin_30 : decode cX1_begin 30 = .ok (.iload_n 3, 1) := dk_29 (dk_at dksX1_begin_1 6 rfl rfl)
theorem dX1_begin_31 : decode cX1_begin 31 = .ok (.baload, 1) := dk_51 (dk_at dksX1_begin_1 7 rfl rfl)
theorem dX1_begin_32 : decode cX1_begin 32 = .ok (.bastore, 1) := dk_84 (dk_at dksX1_begin_1 8 rfl rfl)
theorem dX1_begin_33 : decode cX1_begin 33 = .ok (.iinc 3 1, 3) := dk_132 3 1 (dk_at dksX1_begin_1 9 rfl rfl)
theorem dX1_begin_36 : decode cX1_begin 36 = .ok (.goto (-18), 3) := dk_167 255 238 (dk_at dksX1_begin_1 12 rfl rfl)
theorem dX1_begin_39 : decode cX1_begin 39 = .ok (.bipush 8, 2) := dk_16 8 (dk_at dksX1_begin_1 15 rfl rfl)
theorem dX1_begin_41 : decode cX1_begin 41 = .ok (.newarray .byte, 2) := dk_188_8 (dk_at dksX1_begin_1 17 rfl rfl)
theorem dX1_begin_43 : decode cX1_begin 43 = .ok (.astore_n 3, 1) := dk_78 (dk_at dksX1_begin_1 19 rfl rfl)
theorem dX1_begin_44 : decode cX1_begin 44 = .ok (.iconst 0, 1) := dk_3 (dk_at dksX1_begin_1 20 rfl rfl)
theorem dX1_begin_45 : decode cX1_begin 45 = .ok (.istore 4, 2) := dk_54 4 (dk_at dksX1_begin_1 21 rfl rfl)
theorem dX1_begin_47 : decode cX1_begin 47 = .ok (.iload 4, 2) := dk_21 4 (dk_at dksX1_begin_2 0 rfl rfl)
theorem dX1_begin_49 : decode cX1_begin 49 = .ok (.bipush 8, 2) := dk_16 8 (dk_at dksX1_begin_2 2 rfl rfl)
theorem dX1_begin_51 : decode cX1_begin 51 = .ok (.if_icmp .ge 20, 3) := dk_162 0 20 (dk_at dksX1_begin_2 4 rfl rfl)
theorem dX1_begin_54 : decode cX1_begin 54 = .ok (.aload_n 3, 1) := dk_45 (dk_at dksX1_begin_2 7 rfl rfl)
theorem dX1_begin_55 : decode cX1_begin 55 = .ok (.iload 4, 2) := dk_21 4 (dk_at dksX1_begin_2 8 rfl rfl)
theorem dX1_begin_57 : decode cX1_begin 57 = .ok (.aload_n 0, 1) := dk_42 (dk_at dksX1_begin_2 10 rfl rfl)
theorem dX1_begin_58 : decode cX1_begin 58 = .ok (.getfield 20, 3) := dk_180 0 20 (dk_at dksX1_begin_2 11 rfl rfl)
theorem dX1_begin_61 : decode cX1_begin 61 = .ok (.iload 4, 2) := dk_21 4 (dk_at dksX1_begin_2 14 rfl rfl)
theorem dX1_begin_63 : decode cX1_begin 63 = .ok (.baload, 1) := dk_51 (dk_at dksX1_begin_2 16 rfl rfl)
theorem dX1_begin_64 : decode cX1_begin 64 = .ok (.bastore, 1) := dk_84 (dk_at dksX1_begin_2 17 rfl rfl)
theorem dX1_begin_65 : decode cX1_begin 65 = .ok (.iinc 4 1, 3) := dk_132 4 1 (dk_at dksX1_begin_2 18 rfl rfl)
theorem dX1_begin_68 : decode cX1_begin 68 = .ok (.goto (-21), 3) := dk_167 255 235 (dk_at dksX1_begin_2 21 rfl rfl)
theorem dX1_begin_71 : decode cX1_begin 71 = .ok (.new 42, 3) := dk_187 0 42 (dk_at dksX1_begin_3 0 rfl rfl)
theorem dX1_begin_74 : decode cX1_begin 74 = .ok (.dup, 1) := dk_89 (dk_at dksX1_begin_3 3 rfl rfl)
theorem dX1_begin_75 : decode cX1_begin 75 = .ok (.new 44, 3) := dk_187 0 44 (dk_at dksX1_begin_3 4 rfl rfl)
theorem dX1_begin_78 : decode cX1_begin 78 = .ok (.dup, 1) := dk_89 (dk_at dksX1_begin_3 7 rfl rfl)
theorem dX1_begin_79 : decode cX1_begin 79 = .ok (.aload_n 2, 1) := dk_44 (dk_at dksX1_begin_3 8 rfl rfl)
theorem dX1_begin_80 : decode cX1_begin 80 = .ok (.invokespecial 46, 3) := dk_183 0 46 (dk_at dksX1_begin_3 9 rfl rfl)
theorem dX1_begin_83 : decode cX1_begin 83 = .ok (.aload_n 3, 1) := dk_45 (dk_at dksX1_begin_3 12 rfl rfl)
theorem dX1_begin_84 : decode cX1_begin 84 = .ok (.invokespecial 49, 3) := dk_183 0 49 (dk_at dksX1_begin_3 13 rfl rfl)
theorem dX1_begin_87 : decode cX1_begin 87 = .ok (.astore 4, 2) := dk_58 4 (dk_at dksX1_begin_3 16 rfl rfl)
theorem dX1_begin_89 : decode cX1_begin 89 = .ok (.aload_n 0, 1) := dk_42 (dk_at dksX1_begin_3 18 rfl rfl)
theorem dX1_begin_90 : decode cX1_begin 90 = .ok (.new 7, 3) := dk_187 0 7 (dk_at dksX1_begin_3 19 rfl rfl)
theorem dX1_begin_93 : decode cX1_begin 93 = .ok (.dup, 1) := dk_89 (dk_at dksX1_begin_3 22 rfl rfl)
theorem dX1_begin_94 : decode cX1_begin 94 = .ok (.invokespecial 9, 3) := dk_183 0 9 (dk_at dksX1_begin_4 0 rfl rfl)
theorem dX1_begin_97 : decode cX1_begin 97 = .ok (.putfield 10, 3) := dk_181 0 10 (dk_at dksX1_begin_4 3 rfl rfl)
theorem dX1_begin_100 : decode cX1_begin 100 = .ok (.aload_n 0, 1) := dk_42 (dk_at dksX1_begin_4 6 rfl rfl)
theorem dX1_begin_101 : decode cX1_begin 101 = .ok (.getfield 10, 3) := dk_180 0 10 (dk_at dksX1_begin_4 7 rfl rfl)
theorem dX1_begin_104 : decode cX1_begin 104 = .ok (.iconst 1, 1) := dk_4 (dk_at dksX1_begin_4 10 rfl rfl)
theorem dX1_begin_105 : decode cX1_begin 105 = .ok (.aload 4, 2) := dk_25 4 (dk_at dksX1_begin_4 11 rfl rfl)
theorem dX1_begin_107 : decode cX1_begin 107 = .ok (.invokevirtual 52, 3) := dk_182 0 52 (dk_at dksX1_begin_4 13 rfl rfl)
theorem dX1_begin_110 : decode cX1_begin 110 = .ok (.aload_n 0, 1) := dk_42 (dk_at dksX1_begin_4 16 rfl rfl)
theorem dX1_begin_111 : decode cX1_begin 111 = .ok (.iconst 1, 1) := dk_4 (dk_at dksX1_begin_4 17 rfl rfl)
theorem dX1_begin_112 : decode cX1_begin 112 = .ok (.putfield 56, 3) := dk_181 0 56 (dk_at dksX1_begin_4 18 rfl rfl)
theorem dX1_begin_115 : decode cX1_begin 115 = .ok (.aload_n 0, 1) := dk_42 (dk_at dksX1_begin_4 21 rfl rfl)
theorem dX1_begin_116 : decode cX1_begin 116 = .ok (.iconst 0, 1) := dk_3 (dk_at dksX1_begin_4 22 rfl rfl)
theorem dX1_begin_117 : decode cX1_begin 117 = .ok (.putfield 60, 3) := dk_181 0 60 (dk_at dksX1_begin_5 0 rfl rfl)
theorem dX1_begin_120 : decode cX1_begin 120 = .ok (.return_, 1) := dk_177 (dk_at dksX1_begin_5 3 rfl rfl)
theorem q7 : (Jvm.Cond.initialized "SalsaDesk") ∈ lw_all := lw_g (lw_at lw_m1 1 rfl) rfl
theorem q25 : (Jvm.Cond.instanceMethod ({ cls := "SalsaDesk", name := "run", desc := "(II)I" } : Jvm.MethodName)) ∈ lw_all := lw_g (lw_at lw_m1 19 rfl) rfl
theorem q26 : (Jvm.Cond.selects "SalsaDesk" ({ cls := "SalsaDesk", name := "run", desc := "(II)I" } : Jvm.MethodName) ({ cls := "SalsaDesk", name := "run", desc := "(II)I" } : Jvm.MethodName)) ∈ lw_all := lw_g (lw_at lw_m1 20 rfl) rfl
theorem q27 : (Jvm.Cond.code ({ cls := "SalsaDesk", name := "run", desc := "(II)I" } : Jvm.MethodName) prog_11_method_10_code (6 : Nat) (Option.some Jvm.ClassFile.FieldType.int)) ∈ lw_all := lw_g (lw_at lw_m1 21 rfl) rfl
theorem q28 : (Jvm.Cond.methodLink "SalsaDesk" (37 : Nat) ({ cls := "SalsaDesk", name := "from", desc := "(I)I" } : Jvm.MethodName)) ∈ lw_all := lw_g (lw_at lw_m1 22 rfl) rfl
theorem q29 : (Jvm.Cond.privateMethod ({ cls := "SalsaDesk", name := "from", desc := "(I)I" } : Jvm.MethodName)) ∈ lw_tbl := lw_at lw_m1 23 rfl
theorem q30 : (Jvm.Cond.instanceMethod ({ cls := "SalsaDesk", name := "from", desc := "(I)I" } : Jvm.MethodName)) ∈ lw_all := lw_g (lw_at lw_m1 24 rfl) rfl
theorem q31 : (Jvm.Cond.instantiable "SalsaDesk" (8 : Nat)) ∈ lw_all := lw_g (lw_at lw_m1 25 rfl) rfl
theorem q32 : (Jvm.Cond.code ({ cls := "SalsaDesk", name := "from", desc := "(I)I" } : Jvm.MethodName) prog_11_method_5_code (2 : Nat) (Option.some Jvm.ClassFile.FieldType.int)) ∈ lw_all := lw_g (lw_at lw_m1 26 rfl) rfl
theorem q33 : (Jvm.Cond.constant "SalsaDesk" (41 : Nat) (2147483647 : Int32)) ∈ lw_all := lw_g (lw_at lw_m1 27 rfl) rfl
theorem q34 : (Jvm.Cond.methodLink "SalsaDesk" (63 : Nat) ({ cls := "SalsaDesk", name := "count", desc := "(II)I" } : Jvm.MethodName)) ∈ lw_all := lw_g (lw_at lw_m1 28 rfl) rfl
theorem q35 : (Jvm.Cond.privateMethod ({ cls := "SalsaDesk", name := "count", desc := "(II)I" } : Jvm.MethodName)) ∈ lw_tbl := lw_at lw_m1 29 rfl
theorem q36 : (Jvm.Cond.instanceMethod ({ cls := "SalsaDesk", name := "count", desc := "(II)I" } : Jvm.MethodName)) ∈ lw_all := lw_g (lw_at lw_m1 30 rfl) rfl
theorem q37 : (Jvm.Cond.code ({ cls := "SalsaDesk", name := "count", desc := "(II)I" } : Jvm.MethodName) prog_11_method_6_code (3 : Nat) (Option.some Jvm.ClassFile.FieldType.int)) ∈ lw_all := lw_g (lw_at lw_m1 31 rfl) rfl
theorem q38 : (Jvm.Cond.methodLink "SalsaDesk" (67 : Nat) ({ cls := "Salsa20Engine", name := "processBytes", desc := "([BII[BI)I" } : Jvm.MethodName)) ∈ lw_all := lw_g (lw_at lw_m1 32 rfl) rfl
theorem q222 : (Jvm.Cond.instanceMethod ({ cls := "SalsaDesk", name := "one", desc := "(I)I" } : Jvm.MethodName)) ∈ lw_all := lw_g (lw_at lw_m1 216 rfl) rfl
theorem q223 : (Jvm.Cond.selects "SalsaDesk" ({ cls := "SalsaDesk", name := "one", desc := "(I)I" } : Jvm.MethodName) ({ cls := "SalsaDesk", name := "one", desc := "(I)I" } : Jvm.MethodName)) ∈ lw_all := lw_g (lw_at lw_m1 217 rfl) rfl
theorem q224 : (Jvm.Cond.code ({ cls := "SalsaDesk", name := "one", desc := "(I)I" } : Jvm.MethodName) prog_11_method_11_code (2 : Nat) (Option.some Jvm.ClassFile.FieldType.int)) ∈ lw_all := lw_g (lw_at lw_m1 218 rfl) rfl
theorem q225 : (Jvm.Cond.methodLink "SalsaDesk" (71 : Nat) ({ cls := "Salsa20Engine", name := "returnByte", desc := "(B)B" } : Jvm.MethodName)) ∈ lw_all := lw_g (lw_at lw_m1 219 rfl) rfl
theorem q235 : (Jvm.Cond.instanceMethod ({ cls := "SalsaDesk", name := "again", desc := "()V" } : Jvm.MethodName)) ∈ lw_all := lw_g (lw_at lw_m1 229 rfl) rfl
theorem q236 : (Jvm.Cond.selects "SalsaDesk" ({ cls := "SalsaDesk", name := "again", desc := "()V" } : Jvm.MethodName) ({ cls := "SalsaDesk", name := "again", desc := "()V" } : Jvm.MethodName)) ∈ lw_all := lw_g (lw_at lw_m1 230 rfl) rfl
theorem q237 : (Jvm.Cond.code ({ cls := "SalsaDesk", name := "again", desc := "()V" } : Jvm.MethodName) prog_11_method_12_code (1 : Nat) (Option.none : Option Jvm.ClassFile.FieldType)) ∈ lw_all := lw_g (lw_at lw_m1 231 rfl) rfl
theorem q238 : (Jvm.Cond.methodLink "SalsaDesk" (75 : Nat) ({ cls := "Salsa20Engine", name := "reset", desc := "()V" } : Jvm.MethodName)) ∈ lw_all := lw_g (lw_at lw_m1 232 rfl) rfl
theorem q251 : (Jvm.Cond.instanceMethod ({ cls := "SalsaDesk", name := "out", desc := "(I)I" } : Jvm.MethodName)) ∈ lw_all := lw_g (lw_at lw_m2 5 rfl) rfl
theorem q252 : (Jvm.Cond.selects "SalsaDesk" ({ cls := "SalsaDesk", name := "out", desc := "(I)I" } : Jvm.MethodName) ({ cls := "SalsaDesk", name := "out", desc := "(I)I" } : Jvm.MethodName)) ∈ lw_all := lw_g (lw_at lw_m2 6 rfl) rfl
theorem q253 : (Jvm.Cond.code ({ cls := "SalsaDesk", name := "out", desc := "(I)I" } : Jvm.MethodName) prog_11_method_13_code (2 : Nat) (Option.some Jvm.ClassFile.FieldType.int)) ∈ lw_all := lw_g (lw_at lw_m2 7 rfl) rfl
theorem q262 : (Jvm.Cond.instanceMethod ({ cls := "SalsaDesk", name := "<init>", desc := "()V" } : Jvm.MethodName)) ∈ lw_all := lw_g (lw_at lw_m2 16 rfl) rfl
theorem q263 : (Jvm.Cond.code ({ cls := "SalsaDesk", name := "<init>", desc := "()V" } : Jvm.MethodName) prog_11_method_1_code (1 : Nat) (Option.none : Option Jvm.ClassFile.FieldType)) ∈ lw_all := lw_g (lw_at lw_m2 17 rfl) rfl
theorem q264 : (Jvm.Cond.methodLink "SalsaDesk" (1 : Nat) ({ cls := "java/lang/Object", name := "<init>", desc := "()V" } : Jvm.MethodName)) ∈ lw_all := lw_g (lw_at lw_m2 18 rfl) rfl
theorem q265 : (Jvm.Cond.classLink "SalsaDesk" (7 : Nat) "Salsa20Engine") ∈ lw_all := lw_g (lw_at lw_m2 19 rfl) rfl
theorem q266 : (Jvm.Cond.methodLink "SalsaDesk" (9 : Nat) ({ cls := "Salsa20Engine", name := "<init>", desc := "()V" } : Jvm.MethodName)) ∈ lw_all := lw_g (lw_at lw_m2 20 rfl) rfl
theorem q303 : (Jvm.Cond.fieldLink "SalsaDesk" (10 : Nat) "SalsaDesk" "run" "LSalsa20Engine;") ∈ lw_all := lw_g (lw_at lw_m2 57 rfl) rfl
theorem q304 : (Jvm.Cond.fieldLink "SalsaDesk" (56 : Nat) "SalsaDesk" "set" "Z") ∈ lw_all := lw_g (lw_at lw_m2 58 rfl) rfl
theorem q305 : (Jvm.Cond.fieldLink "SalsaDesk" (60 : Nat) "SalsaDesk" "given" "I") ∈ lw_all := lw_g (lw_at lw_m2 59 rfl) rfl
theorem q306 : (Jvm.Cond.fieldLink "SalsaDesk" (16 : Nat) "SalsaDesk" "key" "[B") ∈ lw_all := lw_g (lw_at lw_m2 60 rfl) rfl
theorem q307 : (Jvm.Cond.fieldLink "SalsaDesk" (20 : Nat) "SalsaDesk" "nonce" "[B") ∈ lw_all := lw_g (lw_at lw_m2 61 rfl) rfl
theorem q308 : (Jvm.Cond.fieldLink "SalsaDesk" (23 : Nat) "SalsaDesk" "text" "[B") ∈ lw_all := lw_g (lw_at lw_m2 62 rfl) rfl
theorem q309 : (Jvm.Cond.fieldLink "SalsaDesk" (29 : Nat) "SalsaDesk" "size" "I") ∈ lw_all := lw_g (lw_at lw_m2 63 rfl) rfl
theorem q310 : (Jvm.Cond.fieldLink "SalsaDesk" (26 : Nat) "SalsaDesk" "out" "[B") ∈ lw_all := lw_g (lw_at lw_m2 64 rfl) rfl
theorem q311 : (Jvm.Cond.lays "SalsaDesk" "SalsaDesk" "run" "LSalsa20Engine;") ∈ lw_all := lw_g (lw_at lw_m2 65 rfl) rfl
theorem q312 : (Jvm.Cond.soleField "SalsaDesk" "run") ∈ lw_all := lw_g (lw_at lw_m2 66 rfl) rfl
theorem q313 : (Jvm.Cond.lays "SalsaDesk" "SalsaDesk" "set" "Z") ∈ lw_all := lw_g (lw_at lw_m2 67 rfl) rfl
theorem q314 : (Jvm.Cond.soleField "SalsaDesk" "set") ∈ lw_all := lw_g (lw_at lw_m2 68 rfl) rfl
theorem q315 : (Jvm.Cond.lays "SalsaDesk" "SalsaDesk" "given" "I") ∈ lw_all := lw_g (lw_at lw_m2 69 rfl) rfl
theorem q316 : (Jvm.Cond.soleField "SalsaDesk" "given") ∈ lw_all := lw_g (lw_at lw_m2 70 rfl) rfl
theorem q317 : (Jvm.Cond.laysFinal "SalsaDesk" "SalsaDesk" "key" "[B") ∈ lw_all := lw_g (lw_at lw_m2 71 rfl) rfl
theorem q318 : (Jvm.Cond.soleField "SalsaDesk" "key") ∈ lw_all := lw_g (lw_at lw_m2 72 rfl) rfl
theorem q319 : (Jvm.Cond.laysFinal "SalsaDesk" "SalsaDesk" "nonce" "[B") ∈ lw_all := lw_g (lw_at lw_m2 73 rfl) rfl
theorem q320 : (Jvm.Cond.soleField "SalsaDesk" "nonce") ∈ lw_all := lw_g (lw_at lw_m2 74 rfl) rfl
theorem q321 : (Jvm.Cond.laysFinal "SalsaDesk" "SalsaDesk" "text" "[B") ∈ lw_all := lw_g (lw_at lw_m2 75 rfl) rfl
theorem q322 : (Jvm.Cond.soleField "SalsaDesk" "text") ∈ lw_all := lw_g (lw_at lw_m2 76 rfl) rfl
theorem q323 : (Jvm.Cond.lays "SalsaDesk" "SalsaDesk" "size" "I") ∈ lw_all := lw_g (lw_at lw_m2 77 rfl) rfl
theorem q324 : (Jvm.Cond.soleField "SalsaDesk" "size") ∈ lw_all := lw_g (lw_at lw_m2 78 rfl) rfl
theorem q325 : (Jvm.Cond.lays "SalsaDesk" "SalsaDesk" "out" "[B") ∈ lw_all := lw_g (lw_at lw_m2 79 rfl) rfl
theorem q326 : (Jvm.Cond.soleField "SalsaDesk" "out") ∈ lw_all := lw_g (lw_at lw_m2 80 rfl) rfl
theorem q327 : (Jvm.Cond.superclass "SalsaDesk" "java/lang/Object") ∈ lw_all := lw_g (lw_at lw_m2 81 rfl) rfl
theorem q329 : (Jvm.Cond.instanceMethod ({ cls := "SalsaDesk", name := "put", desc := "(IIII)Z" } : Jvm.MethodName)) ∈ lw_all := lw_g (lw_at lw_m2 83 rfl) rfl
theorem q330 : (Jvm.Cond.selects "SalsaDesk" ({ cls := "SalsaDesk", name := "put", desc := "(IIII)Z" } : Jvm.MethodName) ({ cls := "SalsaDesk", name := "put", desc := "(IIII)Z" } : Jvm.MethodName)) ∈ lw_all := lw_g (lw_at lw_m2 84 rfl) rfl
theorem q331 : (Jvm.Cond.code ({ cls := "SalsaDesk", name := "put", desc := "(IIII)Z" } : Jvm.MethodName) prog_11_method_2_code (5 : Nat) (Option.some Jvm.ClassFile.FieldType.boolean)) ∈ lw_all := lw_g (lw_at lw_m2 85 rfl) rfl
theorem q332 : (Jvm.Cond.methodLink "SalsaDesk" (33 : Nat) ({ cls := "SalsaDesk", name := "word", desc := "([BII)V" } : Jvm.MethodName)) ∈ lw_all := lw_g (lw_at lw_m2 86 rfl) rfl
theorem q333 : (Jvm.Cond.static ({ cls := "SalsaDesk", name := "word", desc := "([BII)V" } : Jvm.MethodName)) ∈ lw_all := lw_g (lw_at lw_m2 87 rfl) rfl
theorem q334 : (Jvm.Cond.code ({ cls := "SalsaDesk", name := "word", desc := "([BII)V" } : Jvm.MethodName) prog_11_method_3_code (3 : Nat) (Option.none : Option Jvm.ClassFile.FieldType)) ∈ lw_all := lw_g (lw_at lw_m2 88 rfl) rfl
theorem q336 : (Jvm.Cond.instanceMethod ({ cls := "SalsaDesk", name := "trim", desc := "(I)V" } : Jvm.MethodName)) ∈ lw_all := lw_g (lw_at lw_m2 90 rfl) rfl
theorem q337 : (Jvm.Cond.selects "SalsaDesk" ({ cls := "SalsaDesk", name := "trim", desc := "(I)V" } : Jvm.MethodName) ({ cls := "SalsaDesk", name := "trim", desc := "(I)V" } : Jvm.MethodName)) ∈ lw_all := lw_g (lw_at lw_m2 91 rfl) rfl
theorem q338 : (Jvm.Cond.code ({ cls := "SalsaDesk", name := "trim", desc := "(I)V" } : Jvm.MethodName) prog_11_method_4_code (2 : Nat) (Option.none : Option Jvm.ClassFile.FieldType)) ∈ lw_all := lw_g (lw_at lw_m2 92 rfl) rfl
theorem q340 : (Jvm.Cond.instanceMethod ({ cls := "SalsaDesk", name := "key", desc := "(IIIII)V" } : Jvm.MethodName)) ∈ lw_all := lw_g (lw_at lw_m2 94 rfl) rfl
theorem q341 : (Jvm.Cond.selects "SalsaDesk" ({ cls := "SalsaDesk", name := "key", desc := "(IIIII)V" } : Jvm.MethodName) ({ cls := "SalsaDesk", name := "key", desc := "(IIIII)V" } : Jvm.MethodName)) ∈ lw_all := lw_g (lw_at lw_m2 95 rfl) rfl
theorem q342 : (Jvm.Cond.code ({ cls := "SalsaDesk", name := "key", desc := "(IIIII)V" } : Jvm.MethodName) prog_11_method_7_code (7 : Nat) (Option.none : Option Jvm.ClassFile.FieldType)) ∈ lw_all := lw_g (lw_at lw_m2 96 rfl) rfl
theorem q344 : (Jvm.Cond.instanceMethod ({ cls := "SalsaDesk", name := "nonce", desc := "(IIIII)V" } : Jvm.MethodName)) ∈ lw_all := lw_g (lw_at lw_m2 98 rfl) rfl
theorem q345 : (Jvm.Cond.selects "SalsaDesk" ({ cls := "SalsaDesk", name := "nonce", desc := "(IIIII)V" } : Jvm.MethodName) ({ cls := "SalsaDesk", name := "nonce", desc := "(IIIII)V" } : Jvm.MethodName)) ∈ lw_all := lw_g (lw_at lw_m2 99 rfl) rfl
theorem q346 : (Jvm.Cond.code ({ cls := "SalsaDesk", name := "nonce", desc := "(IIIII)V" } : Jvm.MethodName) prog_11_method_8_code (7 : Nat) (Option.none : Option Jvm.ClassFile.FieldType)) ∈ lw_all := lw_g (lw_at lw_m2 100 rfl) rfl
theorem q348 : (Jvm.Cond.instanceMethod ({ cls := "SalsaDesk", name := "begin", desc := "(I)V" } : Jvm.MethodName)) ∈ lw_all := lw_g (lw_at lw_m2 102 rfl) rfl
theorem q349 : (Jvm.Cond.selects "SalsaDesk" ({ cls := "SalsaDesk", name := "begin", desc := "(I)V" } : Jvm.MethodName) ({ cls := "SalsaDesk", name := "begin", desc := "(I)V" } : Jvm.MethodName)) ∈ lw_all := lw_g (lw_at lw_m2 103 rfl) rfl
theorem q350 : (Jvm.Cond.code ({ cls := "SalsaDesk", name := "begin", desc := "(I)V" } : Jvm.MethodName) prog_11_method_9_code (5 : Nat) (Option.none : Option Jvm.ClassFile.FieldType)) ∈ lw_all := lw_g (lw_at lw_m2 104 rfl) rfl
theorem q351 : (Jvm.Cond.classLink "SalsaDesk" (42 : Nat) "ParametersWithIV") ∈ lw_all := lw_g (lw_at lw_m2 105 rfl) rfl
theorem q353 : (Jvm.Cond.classLink "SalsaDesk" (44 : Nat) "KeyParameter") ∈ lw_all := lw_g (lw_at lw_m2 107 rfl) rfl
theorem q355 : (Jvm.Cond.methodLink "SalsaDesk" (46 : Nat) ({ cls := "KeyParameter", name := "<init>", desc := "([B)V" } : Jvm.MethodName)) ∈ lw_all := lw_g (lw_at lw_m2 109 rfl) rfl
theorem q372 : (Jvm.Cond.methodLink "SalsaDesk" (49 : Nat) ({ cls := "ParametersWithIV", name := "<init>", desc := "(LCipherParameters;[B)V" } : Jvm.MethodName)) ∈ lw_all := lw_g (lw_at lw_m2 126 rfl) rfl
theorem q387 : (Jvm.Cond.methodLink "SalsaDesk" (52 : Nat) ({ cls := "Salsa20Engine", name := "init", desc := "(ZLCipherParameters;)V" } : Jvm.MethodName)) ∈ lw_all := lw_g (lw_at lw_m2 141 rfl) rfl
theorem in_X1 : ∀ w ∈ wsX10, w ∈ lw_all := lw_in wsX10 [311, 313, 315, 317, 319, 321, 323, 325] (by decide +kernel) (by decide +kernel)
end
section
/-! Salsa20Engine -/
set_option maxRecDepth 100000
def RX2 : String := "Salsa20Engine"
def TX2 : u_T := fun k => match k with
  | 0 => ("Salsa20Engine", "rounds", "I", false)
  | 1 => ("Salsa20Engine", "index", "I", false)
  | 2 => ("Salsa20Engine", "engineState", "[I", false)
  | 3 => ("Salsa20Engine", "x", "[I", false)
  | 4 => ("Salsa20Engine", "keyStream", "[B", false)
  | 5 => ("Salsa20Engine", "initialised", "Z", false)
  | 6 => ("Salsa20Engine", "cW0", "I", false)
  | 7 => ("Salsa20Engine", "cW1", "I", false)
  | _ => ("Salsa20Engine", "cW2", "I", false)
def tyX2 : Nat → FieldType := fun k => match k with
  | 0 => .int
  | 1 => .int
  | 2 => .array .int
  | 3 => .array .int
  | 4 => .array .byte
  | 5 => .boolean
  | 6 => .int
  | 7 => .int
  | _ => .int
abbrev wsX20 : List Cond := u_ws RX2 TX2 9
theorem nmX2 : ∀ a, a < 9 → ∀ b, b < 9 → a ≠ b → (TX2 a).2.1 ≠ (TX2 b).2.1 := by decide +kernel
theorem tyX2_ok : ∀ k, k < 9 → parseFieldDescriptor (TX2 k).2.2.1 = some (tyX2 k) := by decide +kernel
abbrev cX2_processBytes : ByteArray := prog_10_method_7_code
def yX2_processBytes : MethodName := ⟨RX2, "processBytes", "([BII[BI)I"⟩
def dkwX2_processBytes_6 : List UInt8 := [132, 6, 1, 167, 255, 190, 29, 172]
abbrev dktX2_processBytes_6 : List UInt8 := dkwX2_processBytes_6 ++ []
def dkwX2_processBytes_5 : List UInt8 := [181, 0, 12, 42, 180, 0, 12, 154, 0, 15, 42, 182, 0, 81, 42, 42, 180, 0, 23, 182, 0, 84]
abbrev dktX2_processBytes_5 : List UInt8 := dkwX2_processBytes_5 ++ dktX2_processBytes_6
def dkwX2_processBytes_4 : List UInt8 := [42, 180, 0, 12, 51, 43, 21, 6, 28, 96, 51, 130, 145, 84, 42, 42, 180, 0, 12, 4, 96, 16, 63, 126]
abbrev dktX2_processBytes_4 : List UInt8 := dkwX2_processBytes_4 ++ dktX2_processBytes_5
def dkwX2_processBytes_3 : List UInt8 := [183, 0, 80, 191, 3, 54, 6, 21, 6, 29, 162, 0, 66, 25, 4, 21, 6, 21, 5, 96, 42, 180, 0, 23]
abbrev dktX2_processBytes_3 : List UInt8 := dkwX2_processBytes_3 ++ dktX2_processBytes_4
def dkwX2_processBytes_2 : List UInt8 := [187, 0, 93, 89, 18, 95, 183, 0, 97, 191, 42, 29, 182, 0, 98, 153, 0, 13, 187, 0, 76, 89, 18, 101]
abbrev dktX2_processBytes_2 : List UInt8 := dkwX2_processBytes_2 ++ dktX2_processBytes_3
def dkwX2_processBytes_1 : List UInt8 := [164, 0, 13, 187, 0, 88, 89, 18, 90, 183, 0, 92, 191, 21, 5, 29, 96, 25, 4, 190, 164, 0, 13]
abbrev dktX2_processBytes_1 : List UInt8 := dkwX2_processBytes_1 ++ dktX2_processBytes_2
def dkwX2_processBytes_0 : List UInt8 := [42, 180, 0, 27, 154, 0, 13, 187, 0, 57, 89, 18, 43, 183, 0, 59, 191, 28, 29, 96, 43, 190]
abbrev dktX2_processBytes_0 : List UInt8 := dkwX2_processBytes_0 ++ dktX2_processBytes_1
theorem dksX2_processBytes_0 : cX2_processBytes.data.toList.drop 0 = dktX2_processBytes_0 := by decide +kernel
theorem dksX2_processBytes_1 : cX2_processBytes.data.toList.drop 22 = dktX2_processBytes_1 := dk_seg dksX2_processBytes_0 22 rfl rfl
theorem dksX2_processBytes_2 : cX2_processBytes.data.toList.drop 45 = dktX2_processBytes_2 := dk_seg dksX2_processBytes_1 23 rfl rfl
theorem dksX2_processBytes_3 : cX2_processBytes.data.toList.drop 69 = dktX2_processBytes_3 := dk_seg dksX2_processBytes_2 24 rfl rfl
theorem dksX2_processBytes_4 : cX2_processBytes.data.toList.drop 93 = dktX2_processBytes_4 := dk_seg dksX2_processBytes_3 24 rfl rfl
theorem dksX2_processBytes_5 : cX2_processBytes.data.toList.drop 117 = dktX2_processBytes_5 := dk_seg dksX2_processBytes_4 24 rfl rfl
theorem dksX2_processBytes_6 : cX2_processBytes.data.toList.drop 139 = dktX2_processBytes_6 := dk_seg dksX2_processBytes_5 22 rfl rfl
theorem dX2_processBytes_0 : decode cX2_processBytes 0 = .ok (.aload_n 0, 1) := dk_42 (dk_at dksX2_processBytes_0 0 rfl rfl)
theorem dX2_processBytes_1 : decode cX2_processBytes 1 = .ok (.getfield 27, 3) := dk_180 0 27 (dk_at dksX2_processBytes_0 1 rfl rfl)
theorem dX2_processBytes_4 : decode cX2_processBytes 4 = .ok (.ifCond .ne 13, 3) := dk_154 0 13 (dk_at dksX2_processBytes_0 4 rfl rfl)
theorem dX2_processBytes_7 : decode cX2_processBytes 7 = .ok (.new 57, 3) := dk_187 0 57 (dk_at dksX2_processBytes_0 7 rfl rfl)
theorem dX2_processBytes_10 : decode cX2_processBytes 10 = .ok (.dup, 1) := dk_89 (dk_at dksX2_processBytes_0 10 rfl rfl)
theorem dX2_processBytes_11 : decode cX2_processBytes 11 = .ok (.ldc 43, 2) := dk_18 43 (dk_at dksX2_processBytes_0 11 rfl rfl)
theorem dX2_processBytes_13 : decode cX2_processBytes 13 = .ok (.invokespecial 59, 3) := dk_183 0 59 (dk_at dksX2_processBytes_0 13 rfl rfl)
theorem dX2_processBytes_16 : decode cX2_processBytes 16 = .ok (.athrow, 1) := dk_191 (dk_at dksX2_processBytes_0 16 rfl rfl)
theorem dX2_processBytes_17 : decode cX2_processBytes 17 = .ok (.iload_n 2, 1) := dk_28 (dk_at dksX2_processBytes_0 17 rfl rfl)
theorem dX2_processBytes_18 : decode cX2_processBytes 18 = .ok (.iload_n 3, 1) := dk_29 (dk_at dksX2_processBytes_0 18 rfl rfl)
theorem dX2_processBytes_19 : decode cX2_processBytes 19 = .ok (.iadd, 1) := dk_96 (dk_at dksX2_processBytes_0 19 rfl rfl)
theorem dX2_processBytes_20 : decode cX2_processBytes 20 = .ok (.aload_n 1, 1) := dk_43 (dk_at dksX2_processBytes_0 20 rfl rfl)
theorem dX2_processBytes_21 : decode cX2_processBytes 21 = .ok (.arraylength, 1) := dk_190 (dk_at dksX2_processBytes_0 21 rfl rfl)
theorem dX2_processBytes_22 : decode cX2_processBytes 22 = .ok (.if_icmp .le 13, 3) := dk_164 0 13 (dk_at dksX2_processBytes_1 0 rfl rfl)
theorem dX2_processBytes_25 : decode cX2_processBytes 25 = .ok (.new 88, 3) := dk_187 0 88 (dk_at dksX2_processBytes_1 3 rfl rfl)
theorem dX2_processBytes_28 : decode cX2_processBytes 28 = .ok (.dup, 1) := dk_89 (dk_at dksX2_processBytes_1 6 rfl rfl)
theorem dX2_processBytes_29 : decode cX2_processBytes 29 = .ok (.ldc 90, 2) := dk_18 90 (dk_at dksX2_processBytes_1 7 rfl rfl)
theorem dX2_processBytes_31 : decode cX2_processBytes 31 = .ok (.invokespecial 92, 3) := dk_183 0 92 (dk_at dksX2_processBytes_1 9 rfl rfl)
theorem dX2_processBytes_34 : decode cX2_processBytes 34 = .ok (.athrow, 1) := dk_191 (dk_at dksX2_processBytes_1 12 rfl rfl)
theorem dX2_processBytes_35 : decode cX2_processBytes 35 = .ok (.iload 5, 2) := dk_21 5 (dk_at dksX2_processBytes_1 13 rfl rfl)
theorem dX2_processBytes_37 : decode cX2_processBytes 37 = .ok (.iload_n 3, 1) := dk_29 (dk_at dksX2_processBytes_1 15 rfl rfl)
theorem dX2_processBytes_38 : decode cX2_processBytes 38 = .ok (.iadd, 1) := dk_96 (dk_at dksX2_processBytes_1 16 rfl rfl)
theorem dX2_processBytes_39 : decode cX2_processBytes 39 = .ok (.aload 4, 2) := dk_25 4 (dk_at dksX2_processBytes_1 17 rfl rfl)
theorem dX2_processBytes_41 : decode cX2_processBytes 41 = .ok (.arraylength, 1) := dk_190 (dk_at dksX2_processBytes_1 19 rfl rfl)
theorem dX2_processBytes_42 : decode cX2_processBytes 42 = .ok (.if_icmp .le 13, 3) := dk_164 0 13 (dk_at dksX2_processBytes_1 20 rfl rfl)
theorem dX2_processBytes_45 : decode cX2_processBytes 45 = .ok (.new 93, 3) := dk_187 0 93 (dk_at dksX2_processBytes_2 0 rfl rfl)
theorem dX2_processBytes_48 : decode cX2_processBytes 48 = .ok (.dup, 1) := dk_89 (dk_at dksX2_processBytes_2 3 rfl rfl)
theorem dX2_processBytes_49 : decode cX2_processBytes 49 = .ok (.ldc 95, 2) := dk_18 95 (dk_at dksX2_processBytes_2 4 rfl rfl)
theorem dX2_processBytes_51 : decode cX2_processBytes 51 = .ok (.invokespecial 97, 3) := dk_183 0 97 (dk_at dksX2_processBytes_2 6 rfl rfl)
theorem dX2_processBytes_54 : decode cX2_processBytes 54 = .ok (.athrow, 1) := dk_191 (dk_at dksX2_processBytes_2 9 rfl rfl)
theorem dX2_processBytes_55 : decode cX2_processBytes 55 = .ok (.aload_n 0, 1) := dk_42 (dk_at dksX2_processBytes_2 10 rfl rfl)
theorem dX2_processBytes_56 : decode cX2_processBytes 56 = .ok (.iload_n 3, 1) := dk_29 (dk_at dksX2_processBytes_2 11 rfl rfl)
theorem dX2_processBytes_57 : decode cX2_processBytes 57 = .ok (.invokevirtual 98, 3) := dk_182 0 98 (dk_at dksX2_processBytes_2 12 rfl rfl)
theorem dX2_processBytes_60 : decode cX2_processBytes 60 = .ok (.ifCond .eq 13, 3) := dk_153 0 13 (dk_at dksX2_processBytes_2 15 rfl rfl)
theorem dX2_processBytes_63 : decode cX2_processBytes 63 = .ok (.new 76, 3) := dk_187 0 76 (dk_at dksX2_processBytes_2 18 rfl rfl)
theorem dX2_processBytes_66 : decode cX2_processBytes 66 = .ok (.dup, 1) := dk_89 (dk_at dksX2_processBytes_2 21 rfl rfl)
theorem dX2_processBytes_67 : decode cX2_processBytes 67 = .ok (.ldc 101, 2) := dk_18 101 (dk_at dksX2_processBytes_2 22 rfl rfl)
theorem dX2_processBytes_69 : decode cX2_processBytes 69 = .ok (.invokespecial 80, 3) := dk_183 0 80 (dk_at dksX2_processBytes_3 0 rfl rfl)
theorem dX2_processBytes_72 : decode cX2_processBytes 72 = .ok (.athrow, 1) := dk_191 (dk_at dksX2_processBytes_3 3 rfl rfl)
theorem dX2_processBytes_73 : decode cX2_processBytes 73 = .ok (.iconst 0, 1) := dk_3 (dk_at dksX2_processBytes_3 4 rfl rfl)
theorem dX2_processBytes_74 : decode cX2_processBytes 74 = .ok (.istore 6, 2) := dk_54 6 (dk_at dksX2_processBytes_3 5 rfl rfl)
theorem dX2_processBytes_76 : decode cX2_processBytes 76 = .ok (.iload 6, 2) := dk_21 6 (dk_at dksX2_processBytes_3 7 rfl rfl)
theorem dX2_processBytes_78 : decode cX2_processBytes 78 = .ok (.iload_n 3, 1) := dk_29 (dk_at dksX2_processBytes_3 9 rfl rfl)
theorem dX2_processBytes_79 : decode cX2_processBytes 79 = .ok (.if_icmp .ge 66, 3) := dk_162 0 66 (dk_at dksX2_processBytes_3 10 rfl rfl)
theorem dX2_processBytes_82 : decode cX2_processBytes 82 = .ok (.aload 4, 2) := dk_25 4 (dk_at dksX2_processBytes_3 13 rfl rfl)
theorem dX2_processBytes_84 : decode cX2_processBytes 84 = .ok (.iload 6, 2) := dk_21 6 (dk_at dksX2_processBytes_3 15 rfl rfl)
theorem dX2_processBytes_86 : decode cX2_processBytes 86 = .ok (.iload 5, 2) := dk_21 5 (dk_at dksX2_processBytes_3 17 rfl rfl)
theorem dX2_processBytes_88 : decode cX2_processBytes 88 = .ok (.iadd, 1) := dk_96 (dk_at dksX2_processBytes_3 19 rfl rfl)
theorem dX2_processBytes_89 : decode cX2_processBytes 89 = .ok (.aload_n 0, 1) := dk_42 (dk_at dksX2_processBytes_3 20 rfl rfl)
theorem dX2_processBytes_90 : decode cX2_processBytes 90 = .ok (.getfield 23, 3) := dk_180 0 23 (dk_at dksX2_processBytes_3 21 rfl rfl)
theorem dX2_processBytes_93 : decode cX2_processBytes 93 = .ok (.aload_n 0, 1) := dk_42 (dk_at dksX2_processBytes_4 0 rfl rfl)
theorem dX2_processBytes_94 : decode cX2_processBytes 94 = .ok (.getfield 12, 3) := dk_180 0 12 (dk_at dksX2_processBytes_4 1 rfl rfl)
theorem dX2_processBytes_97 : decode cX2_processBytes 97 = .ok (.baload, 1) := dk_51 (dk_at dksX2_processBytes_4 4 rfl rfl)
theorem dX2_processBytes_98 : decode cX2_processBytes 98 = .ok (.aload_n 1, 1) := dk_43 (dk_at dksX2_processBytes_4 5 rfl rfl)
theorem dX2_processBytes_99 : decode cX2_processBytes 99 = .ok (.iload 6, 2) := dk_21 6 (dk_at dksX2_processBytes_4 6 rfl rfl)
theorem dX2_processBytes_101 : decode cX2_processBytes 101 = .ok (.iload_n 2, 1) := dk_28 (dk_at dksX2_processBytes_4 8 rfl rfl)
theorem dX2_processBytes_102 : decode cX2_processBytes 102 = .ok (.iadd, 1) := dk_96 (dk_at dksX2_processBytes_4 9 rfl rfl)
theorem dX2_processBytes_103 : decode cX2_processBytes 103 = .ok (.baload, 1) := dk_51 (dk_at dksX2_processBytes_4 10 rfl rfl)
theorem dX2_processBytes_104 : decode cX2_processBytes 104 = .ok (.ixor, 1) := dk_130 (dk_at dksX2_processBytes_4 11 rfl rfl)
theorem dX2_processBytes_105 : decode cX2_processBytes 105 = .ok (.i2b, 1) := dk_145 (dk_at dksX2_processBytes_4 12 rfl rfl)
theorem dX2_processBytes_106 : decode cX2_processBytes 106 = .ok (.bastore, 1) := dk_84 (dk_at dksX2_processBytes_4 13 rfl rfl)
theorem dX2_processBytes_107 : decode cX2_processBytes 107 = .ok (.aload_n 0, 1) := dk_42 (dk_at dksX2_processBytes_4 14 rfl rfl)
theorem dX2_processBytes_108 : decode cX2_processBytes 108 = .ok (.aload_n 0, 1) := dk_42 (dk_at dksX2_processBytes_4 15 rfl rfl)
theorem dX2_processBytes_109 : decode cX2_processBytes 109 = .ok (.getfield 12, 3) := dk_180 0 12 (dk_at dksX2_processBytes_4 16 rfl rfl)
theorem dX2_processBytes_112 : decode cX2_processBytes 112 = .ok (.iconst 1, 1) := dk_4 (dk_at dksX2_processBytes_4 19 rfl rfl)
theorem dX2_processBytes_113 : decode cX2_processBytes 113 = .ok (.iadd, 1) := dk_96 (dk_at dksX2_processBytes_4 20 rfl rfl)
theorem dX2_processBytes_114 : decode cX2_processBytes 114 = .ok (.bipush 63, 2) := dk_16 63 (dk_at dksX2_processBytes_4 21 rfl rfl)
theorem dX2_processBytes_116 : decode cX2_processBytes 116 = .ok (.iand, 1) := dk_126 (dk_at dksX2_processBytes_4 23 rfl rfl)
theorem dX2_processBytes_117 : decode cX2_processBytes 117 = .ok (.putfield 12, 3) := dk_181 0 12 (dk_at dksX2_processBytes_5 0 rfl rfl)
theorem dX2_processBytes_120 : decode cX2_processBytes 120 = .ok (.aload_n 0, 1) := dk_42 (dk_at dksX2_processBytes_5 3 rfl rfl)
theorem dX2_processBytes_121 : decode cX2_processBytes 121 = .ok (.getfield 12, 3) := dk_180 0 12 (dk_at dksX2_processBytes_5 4 rfl rfl)
theorem dX2_processBytes_124 : decode cX2_processBytes 124 = .ok (.ifCond .ne 15, 3) := dk_154 0 15 (dk_at dksX2_processBytes_5 7 rfl rfl)
theorem dX2_processBytes_127 : decode cX2_processBytes 127 = .ok (.aload_n 0, 1) := dk_42 (dk_at dksX2_processBytes_5 10 rfl rfl)
theorem dX2_processBytes_128 : decode cX2_processBytes 128 = .ok (.invokevirtual 81, 3) := dk_182 0 81 (dk_at dksX2_processBytes_5 11 rfl rfl)
theorem dX2_processBytes_131 : decode cX2_processBytes 131 = .ok (.aload_n 0, 1) := dk_42 (dk_at dksX2_processBytes_5 14 rfl rfl)
theorem dX2_processBytes_132 : decode cX2_processBytes 132 = .ok (.aload_n 0, 1) := dk_42 (dk_at dksX2_processBytes_5 15 rfl rfl)
theorem dX2_processBytes_133 : decode cX2_processBytes 133 = .ok (.getfield 23, 3) := dk_180 0 23 (dk_at dksX2_processBytes_5 16 rfl rfl)
theorem dX2_processBytes_136 : decode cX2_processBytes 136 = .ok (.invokevirtual 84, 3) := dk_182 0 84 (dk_at dksX2_processBytes_5 19 rfl rfl)
theorem dX2_processBytes_139 : decode cX2_processBytes 139 = .ok (.iinc 6 1, 3) := dk_132 6 1 (dk_at dksX2_processBytes_6 0 rfl rfl)
theorem dX2_processBytes_142 : decode cX2_processBytes 142 = .ok (.goto (-66), 3) := dk_167 255 190 (dk_at dksX2_processBytes_6 3 rfl rfl)
theorem dX2_processBytes_145 : decode cX2_processBytes 145 = .ok (.iload_n 3, 1) := dk_29 (dk_at dksX2_processBytes_6 6 rfl rfl)
theorem dX2_processBytes_146 : decode cX2_processBytes 146 = .ok (.ireturn, 1) := dk_172 (dk_at dksX2_processBytes_6 7 rfl rfl)
abbrev cX2_limitExceeded : ByteArray := prog_10_method_15_code
def yX2_limitExceeded : MethodName := ⟨RX2, "limitExceeded", "(I)Z"⟩
def dkwX2_limitExceeded_2 : List UInt8 := [90, 181, 0, 141, 16, 32, 126, 153, 0, 7, 4, 167, 0, 4, 3, 172, 3, 172]
abbrev dktX2_limitExceeded_2 : List UInt8 := dkwX2_limitExceeded_2 ++ []
def dkwX2_limitExceeded_1 : List UInt8 := [155, 0, 40, 42, 89, 180, 0, 138, 4, 96, 90, 181, 0, 138, 154, 0, 26, 42, 89, 180, 0, 141, 4, 96]
abbrev dktX2_limitExceeded_1 : List UInt8 := dkwX2_limitExceeded_1 ++ dktX2_limitExceeded_2
def dkwX2_limitExceeded_0 : List UInt8 := [42, 89, 180, 0, 135, 27, 96, 181, 0, 135, 42, 180, 0, 135, 27, 162, 0, 47, 42, 180, 0, 135]
abbrev dktX2_limitExceeded_0 : List UInt8 := dkwX2_limitExceeded_0 ++ dktX2_limitExceeded_1
theorem dksX2_limitExceeded_0 : cX2_limitExceeded.data.toList.drop 0 = dktX2_limitExceeded_0 := by decide +kernel
theorem dksX2_limitExceeded_1 : cX2_limitExceeded.data.toList.drop 22 = dktX2_limitExceeded_1 := dk_seg dksX2_limitExceeded_0 22 rfl rfl
theorem dksX2_limitExceeded_2 : cX2_limitExceeded.data.toList.drop 46 = dktX2_limitExceeded_2 := dk_seg dksX2_limitExceeded_1 24 rfl rfl
theorem dX2_limitExceeded_0 : decode cX2_limitExceeded 0 = .ok (.aload_n 0, 1) := dk_42 (dk_at dksX2_limitExceeded_0 0 rfl rfl)
theorem dX2_limitExceeded_1 : decode cX2_limitExceeded 1 = .ok (.dup, 1) := dk_89 (dk_at dksX2_limitExceeded_0 1 rfl rfl)
theorem dX2_limitExceeded_2 : decode cX2_limitExceeded 2 = .ok (.getfield 135, 3) := dk_180 0 135 (dk_at dksX2_limitExceeded_0 2 rfl rfl)
theorem dX2_limitExceeded_5 : decode cX2_limitExceeded 5 = .ok (.iload_n 1, 1) := dk_27 (dk_at dksX2_limitExceeded_0 5 rfl rfl)
theorem dX2_limitExceeded_6 : decode cX2_limitExceeded 6 = .ok (.iadd, 1) := dk_96 (dk_at dksX2_limitExceeded_0 6 rfl rfl)
theorem dX2_limitExceeded_7 : decode cX2_limitExceeded 7 = .ok (.putfield 135, 3) := dk_181 0 135 (dk_at dksX2_limitExceeded_0 7 rfl rfl)
theorem dX2_limitExceeded_10 : decode cX2_limitExceeded 10 = .ok (.aload_n 0, 1) := dk_42 (dk_at dksX2_limitExceeded_0 10 rfl rfl)
theorem dX2_limitExceeded_11 : decode cX2_limitExceeded 11 = .ok (.getfield 135, 3) := dk_180 0 135 (dk_at dksX2_limitExceeded_0 11 rfl rfl)
theorem dX2_limitExceeded_14 : decode cX2_limitExceeded 14 = .ok (.iload_n 1, 1) := dk_27 (dk_at dksX2_limitExceeded_0 14 rfl rfl)
theorem dX2_limitExceeded_15 : decode cX2_limitExceeded 15 = .ok (.if_icmp .ge 47, 3) := dk_162 0 47 (dk_at dksX2_limitExceeded_0 15 rfl rfl)
theorem dX2_limitExceeded_18 : decode cX2_limitExceeded 18 = .ok (.aload_n 0, 1) := dk_42 (dk_at dksX2_limitExceeded_0 18 rfl rfl)
theorem dX2_limitExceeded_19 : decode cX2_limitExceeded 19 = .ok (.getfield 135, 3) := dk_180 0 135 (dk_at dksX2_limitExceeded_0 19 rfl rfl)
theorem dX2_limitExceeded_22 : decode cX2_limitExceeded 22 = .ok (.ifCond .lt 40, 3) := dk_155 0 40 (dk_at dksX2_limitExceeded_1 0 rfl rfl)
theorem dX2_limitExceeded_25 : decode cX2_limitExceeded 25 = .ok (.aload_n 0, 1) := dk_42 (dk_at dksX2_limitExceeded_1 3 rfl rfl)
theorem dX2_limitExceeded_26 : decode cX2_limitExceeded 26 = .ok (.dup, 1) := dk_89 (dk_at dksX2_limitExceeded_1 4 rfl rfl)
theorem dX2_limitExceeded_27 : decode cX2_limitExceeded 27 = .ok (.getfield 138, 3) := dk_180 0 138 (dk_at dksX2_limitExceeded_1 5 rfl rfl)
theorem dX2_limitExceeded_30 : decode cX2_limitExceeded 30 = .ok (.iconst 1, 1) := dk_4 (dk_at dksX2_limitExceeded_1 8 rfl rfl)
theorem dX2_limitExceeded_31 : decode cX2_limitExceeded 31 = .ok (.iadd, 1) := dk_96 (dk_at dksX2_limitExceeded_1 9 rfl rfl)
theorem dX2_limitExceeded_32 : decode cX2_limitExceeded 32 = .ok (.dup_x1, 1) := dk_90 (dk_at dksX2_limitExceeded_1 10 rfl rfl)
theorem dX2_limitExceeded_33 : decode cX2_limitExceeded 33 = .ok (.putfield 138, 3) := dk_181 0 138 (dk_at dksX2_limitExceeded_1 11 rfl rfl)
theorem dX2_limitExceeded_36 : decode cX2_limitExceeded 36 = .ok (.ifCond .ne 26, 3) := dk_154 0 26 (dk_at dksX2_limitExceeded_1 14 rfl rfl)
theorem dX2_limitExceeded_39 : decode cX2_limitExceeded 39 = .ok (.aload_n 0, 1) := dk_42 (dk_at dksX2_limitExceeded_1 17 rfl rfl)
theorem dX2_limitExceeded_40 : decode cX2_limitExceeded 40 = .ok (.dup, 1) := dk_89 (dk_at dksX2_limitExceeded_1 18 rfl rfl)
theorem dX2_limitExceeded_41 : decode cX2_limitExceeded 41 = .ok (.getfield 141, 3) := dk_180 0 141 (dk_at dksX2_limitExceeded_1 19 rfl rfl)
theorem dX2_limitExceeded_44 : decode cX2_limitExceeded 44 = .ok (.iconst 1, 1) := dk_4 (dk_at dksX2_limitExceeded_1 22 rfl rfl)
theorem dX2_limitExceeded_45 : decode cX2_limitExceeded 45 = .ok (.iadd, 1) := dk_96 (dk_at dksX2_limitExceeded_1 23 rfl rfl)
theorem dX2_limitExceeded_46 : decode cX2_limitExceeded 46 = .ok (.dup_x1, 1) := dk_90 (dk_at dksX2_limitExceeded_2 0 rfl rfl)
theorem dX2_limitExceeded_47 : decode cX2_limitExceeded 47 = .ok (.putfield 141, 3) := dk_181 0 141 (dk_at dksX2_limitExceeded_2 1 rfl rfl)
theorem dX2_limitExceeded_50 : decode cX2_limitExceeded 50 = .ok (.bipush 32, 2) := dk_16 32 (dk_at dksX2_limitExceeded_2 4 rfl rfl)
theorem dX2_limitExceeded_52 : decode cX2_limitExceeded 52 = .ok (.iand, 1) := dk_126 (dk_at dksX2_limitExceeded_2 6 rfl rfl)
theorem dX2_limitExceeded_53 : decode cX2_limitExceeded 53 = .ok (.ifCond .eq 7, 3) := dk_153 0 7 (dk_at dksX2_limitExceeded_2 7 rfl rfl)
theorem dX2_limitExceeded_56 : decode cX2_limitExceeded 56 = .ok (.iconst 1, 1) := dk_4 (dk_at dksX2_limitExceeded_2 10 rfl rfl)
theorem dX2_limitExceeded_57 : decode cX2_limitExceeded 57 = .ok (.goto 4, 3) := dk_167 0 4 (dk_at dksX2_limitExceeded_2 11 rfl rfl)
theorem dX2_limitExceeded_60 : decode cX2_limitExceeded 60 = .ok (.iconst 0, 1) := dk_3 (dk_at dksX2_limitExceeded_2 14 rfl rfl)
theorem dX2_limitExceeded_61 : decode cX2_limitExceeded 61 = .ok (.ireturn, 1) := dk_172 (dk_at dksX2_limitExceeded_2 15 rfl rfl)
theorem dX2_limitExceeded_62 : decode cX2_limitExceeded 62 = .ok (.iconst 0, 1) := dk_3 (dk_at dksX2_limitExceeded_2 16 rfl rfl)
theorem dX2_limitExceeded_63 : decode cX2_limitExceeded 63 = .ok (.ireturn, 1) := dk_172 (dk_at dksX2_limitExceeded_2 17 rfl rfl)
abbrev cX2_advanceCounter : ByteArray := prog_10_method_6_code
def yX2_advanceCounter : MethodName := ⟨RX2, "advanceCounter", "()V"⟩
def dkwX2_advanceCounter_1 : List UInt8 := [96, 79, 177]
abbrev dktX2_advanceCounter_1 : List UInt8 := dkwX2_advanceCounter_1 ++ []
def dkwX2_advanceCounter_0 : List UInt8 := [42, 180, 0, 16, 16, 8, 92, 46, 4, 96, 91, 79, 154, 0, 14, 42, 180, 0, 16, 16, 9, 92, 46, 4]
abbrev dktX2_advanceCounter_0 : List UInt8 := dkwX2_advanceCounter_0 ++ dktX2_advanceCounter_1
theorem dksX2_advanceCounter_0 : cX2_advanceCounter.data.toList.drop 0 = dktX2_advanceCounter_0 := by decide +kernel
theorem dksX2_advanceCounter_1 : cX2_advanceCounter.data.toList.drop 24 = dktX2_advanceCounter_1 := dk_seg dksX2_advanceCounter_0 24 rfl rfl
theorem dX2_advanceCounter_0 : decode cX2_advanceCounter 0 = .ok (.aload_n 0, 1) := dk_42 (dk_at dksX2_advanceCounter_0 0 rfl rfl)
theorem dX2_advanceCounter_1 : decode cX2_advanceCounter 1 = .ok (.getfield 16, 3) := dk_180 0 16 (dk_at dksX2_advanceCounter_0 1 rfl rfl)
theorem dX2_advanceCounter_4 : decode cX2_advanceCounter 4 = .ok (.bipush 8, 2) := dk_16 8 (dk_at dksX2_advanceCounter_0 4 rfl rfl)
theorem dX2_advanceCounter_6 : decode cX2_advanceCounter 6 = .ok (.dup2, 1) := dk_92 (dk_at dksX2_advanceCounter_0 6 rfl rfl)
theorem dX2_advanceCounter_7 : decode cX2_advanceCounter 7 = .ok (.iaload, 1) := dk_46 (dk_at dksX2_advanceCounter_0 7 rfl rfl)
theorem dX2_advanceCounter_8 : decode cX2_advanceCounter 8 = .ok (.iconst 1, 1) := dk_4 (dk_at dksX2_advanceCounter_0 8 rfl rfl)
theorem dX2_advanceCounter_9 : decode cX2_advanceCounter 9 = .ok (.iadd, 1) := dk_96 (dk_at dksX2_advanceCounter_0 9 rfl rfl)
theorem dX2_advanceCounter_10 : decode cX2_advanceCounter 10 = .ok (.dup_x2, 1) := dk_91 (dk_at dksX2_advanceCounter_0 10 rfl rfl)
theorem dX2_advanceCounter_11 : decode cX2_advanceCounter 11 = .ok (.iastore, 1) := dk_79 (dk_at dksX2_advanceCounter_0 11 rfl rfl)
theorem dX2_advanceCounter_12 : decode cX2_advanceCounter 12 = .ok (.ifCond .ne 14, 3) := dk_154 0 14 (dk_at dksX2_advanceCounter_0 12 rfl rfl)
theorem dX2_advanceCounter_15 : decode cX2_advanceCounter 15 = .ok (.aload_n 0, 1) := dk_42 (dk_at dksX2_advanceCounter_0 15 rfl rfl)
theorem dX2_advanceCounter_16 : decode cX2_advanceCounter 16 = .ok (.getfield 16, 3) := dk_180 0 16 (dk_at dksX2_advanceCounter_0 16 rfl rfl)
theorem dX2_advanceCounter_19 : decode cX2_advanceCounter 19 = .ok (.bipush 9, 2) := dk_16 9 (dk_at dksX2_advanceCounter_0 19 rfl rfl)
theorem dX2_advanceCounter_21 : decode cX2_advanceCounter 21 = .ok (.dup2, 1) := dk_92 (dk_at dksX2_advanceCounter_0 21 rfl rfl)
theorem dX2_advanceCounter_22 : decode cX2_advanceCounter 22 = .ok (.iaload, 1) := dk_46 (dk_at dksX2_advanceCounter_0 22 rfl rfl)
theorem dX2_advanceCounter_23 : decode cX2_advanceCounter 23 = .ok (.iconst 1, 1) := dk_4 (dk_at dksX2_advanceCounter_0 23 rfl rfl)
theorem dX2_advanceCounter_24 : decode cX2_advanceCounter 24 = .ok (.iadd, 1) := dk_96 (dk_at dksX2_advanceCounter_1 0 rfl rfl)
theorem dX2_advanceCounter_25 : decode cX2_advanceCounter 25 = .ok (.iastore, 1) := dk_79 (dk_at dksX2_advanceCounter_1 1 rfl rfl)
theorem dX2_advanceCounter_26 : decode cX2_advanceCounter 26 = .ok (.return_, 1) := dk_177 (dk_at dksX2_advanceCounter_1 2 rfl rfl)
abbrev cX2_generateKeyStream : ByteArray := prog_10_method_11_code
def yX2_generateKeyStream : MethodName := ⟨RX2, "generateKeyStream", "([B)V"⟩
def dkwX2_generateKeyStream_1 : List UInt8 := [177]
abbrev dktX2_generateKeyStream_1 : List UInt8 := dkwX2_generateKeyStream_1 ++ []
def dkwX2_generateKeyStream_0 : List UInt8 := [42, 180, 0, 38, 42, 180, 0, 16, 42, 180, 0, 20, 184, 0, 118, 42, 180, 0, 20, 43, 3, 184, 0, 122]
abbrev dktX2_generateKeyStream_0 : List UInt8 := dkwX2_generateKeyStream_0 ++ dktX2_generateKeyStream_1
theorem dksX2_generateKeyStream_0 : cX2_generateKeyStream.data.toList.drop 0 = dktX2_generateKeyStream_0 := by decide +kernel
theorem dksX2_generateKeyStream_1 : cX2_generateKeyStream.data.toList.drop 24 = dktX2_generateKeyStream_1 := dk_seg dksX2_generateKeyStream_0 24 rfl rfl
theorem dX2_generateKeyStream_0 : decode cX2_generateKeyStream 0 = .ok (.aload_n 0, 1) := dk_42 (dk_at dksX2_generateKeyStream_0 0 rfl rfl)
theorem dX2_generateKeyStream_1 : decode cX2_generateKeyStream 1 = .ok (.getfield 38, 3) := dk_180 0 38 (dk_at dksX2_generateKeyStream_0 1 rfl rfl)
theorem dX2_generateKeyStream_4 : decode cX2_generateKeyStream 4 = .ok (.aload_n 0, 1) := dk_42 (dk_at dksX2_generateKeyStream_0 4 rfl rfl)
theorem dX2_generateKeyStream_5 : decode cX2_generateKeyStream 5 = .ok (.getfield 16, 3) := dk_180 0 16 (dk_at dksX2_generateKeyStream_0 5 rfl rfl)
theorem dX2_generateKeyStream_8 : decode cX2_generateKeyStream 8 = .ok (.aload_n 0, 1) := dk_42 (dk_at dksX2_generateKeyStream_0 8 rfl rfl)
theorem dX2_generateKeyStream_9 : decode cX2_generateKeyStream 9 = .ok (.getfield 20, 3) := dk_180 0 20 (dk_at dksX2_generateKeyStream_0 9 rfl rfl)
theorem dX2_generateKeyStream_12 : decode cX2_generateKeyStream 12 = .ok (.invokestatic 118, 3) := dk_184 0 118 (dk_at dksX2_generateKeyStream_0 12 rfl rfl)
theorem dX2_generateKeyStream_15 : decode cX2_generateKeyStream 15 = .ok (.aload_n 0, 1) := dk_42 (dk_at dksX2_generateKeyStream_0 15 rfl rfl)
theorem dX2_generateKeyStream_16 : decode cX2_generateKeyStream 16 = .ok (.getfield 20, 3) := dk_180 0 20 (dk_at dksX2_generateKeyStream_0 16 rfl rfl)
theorem dX2_generateKeyStream_19 : decode cX2_generateKeyStream 19 = .ok (.aload_n 1, 1) := dk_43 (dk_at dksX2_generateKeyStream_0 19 rfl rfl)
theorem dX2_generateKeyStream_20 : decode cX2_generateKeyStream 20 = .ok (.iconst 0, 1) := dk_3 (dk_at dksX2_generateKeyStream_0 20 rfl rfl)
theorem dX2_generateKeyStream_21 : decode cX2_generateKeyStream 21 = .ok (.invokestatic 122, 3) := dk_184 0 122 (dk_at dksX2_generateKeyStream_0 21 rfl rfl)
theorem dX2_generateKeyStream_24 : decode cX2_generateKeyStream 24 = .ok (.return_, 1) := dk_177 (dk_at dksX2_generateKeyStream_1 0 rfl rfl)
abbrev cX2_salsaCore : ByteArray := prog_10_method_12_code
def yX2_salsaCore : MethodName := ⟨RX2, "salsaCore", "(I[I[I)V"⟩
def dkwX2_salsaCore_33 : List UInt8 := [16, 14, 46, 96, 79, 44, 16, 15, 21, 18, 43, 16, 15, 46, 96, 79, 177]
abbrev dktX2_salsaCore_33 : List UInt8 := dkwX2_salsaCore_33 ++ []
def dkwX2_salsaCore_32 : List UInt8 := [43, 16, 12, 46, 96, 79, 44, 16, 13, 21, 16, 43, 16, 13, 46, 96, 79, 44, 16, 14, 21, 17, 43]
abbrev dktX2_salsaCore_32 : List UInt8 := dkwX2_salsaCore_32 ++ dktX2_salsaCore_33
def dkwX2_salsaCore_31 : List UInt8 := [21, 13, 43, 16, 10, 46, 96, 79, 44, 16, 11, 21, 14, 43, 16, 11, 46, 96, 79, 44, 16, 12, 21, 15]
abbrev dktX2_salsaCore_31 : List UInt8 := dkwX2_salsaCore_31 ++ dktX2_salsaCore_32
def dkwX2_salsaCore_30 : List UInt8 := [16, 8, 21, 11, 43, 16, 8, 46, 96, 79, 44, 16, 9, 21, 12, 43, 16, 9, 46, 96, 79, 44, 16, 10]
abbrev dktX2_salsaCore_30 : List UInt8 := dkwX2_salsaCore_30 ++ dktX2_salsaCore_31
def dkwX2_salsaCore_29 : List UInt8 := [79, 44, 16, 6, 21, 9, 43, 16, 6, 46, 96, 79, 44, 16, 7, 21, 10, 43, 16, 7, 46, 96, 79, 44]
abbrev dktX2_salsaCore_29 : List UInt8 := dkwX2_salsaCore_29 ++ dktX2_salsaCore_30
def dkwX2_salsaCore_28 : List UInt8 := [21, 6, 43, 6, 46, 96, 79, 44, 7, 21, 7, 43, 7, 46, 96, 79, 44, 8, 21, 8, 43, 8, 46, 96]
abbrev dktX2_salsaCore_28 : List UInt8 := dkwX2_salsaCore_28 ++ dktX2_salsaCore_29
def dkwX2_salsaCore_27 : List UInt8 := [46, 96, 79, 44, 4, 21, 4, 43, 4, 46, 96, 79, 44, 5, 21, 5, 43, 5, 46, 96, 79, 44, 6]
abbrev dktX2_salsaCore_27 : List UInt8 := dkwX2_salsaCore_27 ++ dktX2_salsaCore_28
def dkwX2_salsaCore_26 : List UInt8 := [21, 17, 21, 16, 96, 16, 18, 184, 0, 129, 130, 54, 18, 132, 19, 254, 167, 254, 32, 44, 3, 29, 43, 3]
abbrev dktX2_salsaCore_26 : List UInt8 := dkwX2_salsaCore_26 ++ dktX2_salsaCore_27
def dkwX2_salsaCore_25 : List UInt8 := [184, 0, 129, 130, 54, 16, 21, 17, 21, 16, 21, 15, 96, 16, 13, 184, 0, 129, 130, 54, 17, 21, 18]
abbrev dktX2_salsaCore_25 : List UInt8 := dkwX2_salsaCore_25 ++ dktX2_salsaCore_26
def dkwX2_salsaCore_24 : List UInt8 := [21, 18, 21, 17, 96, 16, 7, 184, 0, 129, 130, 54, 15, 21, 16, 21, 15, 21, 18, 96, 16, 9]
abbrev dktX2_salsaCore_24 : List UInt8 := dkwX2_salsaCore_24 ++ dktX2_salsaCore_25
def dkwX2_salsaCore_23 : List UInt8 := [184, 0, 129, 130, 54, 12, 21, 13, 21, 12, 21, 11, 96, 16, 18, 184, 0, 129, 130, 54, 13, 21, 15]
abbrev dktX2_salsaCore_23 : List UInt8 := dkwX2_salsaCore_23 ++ dktX2_salsaCore_24
def dkwX2_salsaCore_22 : List UInt8 := [21, 14, 21, 13, 96, 16, 9, 184, 0, 129, 130, 54, 11, 21, 12, 21, 11, 21, 14, 96, 16, 13]
abbrev dktX2_salsaCore_22 : List UInt8 := dkwX2_salsaCore_22 ++ dktX2_salsaCore_23
def dkwX2_salsaCore_21 : List UInt8 := [184, 0, 129, 130, 54, 8, 21, 14, 21, 13, 21, 12, 96, 16, 7, 184, 0, 129, 130, 54, 14, 21, 11]
abbrev dktX2_salsaCore_21 : List UInt8 := dkwX2_salsaCore_21 ++ dktX2_salsaCore_22
def dkwX2_salsaCore_20 : List UInt8 := [21, 10, 21, 9, 96, 16, 13, 184, 0, 129, 130, 54, 7, 21, 8, 21, 7, 21, 10, 96, 16, 18]
abbrev dktX2_salsaCore_20 : List UInt8 := dkwX2_salsaCore_20 ++ dktX2_salsaCore_21
def dkwX2_salsaCore_19 : List UInt8 := [184, 0, 129, 130, 54, 9, 21, 10, 21, 9, 21, 8, 96, 16, 9, 184, 0, 129, 130, 54, 10, 21, 7]
abbrev dktX2_salsaCore_19 : List UInt8 := dkwX2_salsaCore_19 ++ dktX2_salsaCore_20
def dkwX2_salsaCore_18 : List UInt8 := [54, 6, 29, 21, 6, 21, 5, 96, 16, 18, 184, 0, 129, 130, 62, 21, 9, 21, 8, 21, 7, 96, 16, 7]
abbrev dktX2_salsaCore_18 : List UInt8 := dkwX2_salsaCore_18 ++ dktX2_salsaCore_19
def dkwX2_salsaCore_17 : List UInt8 := [29, 96, 16, 9, 184, 0, 129, 130, 54, 5, 21, 6, 21, 5, 21, 4, 96, 16, 13, 184, 0, 129, 130]
abbrev dktX2_salsaCore_17 : List UInt8 := dkwX2_salsaCore_17 ++ dktX2_salsaCore_18
def dkwX2_salsaCore_16 : List UInt8 := [184, 0, 129, 130, 54, 18, 21, 4, 29, 21, 6, 96, 16, 7, 184, 0, 129, 130, 54, 4, 21, 5, 21, 4]
abbrev dktX2_salsaCore_16 : List UInt8 := dkwX2_salsaCore_16 ++ dktX2_salsaCore_17
def dkwX2_salsaCore_15 : List UInt8 := [21, 10, 21, 6, 96, 16, 13, 184, 0, 129, 130, 54, 14, 21, 18, 21, 14, 21, 10, 96, 16, 18]
abbrev dktX2_salsaCore_15 : List UInt8 := dkwX2_salsaCore_15 ++ dktX2_salsaCore_16
def dkwX2_salsaCore_14 : List UInt8 := [184, 0, 129, 130, 54, 6, 21, 10, 21, 6, 21, 18, 96, 16, 9, 184, 0, 129, 130, 54, 10, 21, 14]
abbrev dktX2_salsaCore_14 : List UInt8 := dkwX2_salsaCore_14 ++ dktX2_salsaCore_15
def dkwX2_salsaCore_13 : List UInt8 := [21, 9, 21, 5, 96, 16, 18, 184, 0, 129, 130, 54, 13, 21, 6, 21, 18, 21, 14, 96, 16, 7]
abbrev dktX2_salsaCore_13 : List UInt8 := dkwX2_salsaCore_13 ++ dktX2_salsaCore_14
def dkwX2_salsaCore_12 : List UInt8 := [184, 0, 129, 130, 54, 5, 21, 9, 21, 5, 21, 17, 96, 16, 13, 184, 0, 129, 130, 54, 9, 21, 13]
abbrev dktX2_salsaCore_12 : List UInt8 := dkwX2_salsaCore_12 ++ dktX2_salsaCore_13
def dkwX2_salsaCore_11 : List UInt8 := [21, 17, 21, 13, 21, 9, 96, 16, 7, 184, 0, 129, 130, 54, 17, 21, 5, 21, 17, 21, 13, 96, 16, 9]
abbrev dktX2_salsaCore_11 : List UInt8 := dkwX2_salsaCore_11 ++ dktX2_salsaCore_12
def dkwX2_salsaCore_10 : List UInt8 := [96, 16, 13, 184, 0, 129, 130, 54, 4, 21, 8, 21, 4, 21, 16, 96, 16, 18, 184, 0, 129, 130, 54, 8]
abbrev dktX2_salsaCore_10 : List UInt8 := dkwX2_salsaCore_10 ++ dktX2_salsaCore_11
def dkwX2_salsaCore_9 : List UInt8 := [130, 54, 12, 21, 16, 21, 12, 21, 8, 96, 16, 9, 184, 0, 129, 130, 54, 16, 21, 4, 21, 16, 21, 12]
abbrev dktX2_salsaCore_9 : List UInt8 := dkwX2_salsaCore_9 ++ dktX2_salsaCore_10
def dkwX2_salsaCore_8 : List UInt8 := [21, 15, 21, 11, 96, 16, 18, 184, 0, 129, 130, 62, 21, 12, 21, 8, 21, 4, 96, 16, 7, 184, 0, 129]
abbrev dktX2_salsaCore_8 : List UInt8 := dkwX2_salsaCore_8 ++ dktX2_salsaCore_9
def dkwX2_salsaCore_7 : List UInt8 := [16, 9, 184, 0, 129, 130, 54, 11, 21, 15, 21, 11, 21, 7, 96, 16, 13, 184, 0, 129, 130, 54, 15, 29]
abbrev dktX2_salsaCore_7 : List UInt8 := dkwX2_salsaCore_7 ++ dktX2_salsaCore_8
def dkwX2_salsaCore_6 : List UInt8 := [158, 1, 225, 21, 7, 29, 21, 15, 96, 16, 7, 184, 0, 129, 130, 54, 7, 21, 11, 21, 7, 29, 96]
abbrev dktX2_salsaCore_6 : List UInt8 := dkwX2_salsaCore_6 ++ dktX2_salsaCore_7
def dkwX2_salsaCore_5 : List UInt8 := [16, 13, 46, 54, 16, 43, 16, 14, 46, 54, 17, 43, 16, 15, 46, 54, 18, 26, 54, 19, 21, 19]
abbrev dktX2_salsaCore_5 : List UInt8 := dkwX2_salsaCore_5 ++ dktX2_salsaCore_6
def dkwX2_salsaCore_4 : List UInt8 := [16, 9, 46, 54, 12, 43, 16, 10, 46, 54, 13, 43, 16, 11, 46, 54, 14, 43, 16, 12, 46, 54, 15, 43]
abbrev dktX2_salsaCore_4 : List UInt8 := dkwX2_salsaCore_4 ++ dktX2_salsaCore_5
def dkwX2_salsaCore_3 : List UInt8 := [43, 8, 46, 54, 8, 43, 16, 6, 46, 54, 9, 43, 16, 7, 46, 54, 10, 43, 16, 8, 46, 54, 11, 43]
abbrev dktX2_salsaCore_3 : List UInt8 := dkwX2_salsaCore_3 ++ dktX2_salsaCore_4
def dkwX2_salsaCore_2 : List UInt8 := [43, 3, 46, 62, 43, 4, 46, 54, 4, 43, 5, 46, 54, 5, 43, 6, 46, 54, 6, 43, 7, 46, 54, 7]
abbrev dktX2_salsaCore_2 : List UInt8 := dkwX2_salsaCore_2 ++ dktX2_salsaCore_3
def dkwX2_salsaCore_1 : List UInt8 := [187, 0, 31, 89, 183, 0, 126, 191, 26, 5, 112, 153, 0, 13, 187, 0, 31, 89, 18, 127, 183, 0, 35, 191]
abbrev dktX2_salsaCore_1 : List UInt8 := dkwX2_salsaCore_1 ++ dktX2_salsaCore_2
def dkwX2_salsaCore_0 : List UInt8 := [43, 190, 16, 16, 159, 0, 11, 187, 0, 31, 89, 183, 0, 126, 191, 44, 190, 16, 16, 159, 0, 11]
abbrev dktX2_salsaCore_0 : List UInt8 := dkwX2_salsaCore_0 ++ dktX2_salsaCore_1
theorem dksX2_salsaCore_0 : cX2_salsaCore.data.toList.drop 0 = dktX2_salsaCore_0 := by decide +kernel
theorem dksX2_salsaCore_1 : cX2_salsaCore.data.toList.drop 22 = dktX2_salsaCore_1 := dk_seg dksX2_salsaCore_0 22 rfl rfl
theorem dksX2_salsaCore_2 : cX2_salsaCore.data.toList.drop 46 = dktX2_salsaCore_2 := dk_seg dksX2_salsaCore_1 24 rfl rfl
theorem dksX2_salsaCore_3 : cX2_salsaCore.data.toList.drop 70 = dktX2_salsaCore_3 := dk_seg dksX2_salsaCore_2 24 rfl rfl
theorem dksX2_salsaCore_4 : cX2_salsaCore.data.toList.drop 94 = dktX2_salsaCore_4 := dk_seg dksX2_salsaCore_3 24 rfl rfl
theorem dksX2_salsaCore_5 : cX2_salsaCore.data.toList.drop 118 = dktX2_salsaCore_5 := dk_seg dksX2_salsaCore_4 24 rfl rfl
theorem dksX2_salsaCore_6 : cX2_salsaCore.data.toList.drop 140 = dktX2_salsaCore_6 := dk_seg dksX2_salsaCore_5 22 rfl rfl
theorem dksX2_salsaCore_7 : cX2_salsaCore.data.toList.drop 163 = dktX2_salsaCore_7 := dk_seg dksX2_salsaCore_6 23 rfl rfl
theorem dksX2_salsaCore_8 : cX2_salsaCore.data.toList.drop 187 = dktX2_salsaCore_8 := dk_seg dksX2_salsaCore_7 24 rfl rfl
theorem dksX2_salsaCore_9 : cX2_salsaCore.data.toList.drop 211 = dktX2_salsaCore_9 := dk_seg dksX2_salsaCore_8 24 rfl rfl
theorem dksX2_salsaCore_10 : cX2_salsaCore.data.toList.drop 235 = dktX2_salsaCore_10 := dk_seg dksX2_salsaCore_9 24 rfl rfl
theorem dksX2_salsaCore_11 : cX2_salsaCore.data.toList.drop 259 = dktX2_salsaCore_11 := dk_seg dksX2_salsaCore_10 24 rfl rfl
theorem dksX2_salsaCore_12 : cX2_salsaCore.data.toList.drop 283 = dktX2_salsaCore_12 := dk_seg dksX2_salsaCore_11 24 rfl rfl
theorem dksX2_salsaCore_13 : cX2_salsaCore.data.toList.drop 306 = dktX2_salsaCore_13 := dk_seg dksX2_salsaCore_12 23 rfl rfl
theorem dksX2_salsaCore_14 : cX2_salsaCore.data.toList.drop 328 = dktX2_salsaCore_14 := dk_seg dksX2_salsaCore_13 22 rfl rfl
theorem dksX2_salsaCore_15 : cX2_salsaCore.data.toList.drop 351 = dktX2_salsaCore_15 := dk_seg dksX2_salsaCore_14 23 rfl rfl
theorem dksX2_salsaCore_16 : cX2_salsaCore.data.toList.drop 373 = dktX2_salsaCore_16 := dk_seg dksX2_salsaCore_15 22 rfl rfl
theorem dksX2_salsaCore_17 : cX2_salsaCore.data.toList.drop 397 = dktX2_salsaCore_17 := dk_seg dksX2_salsaCore_16 24 rfl rfl
theorem dksX2_salsaCore_18 : cX2_salsaCore.data.toList.drop 420 = dktX2_salsaCore_18 := dk_seg dksX2_salsaCore_17 23 rfl rfl
theorem dksX2_salsaCore_19 : cX2_salsaCore.data.toList.drop 444 = dktX2_salsaCore_19 := dk_seg dksX2_salsaCore_18 24 rfl rfl
theorem dksX2_salsaCore_20 : cX2_salsaCore.data.toList.drop 467 = dktX2_salsaCore_20 := dk_seg dksX2_salsaCore_19 23 rfl rfl
theorem dksX2_salsaCore_21 : cX2_salsaCore.data.toList.drop 489 = dktX2_salsaCore_21 := dk_seg dksX2_salsaCore_20 22 rfl rfl
theorem dksX2_salsaCore_22 : cX2_salsaCore.data.toList.drop 512 = dktX2_salsaCore_22 := dk_seg dksX2_salsaCore_21 23 rfl rfl
theorem dksX2_salsaCore_23 : cX2_salsaCore.data.toList.drop 534 = dktX2_salsaCore_23 := dk_seg dksX2_salsaCore_22 22 rfl rfl
theorem dksX2_salsaCore_24 : cX2_salsaCore.data.toList.drop 557 = dktX2_salsaCore_24 := dk_seg dksX2_salsaCore_23 23 rfl rfl
theorem dksX2_salsaCore_25 : cX2_salsaCore.data.toList.drop 579 = dktX2_salsaCore_25 := dk_seg dksX2_salsaCore_24 22 rfl rfl
theorem dksX2_salsaCore_26 : cX2_salsaCore.data.toList.drop 602 = dktX2_salsaCore_26 := dk_seg dksX2_salsaCore_25 23 rfl rfl
theorem dksX2_salsaCore_27 : cX2_salsaCore.data.toList.drop 626 = dktX2_salsaCore_27 := dk_seg dksX2_salsaCore_26 24 rfl rfl
theorem dksX2_salsaCore_28 : cX2_salsaCore.data.toList.drop 649 = dktX2_salsaCore_28 := dk_seg dksX2_salsaCore_27 23 rfl rfl
theorem dksX2_salsaCore_29 : cX2_salsaCore.data.toList.drop 673 = dktX2_salsaCore_29 := dk_seg dksX2_salsaCore_28 24 rfl rfl
theorem dksX2_salsaCore_30 : cX2_salsaCore.data.toList.drop 697 = dktX2_salsaCore_30 := dk_seg dksX2_salsaCore_29 24 rfl rfl
theorem dksX2_salsaCore_31 : cX2_salsaCore.data.toList.drop 721 = dktX2_salsaCore_31 := dk_seg dksX2_salsaCore_30 24 rfl rfl
theorem dksX2_salsaCore_32 : cX2_salsaCore.data.toList.drop 745 = dktX2_salsaCore_32 := dk_seg dksX2_salsaCore_31 24 rfl rfl
theorem dksX2_salsaCore_33 : cX2_salsaCore.data.toList.drop 768 = dktX2_salsaCore_33 := dk_seg dksX2_salsaCore_32 23 rfl rfl
theorem dX2_salsaCore_0 : decode cX2_salsaCore 0 = .ok (.aload_n 1, 1) := dk_43 (dk_at dksX2_salsaCore_0 0 rfl rfl)
theorem dX2_salsaCore_1 : decode cX2_salsaCore 1 = .ok (.arraylength, 1) := dk_190 (dk_at dksX2_salsaCore_0 1 rfl rfl)
theorem dX2_salsaCore_2 : decode cX2_salsaCore 2 = .ok (.bipush 16, 2) := dk_16 16 (dk_at dksX2_salsaCore_0 2 rfl rfl)
theorem dX2_salsaCore_4 : decode cX2_salsaCore 4 = .ok (.if_icmp .eq 11, 3) := dk_159 0 11 (dk_at dksX2_salsaCore_0 4 rfl rfl)
theorem dX2_salsaCore_7 : decode cX2_salsaCore 7 = .ok (.new 31, 3) := dk_187 0 31 (dk_at dksX2_salsaCore_0 7 rfl rfl)
theorem dX2_salsaCore_10 : decode cX2_salsaCore 10 = .ok (.dup, 1) := dk_89 (dk_at dksX2_salsaCore_0 10 rfl rfl)
theorem dX2_salsaCore_11 : decode cX2_salsaCore 11 = .ok (.invokespecial 126, 3) := dk_183 0 126 (dk_at dksX2_salsaCore_0 11 rfl rfl)
theorem dX2_salsaCore_14 : decode cX2_salsaCore 14 = .ok (.athrow, 1) := dk_191 (dk_at dksX2_salsaCore_0 14 rfl rfl)
theorem dX2_salsaCore_15 : decode cX2_salsaCore 15 = .ok (.aload_n 2, 1) := dk_44 (dk_at dksX2_salsaCore_0 15 rfl rfl)
theorem dX2_salsaCore_16 : decode cX2_salsaCore 16 = .ok (.arraylength, 1) := dk_190 (dk_at dksX2_salsaCore_0 16 rfl rfl)
theorem dX2_salsaCore_17 : decode cX2_salsaCore 17 = .ok (.bipush 16, 2) := dk_16 16 (dk_at dksX2_salsaCore_0 17 rfl rfl)
theorem dX2_salsaCore_19 : decode cX2_salsaCore 19 = .ok (.if_icmp .eq 11, 3) := dk_159 0 11 (dk_at dksX2_salsaCore_0 19 rfl rfl)
theorem dX2_salsaCore_22 : decode cX2_salsaCore 22 = .ok (.new 31, 3) := dk_187 0 31 (dk_at dksX2_salsaCore_1 0 rfl rfl)
theorem dX2_salsaCore_25 : decode cX2_salsaCore 25 = .ok (.dup, 1) := dk_89 (dk_at dksX2_salsaCore_1 3 rfl rfl)
theorem dX2_salsaCore_26 : decode cX2_salsaCore 26 = .ok (.invokespecial 126, 3) := dk_183 0 126 (dk_at dksX2_salsaCore_1 4 rfl rfl)
theorem dX2_salsaCore_29 : decode cX2_salsaCore 29 = .ok (.athrow, 1) := dk_191 (dk_at dksX2_salsaCore_1 7 rfl rfl)
theorem dX2_salsaCore_30 : decode cX2_salsaCore 30 = .ok (.iload_n 0, 1) := dk_26 (dk_at dksX2_salsaCore_1 8 rfl rfl)
theorem dX2_salsaCore_31 : decode cX2_salsaCore 31 = .ok (.iconst 2, 1) := dk_5 (dk_at dksX2_salsaCore_1 9 rfl rfl)
theorem dX2_salsaCore_32 : decode cX2_salsaCore 32 = .ok (.irem, 1) := dk_112 (dk_at dksX2_salsaCore_1 10 rfl rfl)
theorem dX2_salsaCore_33 : decode cX2_salsaCore 33 = .ok (.ifCond .eq 13, 3) := dk_153 0 13 (dk_at dksX2_salsaCore_1 11 rfl rfl)
theorem dX2_salsaCore_36 : decode cX2_salsaCore 36 = .ok (.new 31, 3) := dk_187 0 31 (dk_at dksX2_salsaCore_1 14 rfl rfl)
theorem dX2_salsaCore_39 : decode cX2_salsaCore 39 = .ok (.dup, 1) := dk_89 (dk_at dksX2_salsaCore_1 17 rfl rfl)
theorem dX2_salsaCore_40 : decode cX2_salsaCore 40 = .ok (.ldc 127, 2) := dk_18 127 (dk_at dksX2_salsaCore_1 18 rfl rfl)
theorem dX2_salsaCore_42 : decode cX2_salsaCore 42 = .ok (.invokespecial 35, 3) := dk_183 0 35 (dk_at dksX2_salsaCore_1 20 rfl rfl)
theorem dX2_salsaCore_45 : decode cX2_salsaCore 45 = .ok (.athrow, 1) := dk_191 (dk_at dksX2_salsaCore_1 23 rfl rfl)
theorem dX2_salsaCore_46 : decode cX2_salsaCore 46 = .ok (.aload_n 1, 1) := dk_43 (dk_at dksX2_salsaCore_2 0 rfl rfl)
theorem dX2_salsaCore_47 : decode cX2_salsaCore 47 = .ok (.iconst 0, 1) := dk_3 (dk_at dksX2_salsaCore_2 1 rfl rfl)
theorem dX2_salsaCore_48 : decode cX2_salsaCore 48 = .ok (.iaload, 1) := dk_46 (dk_at dksX2_salsaCore_2 2 rfl rfl)
theorem dX2_salsaCore_49 : decode cX2_salsaCore 49 = .ok (.istore_n 3, 1) := dk_62 (dk_at dksX2_salsaCore_2 3 rfl rfl)
theorem dX2_salsaCore_50 : decode cX2_salsaCore 50 = .ok (.aload_n 1, 1) := dk_43 (dk_at dksX2_salsaCore_2 4 rfl rfl)
theorem dX2_salsaCore_51 : decode cX2_salsaCore 51 = .ok (.iconst 1, 1) := dk_4 (dk_at dksX2_salsaCore_2 5 rfl rfl)
theorem dX2_salsaCore_52 : decode cX2_salsaCore 52 = .ok (.iaload, 1) := dk_46 (dk_at dksX2_salsaCore_2 6 rfl rfl)
theorem dX2_salsaCore_53 : decode cX2_salsaCore 53 = .ok (.istore 4, 2) := dk_54 4 (dk_at dksX2_salsaCore_2 7 rfl rfl)
theorem dX2_salsaCore_55 : decode cX2_salsaCore 55 = .ok (.aload_n 1, 1) := dk_43 (dk_at dksX2_salsaCore_2 9 rfl rfl)
theorem dX2_salsaCore_56 : decode cX2_salsaCore 56 = .ok (.iconst 2, 1) := dk_5 (dk_at dksX2_salsaCore_2 10 rfl rfl)
theorem dX2_salsaCore_57 : decode cX2_salsaCore 57 = .ok (.iaload, 1) := dk_46 (dk_at dksX2_salsaCore_2 11 rfl rfl)
theorem dX2_salsaCore_58 : decode cX2_salsaCore 58 = .ok (.istore 5, 2) := dk_54 5 (dk_at dksX2_salsaCore_2 12 rfl rfl)
theorem dX2_salsaCore_60 : decode cX2_salsaCore 60 = .ok (.aload_n 1, 1) := dk_43 (dk_at dksX2_salsaCore_2 14 rfl rfl)
theorem dX2_salsaCore_61 : decode cX2_salsaCore 61 = .ok (.iconst 3, 1) := dk_6 (dk_at dksX2_salsaCore_2 15 rfl rfl)
theorem dX2_salsaCore_62 : decode cX2_salsaCore 62 = .ok (.iaload, 1) := dk_46 (dk_at dksX2_salsaCore_2 16 rfl rfl)
theorem dX2_salsaCore_63 : decode cX2_salsaCore 63 = .ok (.istore 6, 2) := dk_54 6 (dk_at dksX2_salsaCore_2 17 rfl rfl)
theorem dX2_salsaCore_65 : decode cX2_salsaCore 65 = .ok (.aload_n 1, 1) := dk_43 (dk_at dksX2_salsaCore_2 19 rfl rfl)
theorem dX2_salsaCore_66 : decode cX2_salsaCore 66 = .ok (.iconst 4, 1) := dk_7 (dk_at dksX2_salsaCore_2 20 rfl rfl)
theorem dX2_salsaCore_67 : decode cX2_salsaCore 67 = .ok (.iaload, 1) := dk_46 (dk_at dksX2_salsaCore_2 21 rfl rfl)
theorem dX2_salsaCore_68 : decode cX2_salsaCore 68 = .ok (.istore 7, 2) := dk_54 7 (dk_at dksX2_salsaCore_2 22 rfl rfl)
theorem dX2_salsaCore_70 : decode cX2_salsaCore 70 = .ok (.aload_n 1, 1) := dk_43 (dk_at dksX2_salsaCore_3 0 rfl rfl)
theorem dX2_salsaCore_71 : decode cX2_salsaCore 71 = .ok (.iconst 5, 1) := dk_8 (dk_at dksX2_salsaCore_3 1 rfl rfl)
theorem dX2_salsaCore_72 : decode cX2_salsaCore 72 = .ok (.iaload, 1) := dk_46 (dk_at dksX2_salsaCore_3 2 rfl rfl)
theorem dX2_salsaCore_73 : decode cX2_salsaCore 73 = .ok (.istore 8, 2) := dk_54 8 (dk_at dksX2_salsaCore_3 3 rfl rfl)
theorem dX2_salsaCore_75 : decode cX2_salsaCore 75 = .ok (.aload_n 1, 1) := dk_43 (dk_at dksX2_salsaCore_3 5 rfl rfl)
theorem dX2_salsaCore_76 : decode cX2_salsaCore 76 = .ok (.bipush 6, 2) := dk_16 6 (dk_at dksX2_salsaCore_3 6 rfl rfl)
theorem dX2_salsaCore_78 : decode cX2_salsaCore 78 = .ok (.iaload, 1) := dk_46 (dk_at dksX2_salsaCore_3 8 rfl rfl)
theorem dX2_salsaCore_79 : decode cX2_salsaCore 79 = .ok (.istore 9, 2) := dk_54 9 (dk_at dksX2_salsaCore_3 9 rfl rfl)
theorem dX2_salsaCore_81 : decode cX2_salsaCore 81 = .ok (.aload_n 1, 1) := dk_43 (dk_at dksX2_salsaCore_3 11 rfl rfl)
theorem dX2_salsaCore_82 : decode cX2_salsaCore 82 = .ok (.bipush 7, 2) := dk_16 7 (dk_at dksX2_salsaCore_3 12 rfl rfl)
theorem dX2_salsaCore_84 : decode cX2_salsaCore 84 = .ok (.iaload, 1) := dk_46 (dk_at dksX2_salsaCore_3 14 rfl rfl)
theorem dX2_salsaCore_85 : decode cX2_salsaCore 85 = .ok (.istore 10, 2) := dk_54 10 (dk_at dksX2_salsaCore_3 15 rfl rfl)
theorem dX2_salsaCore_87 : decode cX2_salsaCore 87 = .ok (.aload_n 1, 1) := dk_43 (dk_at dksX2_salsaCore_3 17 rfl rfl)
theorem dX2_salsaCore_88 : decode cX2_salsaCore 88 = .ok (.bipush 8, 2) := dk_16 8 (dk_at dksX2_salsaCore_3 18 rfl rfl)
theorem dX2_salsaCore_90 : decode cX2_salsaCore 90 = .ok (.iaload, 1) := dk_46 (dk_at dksX2_salsaCore_3 20 rfl rfl)
theorem dX2_salsaCore_91 : decode cX2_salsaCore 91 = .ok (.istore 11, 2) := dk_54 11 (dk_at dksX2_salsaCore_3 21 rfl rfl)
theorem dX2_salsaCore_93 : decode cX2_salsaCore 93 = .ok (.aload_n 1, 1) := dk_43 (dk_at dksX2_salsaCore_3 23 rfl rfl)
theorem dX2_salsaCore_94 : decode cX2_salsaCore 94 = .ok (.bipush 9, 2) := dk_16 9 (dk_at dksX2_salsaCore_4 0 rfl rfl)
theorem dX2_salsaCore_96 : decode cX2_salsaCore 96 = .ok (.iaload, 1) := dk_46 (dk_at dksX2_salsaCore_4 2 rfl rfl)
theorem dX2_salsaCore_97 : decode cX2_salsaCore 97 = .ok (.istore 12, 2) := dk_54 12 (dk_at dksX2_salsaCore_4 3 rfl rfl)
theorem dX2_salsaCore_99 : decode cX2_salsaCore 99 = .ok (.aload_n 1, 1) := dk_43 (dk_at dksX2_salsaCore_4 5 rfl rfl)
theorem dX2_salsaCore_100 : decode cX2_salsaCore 100 = .ok (.bipush 10, 2) := dk_16 10 (dk_at dksX2_salsaCore_4 6 rfl rfl)
theorem dX2_salsaCore_102 : decode cX2_salsaCore 102 = .ok (.iaload, 1) := dk_46 (dk_at dksX2_salsaCore_4 8 rfl rfl)
theorem dX2_salsaCore_103 : decode cX2_salsaCore 103 = .ok (.istore 13, 2) := dk_54 13 (dk_at dksX2_salsaCore_4 9 rfl rfl)
theorem dX2_salsaCore_105 : decode cX2_salsaCore 105 = .ok (.aload_n 1, 1) := dk_43 (dk_at dksX2_salsaCore_4 11 rfl rfl)
theorem dX2_salsaCore_106 : decode cX2_salsaCore 106 = .ok (.bipush 11, 2) := dk_16 11 (dk_at dksX2_salsaCore_4 12 rfl rfl)
theorem dX2_salsaCore_108 : decode cX2_salsaCore 108 = .ok (.iaload, 1) := dk_46 (dk_at dksX2_salsaCore_4 14 rfl rfl)
theorem dX2_salsaCore_109 : decode cX2_salsaCore 109 = .ok (.istore 14, 2) := dk_54 14 (dk_at dksX2_salsaCore_4 15 rfl rfl)
theorem dX2_salsaCore_111 : decode cX2_salsaCore 111 = .ok (.aload_n 1, 1) := dk_43 (dk_at dksX2_salsaCore_4 17 rfl rfl)
theorem dX2_salsaCore_112 : decode cX2_salsaCore 112 = .ok (.bipush 12, 2) := dk_16 12 (dk_at dksX2_salsaCore_4 18 rfl rfl)
theorem dX2_salsaCore_114 : decode cX2_salsaCore 114 = .ok (.iaload, 1) := dk_46 (dk_at dksX2_salsaCore_4 20 rfl rfl)
theorem dX2_salsaCore_115 : decode cX2_salsaCore 115 = .ok (.istore 15, 2) := dk_54 15 (dk_at dksX2_salsaCore_4 21 rfl rfl)
theorem dX2_salsaCore_117 : decode cX2_salsaCore 117 = .ok (.aload_n 1, 1) := dk_43 (dk_at dksX2_salsaCore_4 23 rfl rfl)
theorem dX2_salsaCore_118 : decode cX2_salsaCore 118 = .ok (.bipush 13, 2) := dk_16 13 (dk_at dksX2_salsaCore_5 0 rfl rfl)
theorem dX2_salsaCore_120 : decode cX2_salsaCore 120 = .ok (.iaload, 1) := dk_46 (dk_at dksX2_salsaCore_5 2 rfl rfl)
theorem dX2_salsaCore_121 : decode cX2_salsaCore 121 = .ok (.istore 16, 2) := dk_54 16 (dk_at dksX2_salsaCore_5 3 rfl rfl)
theorem dX2_salsaCore_123 : decode cX2_salsaCore 123 = .ok (.aload_n 1, 1) := dk_43 (dk_at dksX2_salsaCore_5 5 rfl rfl)
theorem dX2_salsaCore_124 : decode cX2_salsaCore 124 = .ok (.bipush 14, 2) := dk_16 14 (dk_at dksX2_salsaCore_5 6 rfl rfl)
theorem dX2_salsaCore_126 : decode cX2_salsaCore 126 = .ok (.iaload, 1) := dk_46 (dk_at dksX2_salsaCore_5 8 rfl rfl)
theorem dX2_salsaCore_127 : decode cX2_salsaCore 127 = .ok (.istore 17, 2) := dk_54 17 (dk_at dksX2_salsaCore_5 9 rfl rfl)
theorem dX2_salsaCore_129 : decode cX2_salsaCore 129 = .ok (.aload_n 1, 1) := dk_43 (dk_at dksX2_salsaCore_5 11 rfl rfl)
theorem dX2_salsaCore_130 : decode cX2_salsaCore 130 = .ok (.bipush 15, 2) := dk_16 15 (dk_at dksX2_salsaCore_5 12 rfl rfl)
theorem dX2_salsaCore_132 : decode cX2_salsaCore 132 = .ok (.iaload, 1) := dk_46 (dk_at dksX2_salsaCore_5 14 rfl rfl)
theorem dX2_salsaCore_133 : decode cX2_salsaCore 133 = .ok (.istore 18, 2) := dk_54 18 (dk_at dksX2_salsaCore_5 15 rfl rfl)
theorem dX2_salsaCore_135 : decode cX2_salsaCore 135 = .ok (.iload_n 0, 1) := dk_26 (dk_at dksX2_salsaCore_5 17 rfl rfl)
theorem dX2_salsaCore_136 : decode cX2_salsaCore 136 = .ok (.istore 19, 2) := dk_54 19 (dk_at dksX2_salsaCore_5 18 rfl rfl)
theorem dX2_salsaCore_138 : decode cX2_salsaCore 138 = .ok (.iload 19, 2) := dk_21 19 (dk_at dksX2_salsaCore_5 20 rfl rfl)
theorem dX2_salsaCore_140 : decode cX2_salsaCore 140 = .ok (.ifCond .le 481, 3) := dk_158 1 225 (dk_at dksX2_salsaCore_6 0 rfl rfl)
theorem dX2_salsaCore_143 : decode cX2_salsaCore 143 = .ok (.iload 7, 2) := dk_21 7 (dk_at dksX2_salsaCore_6 3 rfl rfl)
theorem dX2_salsaCore_145 : decode cX2_salsaCore 145 = .ok (.iload_n 3, 1) := dk_29 (dk_at dksX2_salsaCore_6 5 rfl rfl)
theorem dX2_salsaCore_146 : decode cX2_salsaCore 146 = .ok (.iload 15, 2) := dk_21 15 (dk_at dksX2_salsaCore_6 6 rfl rfl)
theorem dX2_salsaCore_148 : decode cX2_salsaCore 148 = .ok (.iadd, 1) := dk_96 (dk_at dksX2_salsaCore_6 8 rfl rfl)
theorem dX2_salsaCore_149 : decode cX2_salsaCore 149 = .ok (.bipush 7, 2) := dk_16 7 (dk_at dksX2_salsaCore_6 9 rfl rfl)
theorem dX2_salsaCore_151 : decode cX2_salsaCore 151 = .ok (.invokestatic 129, 3) := dk_184 0 129 (dk_at dksX2_salsaCore_6 11 rfl rfl)
theorem dX2_salsaCore_154 : decode cX2_salsaCore 154 = .ok (.ixor, 1) := dk_130 (dk_at dksX2_salsaCore_6 14 rfl rfl)
theorem dX2_salsaCore_155 : decode cX2_salsaCore 155 = .ok (.istore 7, 2) := dk_54 7 (dk_at dksX2_salsaCore_6 15 rfl rfl)
theorem dX2_salsaCore_157 : decode cX2_salsaCore 157 = .ok (.iload 11, 2) := dk_21 11 (dk_at dksX2_salsaCore_6 17 rfl rfl)
theorem dX2_salsaCore_159 : decode cX2_salsaCore 159 = .ok (.iload 7, 2) := dk_21 7 (dk_at dksX2_salsaCore_6 19 rfl rfl)
theorem dX2_salsaCore_161 : decode cX2_salsaCore 161 = .ok (.iload_n 3, 1) := dk_29 (dk_at dksX2_salsaCore_6 21 rfl rfl)
theorem dX2_salsaCore_162 : decode cX2_salsaCore 162 = .ok (.iadd, 1) := dk_96 (dk_at dksX2_salsaCore_6 22 rfl rfl)
theorem dX2_salsaCore_163 : decode cX2_salsaCore 163 = .ok (.bipush 9, 2) := dk_16 9 (dk_at dksX2_salsaCore_7 0 rfl rfl)
theorem dX2_salsaCore_165 : decode cX2_salsaCore 165 = .ok (.invokestatic 129, 3) := dk_184 0 129 (dk_at dksX2_salsaCore_7 2 rfl rfl)
theorem dX2_salsaCore_168 : decode cX2_salsaCore 168 = .ok (.ixor, 1) := dk_130 (dk_at dksX2_salsaCore_7 5 rfl rfl)
theorem dX2_salsaCore_169 : decode cX2_salsaCore 169 = .ok (.istore 11, 2) := dk_54 11 (dk_at dksX2_salsaCore_7 6 rfl rfl)
theorem dX2_salsaCore_171 : decode cX2_salsaCore 171 = .ok (.iload 15, 2) := dk_21 15 (dk_at dksX2_salsaCore_7 8 rfl rfl)
theorem dX2_salsaCore_173 : decode cX2_salsaCore 173 = .ok (.iload 11, 2) := dk_21 11 (dk_at dksX2_salsaCore_7 10 rfl rfl)
theorem dX2_salsaCore_175 : decode cX2_salsaCore 175 = .ok (.iload 7, 2) := dk_21 7 (dk_at dksX2_salsaCore_7 12 rfl rfl)
theorem dX2_salsaCore_177 : decode cX2_salsaCore 177 = .ok (.iadd, 1) := dk_96 (dk_at dksX2_salsaCore_7 14 rfl rfl)
theorem dX2_salsaCore_178 : decode cX2_salsaCore 178 = .ok (.bipush 13, 2) := dk_16 13 (dk_at dksX2_salsaCore_7 15 rfl rfl)
theorem dX2_salsaCore_180 : decode cX2_salsaCore 180 = .ok (.invokestatic 129, 3) := dk_184 0 129 (dk_at dksX2_salsaCore_7 17 rfl rfl)
theorem dX2_salsaCore_183 : decode cX2_salsaCore 183 = .ok (.ixor, 1) := dk_130 (dk_at dksX2_salsaCore_7 20 rfl rfl)
theorem dX2_salsaCore_184 : decode cX2_salsaCore 184 = .ok (.istore 15, 2) := dk_54 15 (dk_at dksX2_salsaCore_7 21 rfl rfl)
theorem dX2_salsaCore_186 : decode cX2_salsaCore 186 = .ok (.iload_n 3, 1) := dk_29 (dk_at dksX2_salsaCore_7 23 rfl rfl)
theorem dX2_salsaCore_187 : decode cX2_salsaCore 187 = .ok (.iload 15, 2) := dk_21 15 (dk_at dksX2_salsaCore_8 0 rfl rfl)
theorem dX2_salsaCore_189 : decode cX2_salsaCore 189 = .ok (.iload 11, 2) := dk_21 11 (dk_at dksX2_salsaCore_8 2 rfl rfl)
theorem dX2_salsaCore_191 : decode cX2_salsaCore 191 = .ok (.iadd, 1) := dk_96 (dk_at dksX2_salsaCore_8 4 rfl rfl)
theorem dX2_salsaCore_192 : decode cX2_salsaCore 192 = .ok (.bipush 18, 2) := dk_16 18 (dk_at dksX2_salsaCore_8 5 rfl rfl)
theorem dX2_salsaCore_194 : decode cX2_salsaCore 194 = .ok (.invokestatic 129, 3) := dk_184 0 129 (dk_at dksX2_salsaCore_8 7 rfl rfl)
theorem dX2_salsaCore_197 : decode cX2_salsaCore 197 = .ok (.ixor, 1) := dk_130 (dk_at dksX2_salsaCore_8 10 rfl rfl)
theorem dX2_salsaCore_198 : decode cX2_salsaCore 198 = .ok (.istore_n 3, 1) := dk_62 (dk_at dksX2_salsaCore_8 11 rfl rfl)
theorem dX2_salsaCore_199 : decode cX2_salsaCore 199 = .ok (.iload 12, 2) := dk_21 12 (dk_at dksX2_salsaCore_8 12 rfl rfl)
theorem dX2_salsaCore_201 : decode cX2_salsaCore 201 = .ok (.iload 8, 2) := dk_21 8 (dk_at dksX2_salsaCore_8 14 rfl rfl)
theorem dX2_salsaCore_203 : decode cX2_salsaCore 203 = .ok (.iload 4, 2) := dk_21 4 (dk_at dksX2_salsaCore_8 16 rfl rfl)
theorem dX2_salsaCore_205 : decode cX2_salsaCore 205 = .ok (.iadd, 1) := dk_96 (dk_at dksX2_salsaCore_8 18 rfl rfl)
theorem dX2_salsaCore_206 : decode cX2_salsaCore 206 = .ok (.bipush 7, 2) := dk_16 7 (dk_at dksX2_salsaCore_8 19 rfl rfl)
theorem dX2_salsaCore_208 : decode cX2_salsaCore 208 = .ok (.invokestatic 129, 3) := dk_184 0 129 (dk_at dksX2_salsaCore_8 21 rfl rfl)
theorem dX2_salsaCore_211 : decode cX2_salsaCore 211 = .ok (.ixor, 1) := dk_130 (dk_at dksX2_salsaCore_9 0 rfl rfl)
theorem dX2_salsaCore_212 : decode cX2_salsaCore 212 = .ok (.istore 12, 2) := dk_54 12 (dk_at dksX2_salsaCore_9 1 rfl rfl)
theorem dX2_salsaCore_214 : decode cX2_salsaCore 214 = .ok (.iload 16, 2) := dk_21 16 (dk_at dksX2_salsaCore_9 3 rfl rfl)
theorem dX2_salsaCore_216 : decode cX2_salsaCore 216 = .ok (.iload 12, 2) := dk_21 12 (dk_at dksX2_salsaCore_9 5 rfl rfl)
theorem dX2_salsaCore_218 : decode cX2_salsaCore 218 = .ok (.iload 8, 2) := dk_21 8 (dk_at dksX2_salsaCore_9 7 rfl rfl)
theorem dX2_salsaCore_220 : decode cX2_salsaCore 220 = .ok (.iadd, 1) := dk_96 (dk_at dksX2_salsaCore_9 9 rfl rfl)
theorem dX2_salsaCore_221 : decode cX2_salsaCore 221 = .ok (.bipush 9, 2) := dk_16 9 (dk_at dksX2_salsaCore_9 10 rfl rfl)
theorem dX2_salsaCore_223 : decode cX2_salsaCore 223 = .ok (.invokestatic 129, 3) := dk_184 0 129 (dk_at dksX2_salsaCore_9 12 rfl rfl)
theorem dX2_salsaCore_226 : decode cX2_salsaCore 226 = .ok (.ixor, 1) := dk_130 (dk_at dksX2_salsaCore_9 15 rfl rfl)
theorem dX2_salsaCore_227 : decode cX2_salsaCore 227 = .ok (.istore 16, 2) := dk_54 16 (dk_at dksX2_salsaCore_9 16 rfl rfl)
theorem dX2_salsaCore_229 : decode cX2_salsaCore 229 = .ok (.iload 4, 2) := dk_21 4 (dk_at dksX2_salsaCore_9 18 rfl rfl)
theorem dX2_salsaCore_231 : decode cX2_salsaCore 231 = .ok (.iload 16, 2) := dk_21 16 (dk_at dksX2_salsaCore_9 20 rfl rfl)
theorem dX2_salsaCore_233 : decode cX2_salsaCore 233 = .ok (.iload 12, 2) := dk_21 12 (dk_at dksX2_salsaCore_9 22 rfl rfl)
theorem dX2_salsaCore_235 : decode cX2_salsaCore 235 = .ok (.iadd, 1) := dk_96 (dk_at dksX2_salsaCore_10 0 rfl rfl)
theorem dX2_salsaCore_236 : decode cX2_salsaCore 236 = .ok (.bipush 13, 2) := dk_16 13 (dk_at dksX2_salsaCore_10 1 rfl rfl)
theorem dX2_salsaCore_238 : decode cX2_salsaCore 238 = .ok (.invokestatic 129, 3) := dk_184 0 129 (dk_at dksX2_salsaCore_10 3 rfl rfl)
theorem dX2_salsaCore_241 : decode cX2_salsaCore 241 = .ok (.ixor, 1) := dk_130 (dk_at dksX2_salsaCore_10 6 rfl rfl)
theorem dX2_salsaCore_242 : decode cX2_salsaCore 242 = .ok (.istore 4, 2) := dk_54 4 (dk_at dksX2_salsaCore_10 7 rfl rfl)
theorem dX2_salsaCore_244 : decode cX2_salsaCore 244 = .ok (.iload 8, 2) := dk_21 8 (dk_at dksX2_salsaCore_10 9 rfl rfl)
theorem dX2_salsaCore_246 : decode cX2_salsaCore 246 = .ok (.iload 4, 2) := dk_21 4 (dk_at dksX2_salsaCore_10 11 rfl rfl)
theorem dX2_salsaCore_248 : decode cX2_salsaCore 248 = .ok (.iload 16, 2) := dk_21 16 (dk_at dksX2_salsaCore_10 13 rfl rfl)
theorem dX2_salsaCore_250 : decode cX2_salsaCore 250 = .ok (.iadd, 1) := dk_96 (dk_at dksX2_salsaCore_10 15 rfl rfl)
theorem dX2_salsaCore_251 : decode cX2_salsaCore 251 = .ok (.bipush 18, 2) := dk_16 18 (dk_at dksX2_salsaCore_10 16 rfl rfl)
theorem dX2_salsaCore_253 : decode cX2_salsaCore 253 = .ok (.invokestatic 129, 3) := dk_184 0 129 (dk_at dksX2_salsaCore_10 18 rfl rfl)
theorem dX2_salsaCore_256 : decode cX2_salsaCore 256 = .ok (.ixor, 1) := dk_130 (dk_at dksX2_salsaCore_10 21 rfl rfl)
theorem dX2_salsaCore_257 : decode cX2_salsaCore 257 = .ok (.istore 8, 2) := dk_54 8 (dk_at dksX2_salsaCore_10 22 rfl rfl)
theorem dX2_salsaCore_259 : decode cX2_salsaCore 259 = .ok (.iload 17, 2) := dk_21 17 (dk_at dksX2_salsaCore_11 0 rfl rfl)
theorem dX2_salsaCore_261 : decode cX2_salsaCore 261 = .ok (.iload 13, 2) := dk_21 13 (dk_at dksX2_salsaCore_11 2 rfl rfl)
theorem dX2_salsaCore_263 : decode cX2_salsaCore 263 = .ok (.iload 9, 2) := dk_21 9 (dk_at dksX2_salsaCore_11 4 rfl rfl)
theorem dX2_salsaCore_265 : decode cX2_salsaCore 265 = .ok (.iadd, 1) := dk_96 (dk_at dksX2_salsaCore_11 6 rfl rfl)
theorem dX2_salsaCore_266 : decode cX2_salsaCore 266 = .ok (.bipush 7, 2) := dk_16 7 (dk_at dksX2_salsaCore_11 7 rfl rfl)
theorem dX2_salsaCore_268 : decode cX2_salsaCore 268 = .ok (.invokestatic 129, 3) := dk_184 0 129 (dk_at dksX2_salsaCore_11 9 rfl rfl)
theorem dX2_salsaCore_271 : decode cX2_salsaCore 271 = .ok (.ixor, 1) := dk_130 (dk_at dksX2_salsaCore_11 12 rfl rfl)
theorem dX2_salsaCore_272 : decode cX2_salsaCore 272 = .ok (.istore 17, 2) := dk_54 17 (dk_at dksX2_salsaCore_11 13 rfl rfl)
theorem dX2_salsaCore_274 : decode cX2_salsaCore 274 = .ok (.iload 5, 2) := dk_21 5 (dk_at dksX2_salsaCore_11 15 rfl rfl)
theorem dX2_salsaCore_276 : decode cX2_salsaCore 276 = .ok (.iload 17, 2) := dk_21 17 (dk_at dksX2_salsaCore_11 17 rfl rfl)
theorem dX2_salsaCore_278 : decode cX2_salsaCore 278 = .ok (.iload 13, 2) := dk_21 13 (dk_at dksX2_salsaCore_11 19 rfl rfl)
theorem dX2_salsaCore_280 : decode cX2_salsaCore 280 = .ok (.iadd, 1) := dk_96 (dk_at dksX2_salsaCore_11 21 rfl rfl)
theorem dX2_salsaCore_281 : decode cX2_salsaCore 281 = .ok (.bipush 9, 2) := dk_16 9 (dk_at dksX2_salsaCore_11 22 rfl rfl)
theorem dX2_salsaCore_283 : decode cX2_salsaCore 283 = .ok (.invokestatic 129, 3) := dk_184 0 129 (dk_at dksX2_salsaCore_12 0 rfl rfl)
theorem dX2_salsaCore_286 : decode cX2_salsaCore 286 = .ok (.ixor, 1) := dk_130 (dk_at dksX2_salsaCore_12 3 rfl rfl)
theorem dX2_salsaCore_287 : decode cX2_salsaCore 287 = .ok (.istore 5, 2) := dk_54 5 (dk_at dksX2_salsaCore_12 4 rfl rfl)
theorem dX2_salsaCore_289 : decode cX2_salsaCore 289 = .ok (.iload 9, 2) := dk_21 9 (dk_at dksX2_salsaCore_12 6 rfl rfl)
theorem dX2_salsaCore_291 : decode cX2_salsaCore 291 = .ok (.iload 5, 2) := dk_21 5 (dk_at dksX2_salsaCore_12 8 rfl rfl)
theorem dX2_salsaCore_293 : decode cX2_salsaCore 293 = .ok (.iload 17, 2) := dk_21 17 (dk_at dksX2_salsaCore_12 10 rfl rfl)
theorem dX2_salsaCore_295 : decode cX2_salsaCore 295 = .ok (.iadd, 1) := dk_96 (dk_at dksX2_salsaCore_12 12 rfl rfl)
theorem dX2_salsaCore_296 : decode cX2_salsaCore 296 = .ok (.bipush 13, 2) := dk_16 13 (dk_at dksX2_salsaCore_12 13 rfl rfl)
theorem dX2_salsaCore_298 : decode cX2_salsaCore 298 = .ok (.invokestatic 129, 3) := dk_184 0 129 (dk_at dksX2_salsaCore_12 15 rfl rfl)
theorem dX2_salsaCore_301 : decode cX2_salsaCore 301 = .ok (.ixor, 1) := dk_130 (dk_at dksX2_salsaCore_12 18 rfl rfl)
theorem dX2_salsaCore_302 : decode cX2_salsaCore 302 = .ok (.istore 9, 2) := dk_54 9 (dk_at dksX2_salsaCore_12 19 rfl rfl)
theorem dX2_salsaCore_304 : decode cX2_salsaCore 304 = .ok (.iload 13, 2) := dk_21 13 (dk_at dksX2_salsaCore_12 21 rfl rfl)
theorem dX2_salsaCore_306 : decode cX2_salsaCore 306 = .ok (.iload 9, 2) := dk_21 9 (dk_at dksX2_salsaCore_13 0 rfl rfl)
theorem dX2_salsaCore_308 : decode cX2_salsaCore 308 = .ok (.iload 5, 2) := dk_21 5 (dk_at dksX2_salsaCore_13 2 rfl rfl)
theorem dX2_salsaCore_310 : decode cX2_salsaCore 310 = .ok (.iadd, 1) := dk_96 (dk_at dksX2_salsaCore_13 4 rfl rfl)
theorem dX2_salsaCore_311 : decode cX2_salsaCore 311 = .ok (.bipush 18, 2) := dk_16 18 (dk_at dksX2_salsaCore_13 5 rfl rfl)
theorem dX2_salsaCore_313 : decode cX2_salsaCore 313 = .ok (.invokestatic 129, 3) := dk_184 0 129 (dk_at dksX2_salsaCore_13 7 rfl rfl)
theorem dX2_salsaCore_316 : decode cX2_salsaCore 316 = .ok (.ixor, 1) := dk_130 (dk_at dksX2_salsaCore_13 10 rfl rfl)
theorem dX2_salsaCore_317 : decode cX2_salsaCore 317 = .ok (.istore 13, 2) := dk_54 13 (dk_at dksX2_salsaCore_13 11 rfl rfl)
theorem dX2_salsaCore_319 : decode cX2_salsaCore 319 = .ok (.iload 6, 2) := dk_21 6 (dk_at dksX2_salsaCore_13 13 rfl rfl)
theorem dX2_salsaCore_321 : decode cX2_salsaCore 321 = .ok (.iload 18, 2) := dk_21 18 (dk_at dksX2_salsaCore_13 15 rfl rfl)
theorem dX2_salsaCore_323 : decode cX2_salsaCore 323 = .ok (.iload 14, 2) := dk_21 14 (dk_at dksX2_salsaCore_13 17 rfl rfl)
theorem dX2_salsaCore_325 : decode cX2_salsaCore 325 = .ok (.iadd, 1) := dk_96 (dk_at dksX2_salsaCore_13 19 rfl rfl)
theorem dX2_salsaCore_326 : decode cX2_salsaCore 326 = .ok (.bipush 7, 2) := dk_16 7 (dk_at dksX2_salsaCore_13 20 rfl rfl)
theorem dX2_salsaCore_328 : decode cX2_salsaCore 328 = .ok (.invokestatic 129, 3) := dk_184 0 129 (dk_at dksX2_salsaCore_14 0 rfl rfl)
theorem dX2_salsaCore_331 : decode cX2_salsaCore 331 = .ok (.ixor, 1) := dk_130 (dk_at dksX2_salsaCore_14 3 rfl rfl)
theorem dX2_salsaCore_332 : decode cX2_salsaCore 332 = .ok (.istore 6, 2) := dk_54 6 (dk_at dksX2_salsaCore_14 4 rfl rfl)
theorem dX2_salsaCore_334 : decode cX2_salsaCore 334 = .ok (.iload 10, 2) := dk_21 10 (dk_at dksX2_salsaCore_14 6 rfl rfl)
theorem dX2_salsaCore_336 : decode cX2_salsaCore 336 = .ok (.iload 6, 2) := dk_21 6 (dk_at dksX2_salsaCore_14 8 rfl rfl)
theorem dX2_salsaCore_338 : decode cX2_salsaCore 338 = .ok (.iload 18, 2) := dk_21 18 (dk_at dksX2_salsaCore_14 10 rfl rfl)
theorem dX2_salsaCore_340 : decode cX2_salsaCore 340 = .ok (.iadd, 1) := dk_96 (dk_at dksX2_salsaCore_14 12 rfl rfl)
theorem dX2_salsaCore_341 : decode cX2_salsaCore 341 = .ok (.bipush 9, 2) := dk_16 9 (dk_at dksX2_salsaCore_14 13 rfl rfl)
theorem dX2_salsaCore_343 : decode cX2_salsaCore 343 = .ok (.invokestatic 129, 3) := dk_184 0 129 (dk_at dksX2_salsaCore_14 15 rfl rfl)
theorem dX2_salsaCore_346 : decode cX2_salsaCore 346 = .ok (.ixor, 1) := dk_130 (dk_at dksX2_salsaCore_14 18 rfl rfl)
theorem dX2_salsaCore_347 : decode cX2_salsaCore 347 = .ok (.istore 10, 2) := dk_54 10 (dk_at dksX2_salsaCore_14 19 rfl rfl)
theorem dX2_salsaCore_349 : decode cX2_salsaCore 349 = .ok (.iload 14, 2) := dk_21 14 (dk_at dksX2_salsaCore_14 21 rfl rfl)
theorem dX2_salsaCore_351 : decode cX2_salsaCore 351 = .ok (.iload 10, 2) := dk_21 10 (dk_at dksX2_salsaCore_15 0 rfl rfl)
theorem dX2_salsaCore_353 : decode cX2_salsaCore 353 = .ok (.iload 6, 2) := dk_21 6 (dk_at dksX2_salsaCore_15 2 rfl rfl)
theorem dX2_salsaCore_355 : decode cX2_salsaCore 355 = .ok (.iadd, 1) := dk_96 (dk_at dksX2_salsaCore_15 4 rfl rfl)
theorem dX2_salsaCore_356 : decode cX2_salsaCore 356 = .ok (.bipush 13, 2) := dk_16 13 (dk_at dksX2_salsaCore_15 5 rfl rfl)
theorem dX2_salsaCore_358 : decode cX2_salsaCore 358 = .ok (.invokestatic 129, 3) := dk_184 0 129 (dk_at dksX2_salsaCore_15 7 rfl rfl)
theorem dX2_salsaCore_361 : decode cX2_salsaCore 361 = .ok (.ixor, 1) := dk_130 (dk_at dksX2_salsaCore_15 10 rfl rfl)
theorem dX2_salsaCore_362 : decode cX2_salsaCore 362 = .ok (.istore 14, 2) := dk_54 14 (dk_at dksX2_salsaCore_15 11 rfl rfl)
theorem dX2_salsaCore_364 : decode cX2_salsaCore 364 = .ok (.iload 18, 2) := dk_21 18 (dk_at dksX2_salsaCore_15 13 rfl rfl)
theorem dX2_salsaCore_366 : decode cX2_salsaCore 366 = .ok (.iload 14, 2) := dk_21 14 (dk_at dksX2_salsaCore_15 15 rfl rfl)
theorem dX2_salsaCore_368 : decode cX2_salsaCore 368 = .ok (.iload 10, 2) := dk_21 10 (dk_at dksX2_salsaCore_15 17 rfl rfl)
theorem dX2_salsaCore_370 : decode cX2_salsaCore 370 = .ok (.iadd, 1) := dk_96 (dk_at dksX2_salsaCore_15 19 rfl rfl)
theorem dX2_salsaCore_371 : decode cX2_salsaCore 371 = .ok (.bipush 18, 2) := dk_16 18 (dk_at dksX2_salsaCore_15 20 rfl rfl)
theorem dX2_salsaCore_373 : decode cX2_salsaCore 373 = .ok (.invokestatic 129, 3) := dk_184 0 129 (dk_at dksX2_salsaCore_16 0 rfl rfl)
theorem dX2_salsaCore_376 : decode cX2_salsaCore 376 = .ok (.ixor, 1) := dk_130 (dk_at dksX2_salsaCore_16 3 rfl rfl)
theorem dX2_salsaCore_377 : decode cX2_salsaCore 377 = .ok (.istore 18, 2) := dk_54 18 (dk_at dksX2_salsaCore_16 4 rfl rfl)
theorem dX2_salsaCore_379 : decode cX2_salsaCore 379 = .ok (.iload 4, 2) := dk_21 4 (dk_at dksX2_salsaCore_16 6 rfl rfl)
theorem dX2_salsaCore_381 : decode cX2_salsaCore 381 = .ok (.iload_n 3, 1) := dk_29 (dk_at dksX2_salsaCore_16 8 rfl rfl)
theorem dX2_salsaCore_382 : decode cX2_salsaCore 382 = .ok (.iload 6, 2) := dk_21 6 (dk_at dksX2_salsaCore_16 9 rfl rfl)
theorem dX2_salsaCore_384 : decode cX2_salsaCore 384 = .ok (.iadd, 1) := dk_96 (dk_at dksX2_salsaCore_16 11 rfl rfl)
theorem dX2_salsaCore_385 : decode cX2_salsaCore 385 = .ok (.bipush 7, 2) := dk_16 7 (dk_at dksX2_salsaCore_16 12 rfl rfl)
theorem dX2_salsaCore_387 : decode cX2_salsaCore 387 = .ok (.invokestatic 129, 3) := dk_184 0 129 (dk_at dksX2_salsaCore_16 14 rfl rfl)
theorem dX2_salsaCore_390 : decode cX2_salsaCore 390 = .ok (.ixor, 1) := dk_130 (dk_at dksX2_salsaCore_16 17 rfl rfl)
theorem dX2_salsaCore_391 : decode cX2_salsaCore 391 = .ok (.istore 4, 2) := dk_54 4 (dk_at dksX2_salsaCore_16 18 rfl rfl)
theorem dX2_salsaCore_393 : decode cX2_salsaCore 393 = .ok (.iload 5, 2) := dk_21 5 (dk_at dksX2_salsaCore_16 20 rfl rfl)
theorem dX2_salsaCore_395 : decode cX2_salsaCore 395 = .ok (.iload 4, 2) := dk_21 4 (dk_at dksX2_salsaCore_16 22 rfl rfl)
theorem dX2_salsaCore_397 : decode cX2_salsaCore 397 = .ok (.iload_n 3, 1) := dk_29 (dk_at dksX2_salsaCore_17 0 rfl rfl)
theorem dX2_salsaCore_398 : decode cX2_salsaCore 398 = .ok (.iadd, 1) := dk_96 (dk_at dksX2_salsaCore_17 1 rfl rfl)
theorem dX2_salsaCore_399 : decode cX2_salsaCore 399 = .ok (.bipush 9, 2) := dk_16 9 (dk_at dksX2_salsaCore_17 2 rfl rfl)
theorem dX2_salsaCore_401 : decode cX2_salsaCore 401 = .ok (.invokestatic 129, 3) := dk_184 0 129 (dk_at dksX2_salsaCore_17 4 rfl rfl)
theorem dX2_salsaCore_404 : decode cX2_salsaCore 404 = .ok (.ixor, 1) := dk_130 (dk_at dksX2_salsaCore_17 7 rfl rfl)
theorem dX2_salsaCore_405 : decode cX2_salsaCore 405 = .ok (.istore 5, 2) := dk_54 5 (dk_at dksX2_salsaCore_17 8 rfl rfl)
theorem dX2_salsaCore_407 : decode cX2_salsaCore 407 = .ok (.iload 6, 2) := dk_21 6 (dk_at dksX2_salsaCore_17 10 rfl rfl)
theorem dX2_salsaCore_409 : decode cX2_salsaCore 409 = .ok (.iload 5, 2) := dk_21 5 (dk_at dksX2_salsaCore_17 12 rfl rfl)
theorem dX2_salsaCore_411 : decode cX2_salsaCore 411 = .ok (.iload 4, 2) := dk_21 4 (dk_at dksX2_salsaCore_17 14 rfl rfl)
theorem dX2_salsaCore_413 : decode cX2_salsaCore 413 = .ok (.iadd, 1) := dk_96 (dk_at dksX2_salsaCore_17 16 rfl rfl)
theorem dX2_salsaCore_414 : decode cX2_salsaCore 414 = .ok (.bipush 13, 2) := dk_16 13 (dk_at dksX2_salsaCore_17 17 rfl rfl)
theorem dX2_salsaCore_416 : decode cX2_salsaCore 416 = .ok (.invokestatic 129, 3) := dk_184 0 129 (dk_at dksX2_salsaCore_17 19 rfl rfl)
theorem dX2_salsaCore_419 : decode cX2_salsaCore 419 = .ok (.ixor, 1) := dk_130 (dk_at dksX2_salsaCore_17 22 rfl rfl)
theorem dX2_salsaCore_420 : decode cX2_salsaCore 420 = .ok (.istore 6, 2) := dk_54 6 (dk_at dksX2_salsaCore_18 0 rfl rfl)
theorem dX2_salsaCore_422 : decode cX2_salsaCore 422 = .ok (.iload_n 3, 1) := dk_29 (dk_at dksX2_salsaCore_18 2 rfl rfl)
theorem dX2_salsaCore_423 : decode cX2_salsaCore 423 = .ok (.iload 6, 2) := dk_21 6 (dk_at dksX2_salsaCore_18 3 rfl rfl)
theorem dX2_salsaCore_425 : decode cX2_salsaCore 425 = .ok (.iload 5, 2) := dk_21 5 (dk_at dksX2_salsaCore_18 5 rfl rfl)
theorem dX2_salsaCore_427 : decode cX2_salsaCore 427 = .ok (.iadd, 1) := dk_96 (dk_at dksX2_salsaCore_18 7 rfl rfl)
theorem dX2_salsaCore_428 : decode cX2_salsaCore 428 = .ok (.bipush 18, 2) := dk_16 18 (dk_at dksX2_salsaCore_18 8 rfl rfl)
theorem dX2_salsaCore_430 : decode cX2_salsaCore 430 = .ok (.invokestatic 129, 3) := dk_184 0 129 (dk_at dksX2_salsaCore_18 10 rfl rfl)
theorem dX2_salsaCore_433 : decode cX2_salsaCore 433 = .ok (.ixor, 1) := dk_130 (dk_at dksX2_salsaCore_18 13 rfl rfl)
theorem dX2_salsaCore_434 : decode cX2_salsaCore 434 = .ok (.istore_n 3, 1) := dk_62 (dk_at dksX2_salsaCore_18 14 rfl rfl)
theorem dX2_salsaCore_435 : decode cX2_salsaCore 435 = .ok (.iload 9, 2) := dk_21 9 (dk_at dksX2_salsaCore_18 15 rfl rfl)
theorem dX2_salsaCore_437 : decode cX2_salsaCore 437 = .ok (.iload 8, 2) := dk_21 8 (dk_at dksX2_salsaCore_18 17 rfl rfl)
theorem dX2_salsaCore_439 : decode cX2_salsaCore 439 = .ok (.iload 7, 2) := dk_21 7 (dk_at dksX2_salsaCore_18 19 rfl rfl)
theorem dX2_salsaCore_441 : decode cX2_salsaCore 441 = .ok (.iadd, 1) := dk_96 (dk_at dksX2_salsaCore_18 21 rfl rfl)
theorem dX2_salsaCore_442 : decode cX2_salsaCore 442 = .ok (.bipush 7, 2) := dk_16 7 (dk_at dksX2_salsaCore_18 22 rfl rfl)
theorem dX2_salsaCore_444 : decode cX2_salsaCore 444 = .ok (.invokestatic 129, 3) := dk_184 0 129 (dk_at dksX2_salsaCore_19 0 rfl rfl)
theorem dX2_salsaCore_447 : decode cX2_salsaCore 447 = .ok (.ixor, 1) := dk_130 (dk_at dksX2_salsaCore_19 3 rfl rfl)
theorem dX2_salsaCore_448 : decode cX2_salsaCore 448 = .ok (.istore 9, 2) := dk_54 9 (dk_at dksX2_salsaCore_19 4 rfl rfl)
theorem dX2_salsaCore_450 : decode cX2_salsaCore 450 = .ok (.iload 10, 2) := dk_21 10 (dk_at dksX2_salsaCore_19 6 rfl rfl)
theorem dX2_salsaCore_452 : decode cX2_salsaCore 452 = .ok (.iload 9, 2) := dk_21 9 (dk_at dksX2_salsaCore_19 8 rfl rfl)
theorem dX2_salsaCore_454 : decode cX2_salsaCore 454 = .ok (.iload 8, 2) := dk_21 8 (dk_at dksX2_salsaCore_19 10 rfl rfl)
theorem dX2_salsaCore_456 : decode cX2_salsaCore 456 = .ok (.iadd, 1) := dk_96 (dk_at dksX2_salsaCore_19 12 rfl rfl)
theorem dX2_salsaCore_457 : decode cX2_salsaCore 457 = .ok (.bipush 9, 2) := dk_16 9 (dk_at dksX2_salsaCore_19 13 rfl rfl)
theorem dX2_salsaCore_459 : decode cX2_salsaCore 459 = .ok (.invokestatic 129, 3) := dk_184 0 129 (dk_at dksX2_salsaCore_19 15 rfl rfl)
theorem dX2_salsaCore_462 : decode cX2_salsaCore 462 = .ok (.ixor, 1) := dk_130 (dk_at dksX2_salsaCore_19 18 rfl rfl)
theorem dX2_salsaCore_463 : decode cX2_salsaCore 463 = .ok (.istore 10, 2) := dk_54 10 (dk_at dksX2_salsaCore_19 19 rfl rfl)
theorem dX2_salsaCore_465 : decode cX2_salsaCore 465 = .ok (.iload 7, 2) := dk_21 7 (dk_at dksX2_salsaCore_19 21 rfl rfl)
theorem dX2_salsaCore_467 : decode cX2_salsaCore 467 = .ok (.iload 10, 2) := dk_21 10 (dk_at dksX2_salsaCore_20 0 rfl rfl)
theorem dX2_salsaCore_469 : decode cX2_salsaCore 469 = .ok (.iload 9, 2) := dk_21 9 (dk_at dksX2_salsaCore_20 2 rfl rfl)
theorem dX2_salsaCore_471 : decode cX2_salsaCore 471 = .ok (.iadd, 1) := dk_96 (dk_at dksX2_salsaCore_20 4 rfl rfl)
theorem dX2_salsaCore_472 : decode cX2_salsaCore 472 = .ok (.bipush 13, 2) := dk_16 13 (dk_at dksX2_salsaCore_20 5 rfl rfl)
theorem dX2_salsaCore_474 : decode cX2_salsaCore 474 = .ok (.invokestatic 129, 3) := dk_184 0 129 (dk_at dksX2_salsaCore_20 7 rfl rfl)
theorem dX2_salsaCore_477 : decode cX2_salsaCore 477 = .ok (.ixor, 1) := dk_130 (dk_at dksX2_salsaCore_20 10 rfl rfl)
theorem dX2_salsaCore_478 : decode cX2_salsaCore 478 = .ok (.istore 7, 2) := dk_54 7 (dk_at dksX2_salsaCore_20 11 rfl rfl)
theorem dX2_salsaCore_480 : decode cX2_salsaCore 480 = .ok (.iload 8, 2) := dk_21 8 (dk_at dksX2_salsaCore_20 13 rfl rfl)
theorem dX2_salsaCore_482 : decode cX2_salsaCore 482 = .ok (.iload 7, 2) := dk_21 7 (dk_at dksX2_salsaCore_20 15 rfl rfl)
theorem dX2_salsaCore_484 : decode cX2_salsaCore 484 = .ok (.iload 10, 2) := dk_21 10 (dk_at dksX2_salsaCore_20 17 rfl rfl)
theorem dX2_salsaCore_486 : decode cX2_salsaCore 486 = .ok (.iadd, 1) := dk_96 (dk_at dksX2_salsaCore_20 19 rfl rfl)
theorem dX2_salsaCore_487 : decode cX2_salsaCore 487 = .ok (.bipush 18, 2) := dk_16 18 (dk_at dksX2_salsaCore_20 20 rfl rfl)
theorem dX2_salsaCore_489 : decode cX2_salsaCore 489 = .ok (.invokestatic 129, 3) := dk_184 0 129 (dk_at dksX2_salsaCore_21 0 rfl rfl)
theorem dX2_salsaCore_492 : decode cX2_salsaCore 492 = .ok (.ixor, 1) := dk_130 (dk_at dksX2_salsaCore_21 3 rfl rfl)
theorem dX2_salsaCore_493 : decode cX2_salsaCore 493 = .ok (.istore 8, 2) := dk_54 8 (dk_at dksX2_salsaCore_21 4 rfl rfl)
theorem dX2_salsaCore_495 : decode cX2_salsaCore 495 = .ok (.iload 14, 2) := dk_21 14 (dk_at dksX2_salsaCore_21 6 rfl rfl)
theorem dX2_salsaCore_497 : decode cX2_salsaCore 497 = .ok (.iload 13, 2) := dk_21 13 (dk_at dksX2_salsaCore_21 8 rfl rfl)
theorem dX2_salsaCore_499 : decode cX2_salsaCore 499 = .ok (.iload 12, 2) := dk_21 12 (dk_at dksX2_salsaCore_21 10 rfl rfl)
theorem dX2_salsaCore_501 : decode cX2_salsaCore 501 = .ok (.iadd, 1) := dk_96 (dk_at dksX2_salsaCore_21 12 rfl rfl)
theorem dX2_salsaCore_502 : decode cX2_salsaCore 502 = .ok (.bipush 7, 2) := dk_16 7 (dk_at dksX2_salsaCore_21 13 rfl rfl)
theorem dX2_salsaCore_504 : decode cX2_salsaCore 504 = .ok (.invokestatic 129, 3) := dk_184 0 129 (dk_at dksX2_salsaCore_21 15 rfl rfl)
theorem dX2_salsaCore_507 : decode cX2_salsaCore 507 = .ok (.ixor, 1) := dk_130 (dk_at dksX2_salsaCore_21 18 rfl rfl)
theorem dX2_salsaCore_508 : decode cX2_salsaCore 508 = .ok (.istore 14, 2) := dk_54 14 (dk_at dksX2_salsaCore_21 19 rfl rfl)
theorem dX2_salsaCore_510 : decode cX2_salsaCore 510 = .ok (.iload 11, 2) := dk_21 11 (dk_at dksX2_salsaCore_21 21 rfl rfl)
theorem dX2_salsaCore_512 : decode cX2_salsaCore 512 = .ok (.iload 14, 2) := dk_21 14 (dk_at dksX2_salsaCore_22 0 rfl rfl)
theorem dX2_salsaCore_514 : decode cX2_salsaCore 514 = .ok (.iload 13, 2) := dk_21 13 (dk_at dksX2_salsaCore_22 2 rfl rfl)
theorem dX2_salsaCore_516 : decode cX2_salsaCore 516 = .ok (.iadd, 1) := dk_96 (dk_at dksX2_salsaCore_22 4 rfl rfl)
theorem dX2_salsaCore_517 : decode cX2_salsaCore 517 = .ok (.bipush 9, 2) := dk_16 9 (dk_at dksX2_salsaCore_22 5 rfl rfl)
theorem dX2_salsaCore_519 : decode cX2_salsaCore 519 = .ok (.invokestatic 129, 3) := dk_184 0 129 (dk_at dksX2_salsaCore_22 7 rfl rfl)
theorem dX2_salsaCore_522 : decode cX2_salsaCore 522 = .ok (.ixor, 1) := dk_130 (dk_at dksX2_salsaCore_22 10 rfl rfl)
theorem dX2_salsaCore_523 : decode cX2_salsaCore 523 = .ok (.istore 11, 2) := dk_54 11 (dk_at dksX2_salsaCore_22 11 rfl rfl)
theorem dX2_salsaCore_525 : decode cX2_salsaCore 525 = .ok (.iload 12, 2) := dk_21 12 (dk_at dksX2_salsaCore_22 13 rfl rfl)
theorem dX2_salsaCore_527 : decode cX2_salsaCore 527 = .ok (.iload 11, 2) := dk_21 11 (dk_at dksX2_salsaCore_22 15 rfl rfl)
theorem dX2_salsaCore_529 : decode cX2_salsaCore 529 = .ok (.iload 14, 2) := dk_21 14 (dk_at dksX2_salsaCore_22 17 rfl rfl)
theorem dX2_salsaCore_531 : decode cX2_salsaCore 531 = .ok (.iadd, 1) := dk_96 (dk_at dksX2_salsaCore_22 19 rfl rfl)
theorem dX2_salsaCore_532 : decode cX2_salsaCore 532 = .ok (.bipush 13, 2) := dk_16 13 (dk_at dksX2_salsaCore_22 20 rfl rfl)
theorem dX2_salsaCore_534 : decode cX2_salsaCore 534 = .ok (.invokestatic 129, 3) := dk_184 0 129 (dk_at dksX2_salsaCore_23 0 rfl rfl)
theorem dX2_salsaCore_537 : decode cX2_salsaCore 537 = .ok (.ixor, 1) := dk_130 (dk_at dksX2_salsaCore_23 3 rfl rfl)
theorem dX2_salsaCore_538 : decode cX2_salsaCore 538 = .ok (.istore 12, 2) := dk_54 12 (dk_at dksX2_salsaCore_23 4 rfl rfl)
theorem dX2_salsaCore_540 : decode cX2_salsaCore 540 = .ok (.iload 13, 2) := dk_21 13 (dk_at dksX2_salsaCore_23 6 rfl rfl)
theorem dX2_salsaCore_542 : decode cX2_salsaCore 542 = .ok (.iload 12, 2) := dk_21 12 (dk_at dksX2_salsaCore_23 8 rfl rfl)
theorem dX2_salsaCore_544 : decode cX2_salsaCore 544 = .ok (.iload 11, 2) := dk_21 11 (dk_at dksX2_salsaCore_23 10 rfl rfl)
theorem dX2_salsaCore_546 : decode cX2_salsaCore 546 = .ok (.iadd, 1) := dk_96 (dk_at dksX2_salsaCore_23 12 rfl rfl)
theorem dX2_salsaCore_547 : decode cX2_salsaCore 547 = .ok (.bipush 18, 2) := dk_16 18 (dk_at dksX2_salsaCore_23 13 rfl rfl)
theorem dX2_salsaCore_549 : decode cX2_salsaCore 549 = .ok (.invokestatic 129, 3) := dk_184 0 129 (dk_at dksX2_salsaCore_23 15 rfl rfl)
theorem dX2_salsaCore_552 : decode cX2_salsaCore 552 = .ok (.ixor, 1) := dk_130 (dk_at dksX2_salsaCore_23 18 rfl rfl)
theorem dX2_salsaCore_553 : decode cX2_salsaCore 553 = .ok (.istore 13, 2) := dk_54 13 (dk_at dksX2_salsaCore_23 19 rfl rfl)
theorem dX2_salsaCore_555 : decode cX2_salsaCore 555 = .ok (.iload 15, 2) := dk_21 15 (dk_at dksX2_salsaCore_23 21 rfl rfl)
theorem dX2_salsaCore_557 : decode cX2_salsaCore 557 = .ok (.iload 18, 2) := dk_21 18 (dk_at dksX2_salsaCore_24 0 rfl rfl)
theorem dX2_salsaCore_559 : decode cX2_salsaCore 559 = .ok (.iload 17, 2) := dk_21 17 (dk_at dksX2_salsaCore_24 2 rfl rfl)
theorem dX2_salsaCore_561 : decode cX2_salsaCore 561 = .ok (.iadd, 1) := dk_96 (dk_at dksX2_salsaCore_24 4 rfl rfl)
theorem dX2_salsaCore_562 : decode cX2_salsaCore 562 = .ok (.bipush 7, 2) := dk_16 7 (dk_at dksX2_salsaCore_24 5 rfl rfl)
theorem dX2_salsaCore_564 : decode cX2_salsaCore 564 = .ok (.invokestatic 129, 3) := dk_184 0 129 (dk_at dksX2_salsaCore_24 7 rfl rfl)
theorem dX2_salsaCore_567 : decode cX2_salsaCore 567 = .ok (.ixor, 1) := dk_130 (dk_at dksX2_salsaCore_24 10 rfl rfl)
theorem dX2_salsaCore_568 : decode cX2_salsaCore 568 = .ok (.istore 15, 2) := dk_54 15 (dk_at dksX2_salsaCore_24 11 rfl rfl)
theorem dX2_salsaCore_570 : decode cX2_salsaCore 570 = .ok (.iload 16, 2) := dk_21 16 (dk_at dksX2_salsaCore_24 13 rfl rfl)
theorem dX2_salsaCore_572 : decode cX2_salsaCore 572 = .ok (.iload 15, 2) := dk_21 15 (dk_at dksX2_salsaCore_24 15 rfl rfl)
theorem dX2_salsaCore_574 : decode cX2_salsaCore 574 = .ok (.iload 18, 2) := dk_21 18 (dk_at dksX2_salsaCore_24 17 rfl rfl)
theorem dX2_salsaCore_576 : decode cX2_salsaCore 576 = .ok (.iadd, 1) := dk_96 (dk_at dksX2_salsaCore_24 19 rfl rfl)
theorem dX2_salsaCore_577 : decode cX2_salsaCore 577 = .ok (.bipush 9, 2) := dk_16 9 (dk_at dksX2_salsaCore_24 20 rfl rfl)
theorem dX2_salsaCore_579 : decode cX2_salsaCore 579 = .ok (.invokestatic 129, 3) := dk_184 0 129 (dk_at dksX2_salsaCore_25 0 rfl rfl)
theorem dX2_salsaCore_582 : decode cX2_salsaCore 582 = .ok (.ixor, 1) := dk_130 (dk_at dksX2_salsaCore_25 3 rfl rfl)
theorem dX2_salsaCore_583 : decode cX2_salsaCore 583 = .ok (.istore 16, 2) := dk_54 16 (dk_at dksX2_salsaCore_25 4 rfl rfl)
theorem dX2_salsaCore_585 : decode cX2_salsaCore 585 = .ok (.iload 17, 2) := dk_21 17 (dk_at dksX2_salsaCore_25 6 rfl rfl)
theorem dX2_salsaCore_587 : decode cX2_salsaCore 587 = .ok (.iload 16, 2) := dk_21 16 (dk_at dksX2_salsaCore_25 8 rfl rfl)
theorem dX2_salsaCore_589 : decode cX2_salsaCore 589 = .ok (.iload 15, 2) := dk_21 15 (dk_at dksX2_salsaCore_25 10 rfl rfl)
theorem dX2_salsaCore_591 : decode cX2_salsaCore 591 = .ok (.iadd, 1) := dk_96 (dk_at dksX2_salsaCore_25 12 rfl rfl)
theorem dX2_salsaCore_592 : decode cX2_salsaCore 592 = .ok (.bipush 13, 2) := dk_16 13 (dk_at dksX2_salsaCore_25 13 rfl rfl)
theorem dX2_salsaCore_594 : decode cX2_salsaCore 594 = .ok (.invokestatic 129, 3) := dk_184 0 129 (dk_at dksX2_salsaCore_25 15 rfl rfl)
theorem dX2_salsaCore_597 : decode cX2_salsaCore 597 = .ok (.ixor, 1) := dk_130 (dk_at dksX2_salsaCore_25 18 rfl rfl)
theorem dX2_salsaCore_598 : decode cX2_salsaCore 598 = .ok (.istore 17, 2) := dk_54 17 (dk_at dksX2_salsaCore_25 19 rfl rfl)
theorem dX2_salsaCore_600 : decode cX2_salsaCore 600 = .ok (.iload 18, 2) := dk_21 18 (dk_at dksX2_salsaCore_25 21 rfl rfl)
theorem dX2_salsaCore_602 : decode cX2_salsaCore 602 = .ok (.iload 17, 2) := dk_21 17 (dk_at dksX2_salsaCore_26 0 rfl rfl)
theorem dX2_salsaCore_604 : decode cX2_salsaCore 604 = .ok (.iload 16, 2) := dk_21 16 (dk_at dksX2_salsaCore_26 2 rfl rfl)
theorem dX2_salsaCore_606 : decode cX2_salsaCore 606 = .ok (.iadd, 1) := dk_96 (dk_at dksX2_salsaCore_26 4 rfl rfl)
theorem dX2_salsaCore_607 : decode cX2_salsaCore 607 = .ok (.bipush 18, 2) := dk_16 18 (dk_at dksX2_salsaCore_26 5 rfl rfl)
theorem dX2_salsaCore_609 : decode cX2_salsaCore 609 = .ok (.invokestatic 129, 3) := dk_184 0 129 (dk_at dksX2_salsaCore_26 7 rfl rfl)
theorem dX2_salsaCore_612 : decode cX2_salsaCore 612 = .ok (.ixor, 1) := dk_130 (dk_at dksX2_salsaCore_26 10 rfl rfl)
theorem dX2_salsaCore_613 : decode cX2_salsaCore 613 = .ok (.istore 18, 2) := dk_54 18 (dk_at dksX2_salsaCore_26 11 rfl rfl)
theorem dX2_salsaCore_615 : decode cX2_salsaCore 615 = .ok (.iinc 19 (-2), 3) := dk_132 19 254 (dk_at dksX2_salsaCore_26 13 rfl rfl)
theorem dX2_salsaCore_618 : decode cX2_salsaCore 618 = .ok (.goto (-480), 3) := dk_167 254 32 (dk_at dksX2_salsaCore_26 16 rfl rfl)
theorem dX2_salsaCore_621 : decode cX2_salsaCore 621 = .ok (.aload_n 2, 1) := dk_44 (dk_at dksX2_salsaCore_26 19 rfl rfl)
theorem dX2_salsaCore_622 : decode cX2_salsaCore 622 = .ok (.iconst 0, 1) := dk_3 (dk_at dksX2_salsaCore_26 20 rfl rfl)
theorem dX2_salsaCore_623 : decode cX2_salsaCore 623 = .ok (.iload_n 3, 1) := dk_29 (dk_at dksX2_salsaCore_26 21 rfl rfl)
theorem dX2_salsaCore_624 : decode cX2_salsaCore 624 = .ok (.aload_n 1, 1) := dk_43 (dk_at dksX2_salsaCore_26 22 rfl rfl)
theorem dX2_salsaCore_625 : decode cX2_salsaCore 625 = .ok (.iconst 0, 1) := dk_3 (dk_at dksX2_salsaCore_26 23 rfl rfl)
theorem dX2_salsaCore_626 : decode cX2_salsaCore 626 = .ok (.iaload, 1) := dk_46 (dk_at dksX2_salsaCore_27 0 rfl rfl)
theorem dX2_salsaCore_627 : decode cX2_salsaCore 627 = .ok (.iadd, 1) := dk_96 (dk_at dksX2_salsaCore_27 1 rfl rfl)
theorem dX2_salsaCore_628 : decode cX2_salsaCore 628 = .ok (.iastore, 1) := dk_79 (dk_at dksX2_salsaCore_27 2 rfl rfl)
theorem dX2_salsaCore_629 : decode cX2_salsaCore 629 = .ok (.aload_n 2, 1) := dk_44 (dk_at dksX2_salsaCore_27 3 rfl rfl)
theorem dX2_salsaCore_630 : decode cX2_salsaCore 630 = .ok (.iconst 1, 1) := dk_4 (dk_at dksX2_salsaCore_27 4 rfl rfl)
theorem dX2_salsaCore_631 : decode cX2_salsaCore 631 = .ok (.iload 4, 2) := dk_21 4 (dk_at dksX2_salsaCore_27 5 rfl rfl)
theorem dX2_salsaCore_633 : decode cX2_salsaCore 633 = .ok (.aload_n 1, 1) := dk_43 (dk_at dksX2_salsaCore_27 7 rfl rfl)
theorem dX2_salsaCore_634 : decode cX2_salsaCore 634 = .ok (.iconst 1, 1) := dk_4 (dk_at dksX2_salsaCore_27 8 rfl rfl)
theorem dX2_salsaCore_635 : decode cX2_salsaCore 635 = .ok (.iaload, 1) := dk_46 (dk_at dksX2_salsaCore_27 9 rfl rfl)
theorem dX2_salsaCore_636 : decode cX2_salsaCore 636 = .ok (.iadd, 1) := dk_96 (dk_at dksX2_salsaCore_27 10 rfl rfl)
theorem dX2_salsaCore_637 : decode cX2_salsaCore 637 = .ok (.iastore, 1) := dk_79 (dk_at dksX2_salsaCore_27 11 rfl rfl)
theorem dX2_salsaCore_638 : decode cX2_salsaCore 638 = .ok (.aload_n 2, 1) := dk_44 (dk_at dksX2_salsaCore_27 12 rfl rfl)
theorem dX2_salsaCore_639 : decode cX2_salsaCore 639 = .ok (.iconst 2, 1) := dk_5 (dk_at dksX2_salsaCore_27 13 rfl rfl)
theorem dX2_salsaCore_640 : decode cX2_salsaCore 640 = .ok (.iload 5, 2) := dk_21 5 (dk_at dksX2_salsaCore_27 14 rfl rfl)
theorem dX2_salsaCore_642 : decode cX2_salsaCore 642 = .ok (.aload_n 1, 1) := dk_43 (dk_at dksX2_salsaCore_27 16 rfl rfl)
theorem dX2_salsaCore_643 : decode cX2_salsaCore 643 = .ok (.iconst 2, 1) := dk_5 (dk_at dksX2_salsaCore_27 17 rfl rfl)
theorem dX2_salsaCore_644 : decode cX2_salsaCore 644 = .ok (.iaload, 1) := dk_46 (dk_at dksX2_salsaCore_27 18 rfl rfl)
theorem dX2_salsaCore_645 : decode cX2_salsaCore 645 = .ok (.iadd, 1) := dk_96 (dk_at dksX2_salsaCore_27 19 rfl rfl)
theorem dX2_salsaCore_646 : decode cX2_salsaCore 646 = .ok (.iastore, 1) := dk_79 (dk_at dksX2_salsaCore_27 20 rfl rfl)
theorem dX2_salsaCore_647 : decode cX2_salsaCore 647 = .ok (.aload_n 2, 1) := dk_44 (dk_at dksX2_salsaCore_27 21 rfl rfl)
theorem dX2_salsaCore_648 : decode cX2_salsaCore 648 = .ok (.iconst 3, 1) := dk_6 (dk_at dksX2_salsaCore_27 22 rfl rfl)
theorem dX2_salsaCore_649 : decode cX2_salsaCore 649 = .ok (.iload 6, 2) := dk_21 6 (dk_at dksX2_salsaCore_28 0 rfl rfl)
theorem dX2_salsaCore_651 : decode cX2_salsaCore 651 = .ok (.aload_n 1, 1) := dk_43 (dk_at dksX2_salsaCore_28 2 rfl rfl)
theorem dX2_salsaCore_652 : decode cX2_salsaCore 652 = .ok (.iconst 3, 1) := dk_6 (dk_at dksX2_salsaCore_28 3 rfl rfl)
theorem dX2_salsaCore_653 : decode cX2_salsaCore 653 = .ok (.iaload, 1) := dk_46 (dk_at dksX2_salsaCore_28 4 rfl rfl)
theorem dX2_salsaCore_654 : decode cX2_salsaCore 654 = .ok (.iadd, 1) := dk_96 (dk_at dksX2_salsaCore_28 5 rfl rfl)
theorem dX2_salsaCore_655 : decode cX2_salsaCore 655 = .ok (.iastore, 1) := dk_79 (dk_at dksX2_salsaCore_28 6 rfl rfl)
theorem dX2_salsaCore_656 : decode cX2_salsaCore 656 = .ok (.aload_n 2, 1) := dk_44 (dk_at dksX2_salsaCore_28 7 rfl rfl)
theorem dX2_salsaCore_657 : decode cX2_salsaCore 657 = .ok (.iconst 4, 1) := dk_7 (dk_at dksX2_salsaCore_28 8 rfl rfl)
theorem dX2_salsaCore_658 : decode cX2_salsaCore 658 = .ok (.iload 7, 2) := dk_21 7 (dk_at dksX2_salsaCore_28 9 rfl rfl)
theorem dX2_salsaCore_660 : decode cX2_salsaCore 660 = .ok (.aload_n 1, 1) := dk_43 (dk_at dksX2_salsaCore_28 11 rfl rfl)
theorem dX2_salsaCore_661 : decode cX2_salsaCore 661 = .ok (.iconst 4, 1) := dk_7 (dk_at dksX2_salsaCore_28 12 rfl rfl)
theorem dX2_salsaCore_662 : decode cX2_salsaCore 662 = .ok (.iaload, 1) := dk_46 (dk_at dksX2_salsaCore_28 13 rfl rfl)
theorem dX2_salsaCore_663 : decode cX2_salsaCore 663 = .ok (.iadd, 1) := dk_96 (dk_at dksX2_salsaCore_28 14 rfl rfl)
theorem dX2_salsaCore_664 : decode cX2_salsaCore 664 = .ok (.iastore, 1) := dk_79 (dk_at dksX2_salsaCore_28 15 rfl rfl)
theorem dX2_salsaCore_665 : decode cX2_salsaCore 665 = .ok (.aload_n 2, 1) := dk_44 (dk_at dksX2_salsaCore_28 16 rfl rfl)
theorem dX2_salsaCore_666 : decode cX2_salsaCore 666 = .ok (.iconst 5, 1) := dk_8 (dk_at dksX2_salsaCore_28 17 rfl rfl)
theorem dX2_salsaCore_667 : decode cX2_salsaCore 667 = .ok (.iload 8, 2) := dk_21 8 (dk_at dksX2_salsaCore_28 18 rfl rfl)
theorem dX2_salsaCore_669 : decode cX2_salsaCore 669 = .ok (.aload_n 1, 1) := dk_43 (dk_at dksX2_salsaCore_28 20 rfl rfl)
theorem dX2_salsaCore_670 : decode cX2_salsaCore 670 = .ok (.iconst 5, 1) := dk_8 (dk_at dksX2_salsaCore_28 21 rfl rfl)
theorem dX2_salsaCore_671 : decode cX2_salsaCore 671 = .ok (.iaload, 1) := dk_46 (dk_at dksX2_salsaCore_28 22 rfl rfl)
theorem dX2_salsaCore_672 : decode cX2_salsaCore 672 = .ok (.iadd, 1) := dk_96 (dk_at dksX2_salsaCore_28 23 rfl rfl)
theorem dX2_salsaCore_673 : decode cX2_salsaCore 673 = .ok (.iastore, 1) := dk_79 (dk_at dksX2_salsaCore_29 0 rfl rfl)
theorem dX2_salsaCore_674 : decode cX2_salsaCore 674 = .ok (.aload_n 2, 1) := dk_44 (dk_at dksX2_salsaCore_29 1 rfl rfl)
theorem dX2_salsaCore_675 : decode cX2_salsaCore 675 = .ok (.bipush 6, 2) := dk_16 6 (dk_at dksX2_salsaCore_29 2 rfl rfl)
theorem dX2_salsaCore_677 : decode cX2_salsaCore 677 = .ok (.iload 9, 2) := dk_21 9 (dk_at dksX2_salsaCore_29 4 rfl rfl)
theorem dX2_salsaCore_679 : decode cX2_salsaCore 679 = .ok (.aload_n 1, 1) := dk_43 (dk_at dksX2_salsaCore_29 6 rfl rfl)
theorem dX2_salsaCore_680 : decode cX2_salsaCore 680 = .ok (.bipush 6, 2) := dk_16 6 (dk_at dksX2_salsaCore_29 7 rfl rfl)
theorem dX2_salsaCore_682 : decode cX2_salsaCore 682 = .ok (.iaload, 1) := dk_46 (dk_at dksX2_salsaCore_29 9 rfl rfl)
theorem dX2_salsaCore_683 : decode cX2_salsaCore 683 = .ok (.iadd, 1) := dk_96 (dk_at dksX2_salsaCore_29 10 rfl rfl)
theorem dX2_salsaCore_684 : decode cX2_salsaCore 684 = .ok (.iastore, 1) := dk_79 (dk_at dksX2_salsaCore_29 11 rfl rfl)
theorem dX2_salsaCore_685 : decode cX2_salsaCore 685 = .ok (.aload_n 2, 1) := dk_44 (dk_at dksX2_salsaCore_29 12 rfl rfl)
theorem dX2_salsaCore_686 : decode cX2_salsaCore 686 = .ok (.bipush 7, 2) := dk_16 7 (dk_at dksX2_salsaCore_29 13 rfl rfl)
theorem dX2_salsaCore_688 : decode cX2_salsaCore 688 = .ok (.iload 10, 2) := dk_21 10 (dk_at dksX2_salsaCore_29 15 rfl rfl)
theorem dX2_salsaCore_690 : decode cX2_salsaCore 690 = .ok (.aload_n 1, 1) := dk_43 (dk_at dksX2_salsaCore_29 17 rfl rfl)
theorem dX2_salsaCore_691 : decode cX2_salsaCore 691 = .ok (.bipush 7, 2) := dk_16 7 (dk_at dksX2_salsaCore_29 18 rfl rfl)
theorem dX2_salsaCore_693 : decode cX2_salsaCore 693 = .ok (.iaload, 1) := dk_46 (dk_at dksX2_salsaCore_29 20 rfl rfl)
theorem dX2_salsaCore_694 : decode cX2_salsaCore 694 = .ok (.iadd, 1) := dk_96 (dk_at dksX2_salsaCore_29 21 rfl rfl)
theorem dX2_salsaCore_695 : decode cX2_salsaCore 695 = .ok (.iastore, 1) := dk_79 (dk_at dksX2_salsaCore_29 22 rfl rfl)
theorem dX2_salsaCore_696 : decode cX2_salsaCore 696 = .ok (.aload_n 2, 1) := dk_44 (dk_at dksX2_salsaCore_29 23 rfl rfl)
theorem dX2_salsaCore_697 : decode cX2_salsaCore 697 = .ok (.bipush 8, 2) := dk_16 8 (dk_at dksX2_salsaCore_30 0 rfl rfl)
theorem dX2_salsaCore_699 : decode cX2_salsaCore 699 = .ok (.iload 11, 2) := dk_21 11 (dk_at dksX2_salsaCore_30 2 rfl rfl)
theorem dX2_salsaCore_701 : decode cX2_salsaCore 701 = .ok (.aload_n 1, 1) := dk_43 (dk_at dksX2_salsaCore_30 4 rfl rfl)
theorem dX2_salsaCore_702 : decode cX2_salsaCore 702 = .ok (.bipush 8, 2) := dk_16 8 (dk_at dksX2_salsaCore_30 5 rfl rfl)
theorem dX2_salsaCore_704 : decode cX2_salsaCore 704 = .ok (.iaload, 1) := dk_46 (dk_at dksX2_salsaCore_30 7 rfl rfl)
theorem dX2_salsaCore_705 : decode cX2_salsaCore 705 = .ok (.iadd, 1) := dk_96 (dk_at dksX2_salsaCore_30 8 rfl rfl)
theorem dX2_salsaCore_706 : decode cX2_salsaCore 706 = .ok (.iastore, 1) := dk_79 (dk_at dksX2_salsaCore_30 9 rfl rfl)
theorem dX2_salsaCore_707 : decode cX2_salsaCore 707 = .ok (.aload_n 2, 1) := dk_44 (dk_at dksX2_salsaCore_30 10 rfl rfl)
theorem dX2_salsaCore_708 : decode cX2_salsaCore 708 = .ok (.bipush 9, 2) := dk_16 9 (dk_at dksX2_salsaCore_30 11 rfl rfl)
theorem dX2_salsaCore_710 : decode cX2_salsaCore 710 = .ok (.iload 12, 2) := dk_21 12 (dk_at dksX2_salsaCore_30 13 rfl rfl)
theorem dX2_salsaCore_712 : decode cX2_salsaCore 712 = .ok (.aload_n 1, 1) := dk_43 (dk_at dksX2_salsaCore_30 15 rfl rfl)
theorem dX2_salsaCore_713 : decode cX2_salsaCore 713 = .ok (.bipush 9, 2) := dk_16 9 (dk_at dksX2_salsaCore_30 16 rfl rfl)
theorem dX2_salsaCore_715 : decode cX2_salsaCore 715 = .ok (.iaload, 1) := dk_46 (dk_at dksX2_salsaCore_30 18 rfl rfl)
theorem dX2_salsaCore_716 : decode cX2_salsaCore 716 = .ok (.iadd, 1) := dk_96 (dk_at dksX2_salsaCore_30 19 rfl rfl)
theorem dX2_salsaCore_717 : decode cX2_salsaCore 717 = .ok (.iastore, 1) := dk_79 (dk_at dksX2_salsaCore_30 20 rfl rfl)
theorem dX2_salsaCore_718 : decode cX2_salsaCore 718 = .ok (.aload_n 2, 1) := dk_44 (dk_at dksX2_salsaCore_30 21 rfl rfl)
theorem dX2_salsaCore_719 : decode cX2_salsaCore 719 = .ok (.bipush 10, 2) := dk_16 10 (dk_at dksX2_salsaCore_30 22 rfl rfl)
theorem dX2_salsaCore_721 : decode cX2_salsaCore 721 = .ok (.iload 13, 2) := dk_21 13 (dk_at dksX2_salsaCore_31 0 rfl rfl)
theorem dX2_salsaCore_723 : decode cX2_salsaCore 723 = .ok (.aload_n 1, 1) := dk_43 (dk_at dksX2_salsaCore_31 2 rfl rfl)
theorem dX2_salsaCore_724 : decode cX2_salsaCore 724 = .ok (.bipush 10, 2) := dk_16 10 (dk_at dksX2_salsaCore_31 3 rfl rfl)
theorem dX2_salsaCore_726 : decode cX2_salsaCore 726 = .ok (.iaload, 1) := dk_46 (dk_at dksX2_salsaCore_31 5 rfl rfl)
theorem dX2_salsaCore_727 : decode cX2_salsaCore 727 = .ok (.iadd, 1) := dk_96 (dk_at dksX2_salsaCore_31 6 rfl rfl)
theorem dX2_salsaCore_728 : decode cX2_salsaCore 728 = .ok (.iastore, 1) := dk_79 (dk_at dksX2_salsaCore_31 7 rfl rfl)
theorem dX2_salsaCore_729 : decode cX2_salsaCore 729 = .ok (.aload_n 2, 1) := dk_44 (dk_at dksX2_salsaCore_31 8 rfl rfl)
theorem dX2_salsaCore_730 : decode cX2_salsaCore 730 = .ok (.bipush 11, 2) := dk_16 11 (dk_at dksX2_salsaCore_31 9 rfl rfl)
theorem dX2_salsaCore_732 : decode cX2_salsaCore 732 = .ok (.iload 14, 2) := dk_21 14 (dk_at dksX2_salsaCore_31 11 rfl rfl)
theorem dX2_salsaCore_734 : decode cX2_salsaCore 734 = .ok (.aload_n 1, 1) := dk_43 (dk_at dksX2_salsaCore_31 13 rfl rfl)
theorem dX2_salsaCore_735 : decode cX2_salsaCore 735 = .ok (.bipush 11, 2) := dk_16 11 (dk_at dksX2_salsaCore_31 14 rfl rfl)
theorem dX2_salsaCore_737 : decode cX2_salsaCore 737 = .ok (.iaload, 1) := dk_46 (dk_at dksX2_salsaCore_31 16 rfl rfl)
theorem dX2_salsaCore_738 : decode cX2_salsaCore 738 = .ok (.iadd, 1) := dk_96 (dk_at dksX2_salsaCore_31 17 rfl rfl)
theorem dX2_salsaCore_739 : decode cX2_salsaCore 739 = .ok (.iastore, 1) := dk_79 (dk_at dksX2_salsaCore_31 18 rfl rfl)
theorem dX2_salsaCore_740 : decode cX2_salsaCore 740 = .ok (.aload_n 2, 1) := dk_44 (dk_at dksX2_salsaCore_31 19 rfl rfl)
theorem dX2_salsaCore_741 : decode cX2_salsaCore 741 = .ok (.bipush 12, 2) := dk_16 12 (dk_at dksX2_salsaCore_31 20 rfl rfl)
theorem dX2_salsaCore_743 : decode cX2_salsaCore 743 = .ok (.iload 15, 2) := dk_21 15 (dk_at dksX2_salsaCore_31 22 rfl rfl)
theorem dX2_salsaCore_745 : decode cX2_salsaCore 745 = .ok (.aload_n 1, 1) := dk_43 (dk_at dksX2_salsaCore_32 0 rfl rfl)
theorem dX2_salsaCore_746 : decode cX2_salsaCore 746 = .ok (.bipush 12, 2) := dk_16 12 (dk_at dksX2_salsaCore_32 1 rfl rfl)
theorem dX2_salsaCore_748 : decode cX2_salsaCore 748 = .ok (.iaload, 1) := dk_46 (dk_at dksX2_salsaCore_32 3 rfl rfl)
theorem dX2_salsaCore_749 : decode cX2_salsaCore 749 = .ok (.iadd, 1) := dk_96 (dk_at dksX2_salsaCore_32 4 rfl rfl)
theorem dX2_salsaCore_750 : decode cX2_salsaCore 750 = .ok (.iastore, 1) := dk_79 (dk_at dksX2_salsaCore_32 5 rfl rfl)
theorem dX2_salsaCore_751 : decode cX2_salsaCore 751 = .ok (.aload_n 2, 1) := dk_44 (dk_at dksX2_salsaCore_32 6 rfl rfl)
theorem dX2_salsaCore_752 : decode cX2_salsaCore 752 = .ok (.bipush 13, 2) := dk_16 13 (dk_at dksX2_salsaCore_32 7 rfl rfl)
theorem dX2_salsaCore_754 : decode cX2_salsaCore 754 = .ok (.iload 16, 2) := dk_21 16 (dk_at dksX2_salsaCore_32 9 rfl rfl)
theorem dX2_salsaCore_756 : decode cX2_salsaCore 756 = .ok (.aload_n 1, 1) := dk_43 (dk_at dksX2_salsaCore_32 11 rfl rfl)
theorem dX2_salsaCore_757 : decode cX2_salsaCore 757 = .ok (.bipush 13, 2) := dk_16 13 (dk_at dksX2_salsaCore_32 12 rfl rfl)
theorem dX2_salsaCore_759 : decode cX2_salsaCore 759 = .ok (.iaload, 1) := dk_46 (dk_at dksX2_salsaCore_32 14 rfl rfl)
theorem dX2_salsaCore_760 : decode cX2_salsaCore 760 = .ok (.iadd, 1) := dk_96 (dk_at dksX2_salsaCore_32 15 rfl rfl)
theorem dX2_salsaCore_761 : decode cX2_salsaCore 761 = .ok (.iastore, 1) := dk_79 (dk_at dksX2_salsaCore_32 16 rfl rfl)
theorem dX2_salsaCore_762 : decode cX2_salsaCore 762 = .ok (.aload_n 2, 1) := dk_44 (dk_at dksX2_salsaCore_32 17 rfl rfl)
theorem dX2_salsaCore_763 : decode cX2_salsaCore 763 = .ok (.bipush 14, 2) := dk_16 14 (dk_at dksX2_salsaCore_32 18 rfl rfl)
theorem dX2_salsaCore_765 : decode cX2_salsaCore 765 = .ok (.iload 17, 2) := dk_21 17 (dk_at dksX2_salsaCore_32 20 rfl rfl)
theorem dX2_salsaCore_767 : decode cX2_salsaCore 767 = .ok (.aload_n 1, 1) := dk_43 (dk_at dksX2_salsaCore_32 22 rfl rfl)
theorem dX2_salsaCore_768 : decode cX2_salsaCore 768 = .ok (.bipush 14, 2) := dk_16 14 (dk_at dksX2_salsaCore_33 0 rfl rfl)
theorem dX2_salsaCore_770 : decode cX2_salsaCore 770 = .ok (.iaload, 1) := dk_46 (dk_at dksX2_salsaCore_33 2 rfl rfl)
theorem dX2_salsaCore_771 : decode cX2_salsaCore 771 = .ok (.iadd, 1) := dk_96 (dk_at dksX2_salsaCore_33 3 rfl rfl)
theorem dX2_salsaCore_772 : decode cX2_salsaCore 772 = .ok (.iastore, 1) := dk_79 (dk_at dksX2_salsaCore_33 4 rfl rfl)
theorem dX2_salsaCore_773 : decode cX2_salsaCore 773 = .ok (.aload_n 2, 1) := dk_44 (dk_at dksX2_salsaCore_33 5 rfl rfl)
theorem dX2_salsaCore_774 : decode cX2_salsaCore 774 = .ok (.bipush 15, 2) := dk_16 15 (dk_at dksX2_salsaCore_33 6 rfl rfl)
theorem dX2_salsaCore_776 : decode cX2_salsaCore 776 = .ok (.iload 18, 2) := dk_21 18 (dk_at dksX2_salsaCore_33 8 rfl rfl)
theorem dX2_salsaCore_778 : decode cX2_salsaCore 778 = .ok (.aload_n 1, 1) := dk_43 (dk_at dksX2_salsaCore_33 10 rfl rfl)
theorem dX2_salsaCore_779 : decode cX2_salsaCore 779 = .ok (.bipush 15, 2) := dk_16 15 (dk_at dksX2_salsaCore_33 11 rfl rfl)
theorem dX2_salsaCore_781 : decode cX2_salsaCore 781 = .ok (.iaload, 1) := dk_46 (dk_at dksX2_salsaCore_33 13 rfl rfl)
theorem dX2_salsaCore_782 : decode cX2_salsaCore 782 = .ok (.iadd, 1) := dk_96 (dk_at dksX2_salsaCore_33 14 rfl rfl)
theorem dX2_salsaCore_783 : decode cX2_salsaCore 783 = .ok (.iastore, 1) := dk_79 (dk_at dksX2_salsaCore_33 15 rfl rfl)
theorem dX2_salsaCore_784 : decode cX2_salsaCore 784 = .ok (.return_, 1) := dk_177 (dk_at dksX2_salsaCore_33 16 rfl rfl)
abbrev cX2_returnByte : ByteArray := prog_10_method_5_code
def yX2_returnByte : MethodName := ⟨RX2, "returnByte", "(B)B"⟩
def dkwX2_returnByte_2 : List UInt8 := [180, 0, 12, 154, 0, 15, 42, 182, 0, 81, 42, 42, 180, 0, 23, 182, 0, 84, 28, 172]
abbrev dktX2_returnByte_2 : List UInt8 := dkwX2_returnByte_2 ++ []
def dkwX2_returnByte_1 : List UInt8 := [180, 0, 12, 51, 27, 130, 145, 61, 42, 42, 180, 0, 12, 4, 96, 16, 63, 126, 181, 0, 12, 42]
abbrev dktX2_returnByte_1 : List UInt8 := dkwX2_returnByte_1 ++ dktX2_returnByte_2
def dkwX2_returnByte_0 : List UInt8 := [42, 182, 0, 72, 153, 0, 13, 187, 0, 76, 89, 18, 78, 183, 0, 80, 191, 42, 180, 0, 23, 42]
abbrev dktX2_returnByte_0 : List UInt8 := dkwX2_returnByte_0 ++ dktX2_returnByte_1
theorem dksX2_returnByte_0 : cX2_returnByte.data.toList.drop 0 = dktX2_returnByte_0 := by decide +kernel
theorem dksX2_returnByte_1 : cX2_returnByte.data.toList.drop 22 = dktX2_returnByte_1 := dk_seg dksX2_returnByte_0 22 rfl rfl
theorem dksX2_returnByte_2 : cX2_returnByte.data.toList.drop 44 = dktX2_returnByte_2 := dk_seg dksX2_returnByte_1 22 rfl rfl
theorem dX2_returnByte_0 : decode cX2_returnByte 0 = .ok (.aload_n 0, 1) := dk_42 (dk_at dksX2_returnByte_0 0 rfl rfl)
theorem dX2_returnByte_1 : decode cX2_returnByte 1 = .ok (.invokevirtual 72, 3) := dk_182 0 72 (dk_at dksX2_returnByte_0 1 rfl rfl)
theorem dX2_returnByte_4 : decode cX2_returnByte 4 = .ok (.ifCond .eq 13, 3) := dk_153 0 13 (dk_at dksX2_returnByte_0 4 rfl rfl)
theorem dX2_returnByte_7 : decode cX2_returnByte 7 = .ok (.new 76, 3) := dk_187 0 76 (dk_at dksX2_returnByte_0 7 rfl rfl)
theorem dX2_returnByte_10 : decode cX2_returnByte 10 = .ok (.dup, 1) := dk_89 (dk_at dksX2_returnByte_0 10 rfl rfl)
theorem dX2_returnByte_11 : decode cX2_returnByte 11 = .ok (.ldc 78, 2) := dk_18 78 (dk_at dksX2_returnByte_0 11 rfl rfl)
theorem dX2_returnByte_13 : decode cX2_returnByte 13 = .ok (.invokespecial 80, 3) := dk_183 0 80 (dk_at dksX2_returnByte_0 13 rfl rfl)
theorem dX2_returnByte_16 : decode cX2_returnByte 16 = .ok (.athrow, 1) := dk_191 (dk_at dksX2_returnByte_0 16 rfl rfl)
theorem dX2_returnByte_17 : decode cX2_returnByte 17 = .ok (.aload_n 0, 1) := dk_42 (dk_at dksX2_returnByte_0 17 rfl rfl)
theorem dX2_returnByte_18 : decode cX2_returnByte 18 = .ok (.getfield 23, 3) := dk_180 0 23 (dk_at dksX2_returnByte_0 18 rfl rfl)
theorem dX2_returnByte_21 : decode cX2_returnByte 21 = .ok (.aload_n 0, 1) := dk_42 (dk_at dksX2_returnByte_0 21 rfl rfl)
theorem dX2_returnByte_22 : decode cX2_returnByte 22 = .ok (.getfield 12, 3) := dk_180 0 12 (dk_at dksX2_returnByte_1 0 rfl rfl)
theorem dX2_returnByte_25 : decode cX2_returnByte 25 = .ok (.baload, 1) := dk_51 (dk_at dksX2_returnByte_1 3 rfl rfl)
theorem dX2_returnByte_26 : decode cX2_returnByte 26 = .ok (.iload_n 1, 1) := dk_27 (dk_at dksX2_returnByte_1 4 rfl rfl)
theorem dX2_returnByte_27 : decode cX2_returnByte 27 = .ok (.ixor, 1) := dk_130 (dk_at dksX2_returnByte_1 5 rfl rfl)
theorem dX2_returnByte_28 : decode cX2_returnByte 28 = .ok (.i2b, 1) := dk_145 (dk_at dksX2_returnByte_1 6 rfl rfl)
theorem dX2_returnByte_29 : decode cX2_returnByte 29 = .ok (.istore_n 2, 1) := dk_61 (dk_at dksX2_returnByte_1 7 rfl rfl)
theorem dX2_returnByte_30 : decode cX2_returnByte 30 = .ok (.aload_n 0, 1) := dk_42 (dk_at dksX2_returnByte_1 8 rfl rfl)
theorem dX2_returnByte_31 : decode cX2_returnByte 31 = .ok (.aload_n 0, 1) := dk_42 (dk_at dksX2_returnByte_1 9 rfl rfl)
theorem dX2_returnByte_32 : decode cX2_returnByte 32 = .ok (.getfield 12, 3) := dk_180 0 12 (dk_at dksX2_returnByte_1 10 rfl rfl)
theorem dX2_returnByte_35 : decode cX2_returnByte 35 = .ok (.iconst 1, 1) := dk_4 (dk_at dksX2_returnByte_1 13 rfl rfl)
theorem dX2_returnByte_36 : decode cX2_returnByte 36 = .ok (.iadd, 1) := dk_96 (dk_at dksX2_returnByte_1 14 rfl rfl)
theorem dX2_returnByte_37 : decode cX2_returnByte 37 = .ok (.bipush 63, 2) := dk_16 63 (dk_at dksX2_returnByte_1 15 rfl rfl)
theorem dX2_returnByte_39 : decode cX2_returnByte 39 = .ok (.iand, 1) := dk_126 (dk_at dksX2_returnByte_1 17 rfl rfl)
theorem dX2_returnByte_40 : decode cX2_returnByte 40 = .ok (.putfield 12, 3) := dk_181 0 12 (dk_at dksX2_returnByte_1 18 rfl rfl)
theorem dX2_returnByte_43 : decode cX2_returnByte 43 = .ok (.aload_n 0, 1) := dk_42 (dk_at dksX2_returnByte_1 21 rfl rfl)
theorem dX2_returnByte_44 : decode cX2_returnByte 44 = .ok (.getfield 12, 3) := dk_180 0 12 (dk_at dksX2_returnByte_2 0 rfl rfl)
theorem dX2_returnByte_47 : decode cX2_returnByte 47 = .ok (.ifCond .ne 15, 3) := dk_154 0 15 (dk_at dksX2_returnByte_2 3 rfl rfl)
theorem dX2_returnByte_50 : decode cX2_returnByte 50 = .ok (.aload_n 0, 1) := dk_42 (dk_at dksX2_returnByte_2 6 rfl rfl)
theorem dX2_returnByte_51 : decode cX2_returnByte 51 = .ok (.invokevirtual 81, 3) := dk_182 0 81 (dk_at dksX2_returnByte_2 7 rfl rfl)
theorem dX2_returnByte_54 : decode cX2_returnByte 54 = .ok (.aload_n 0, 1) := dk_42 (dk_at dksX2_returnByte_2 10 rfl rfl)
theorem dX2_returnByte_55 : decode cX2_returnByte 55 = .ok (.aload_n 0, 1) := dk_42 (dk_at dksX2_returnByte_2 11 rfl rfl)
theorem dX2_returnByte_56 : decode cX2_returnByte 56 = .ok (.getfield 23, 3) := dk_180 0 23 (dk_at dksX2_returnByte_2 12 rfl rfl)
theorem dX2_returnByte_59 : decode cX2_returnByte 59 = .ok (.invokevirtual 84, 3) := dk_182 0 84 (dk_at dksX2_returnByte_2 15 rfl rfl)
theorem dX2_returnByte_62 : decode cX2_returnByte 62 = .ok (.iload_n 2, 1) := dk_28 (dk_at dksX2_returnByte_2 18 rfl rfl)
theorem dX2_returnByte_63 : decode cX2_returnByte 63 = .ok (.ireturn, 1) := dk_172 (dk_at dksX2_returnByte_2 19 rfl rfl)
abbrev cX2_limitExceeded_2 : ByteArray := prog_10_method_14_code
def yX2_limitExceeded_2 : MethodName := ⟨RX2, "limitExceeded", "()Z"⟩
def dkwX2_limitExceeded_2_2 : List UInt8 := [167, 0, 4, 3, 172, 3, 172]
abbrev dktX2_limitExceeded_2_2 : List UInt8 := dkwX2_limitExceeded_2_2 ++ []
def dkwX2_limitExceeded_2_1 : List UInt8 := [181, 0, 138, 154, 0, 26, 42, 89, 180, 0, 141, 4, 96, 90, 181, 0, 141, 16, 32, 126, 153, 0, 7, 4]
abbrev dktX2_limitExceeded_2_1 : List UInt8 := dkwX2_limitExceeded_2_1 ++ dktX2_limitExceeded_2_2
def dkwX2_limitExceeded_2_0 : List UInt8 := [42, 89, 180, 0, 135, 4, 96, 90, 181, 0, 135, 154, 0, 40, 42, 89, 180, 0, 138, 4, 96, 90]
abbrev dktX2_limitExceeded_2_0 : List UInt8 := dkwX2_limitExceeded_2_0 ++ dktX2_limitExceeded_2_1
theorem dksX2_limitExceeded_2_0 : cX2_limitExceeded_2.data.toList.drop 0 = dktX2_limitExceeded_2_0 := by decide +kernel
theorem dksX2_limitExceeded_2_1 : cX2_limitExceeded_2.data.toList.drop 22 = dktX2_limitExceeded_2_1 := dk_seg dksX2_limitExceeded_2_0 22 rfl rfl
theorem dksX2_limitExceeded_2_2 : cX2_limitExceeded_2.data.toList.drop 46 = dktX2_limitExceeded_2_2 := dk_seg dksX2_limitExceeded_2_1 24 rfl rfl
theorem dX2_limitExceeded_2_0 : decode cX2_limitExceeded_2 0 = .ok (.aload_n 0, 1) := dk_42 (dk_at dksX2_limitExceeded_2_0 0 rfl rfl)
theorem dX2_limitExceeded_2_1 : decode cX2_limitExceeded_2 1 = .ok (.dup, 1) := dk_89 (dk_at dksX2_limitExceeded_2_0 1 rfl rfl)
theorem dX2_limitExceeded_2_2 : decode cX2_limitExceeded_2 2 = .ok (.getfield 135, 3) := dk_180 0 135 (dk_at dksX2_limitExceeded_2_0 2 rfl rfl)
theorem dX2_limitExceeded_2_5 : decode cX2_limitExceeded_2 5 = .ok (.iconst 1, 1) := dk_4 (dk_at dksX2_limitExceeded_2_0 5 rfl rfl)
theorem dX2_limitExceeded_2_6 : decode cX2_limitExceeded_2 6 = .ok (.iadd, 1) := dk_96 (dk_at dksX2_limitExceeded_2_0 6 rfl rfl)
theorem dX2_limitExceeded_2_7 : decode cX2_limitExceeded_2 7 = .ok (.dup_x1, 1) := dk_90 (dk_at dksX2_limitExceeded_2_0 7 rfl rfl)
theorem dX2_limitExceeded_2_8 : decode cX2_limitExceeded_2 8 = .ok (.putfield 135, 3) := dk_181 0 135 (dk_at dksX2_limitExceeded_2_0 8 rfl rfl)
theorem dX2_limitExceeded_2_11 : decode cX2_limitExceeded_2 11 = .ok (.ifCond .ne 40, 3) := dk_154 0 40 (dk_at dksX2_limitExceeded_2_0 11 rfl rfl)
theorem dX2_limitExceeded_2_14 : decode cX2_limitExceeded_2 14 = .ok (.aload_n 0, 1) := dk_42 (dk_at dksX2_limitExceeded_2_0 14 rfl rfl)
theorem dX2_limitExceeded_2_15 : decode cX2_limitExceeded_2 15 = .ok (.dup, 1) := dk_89 (dk_at dksX2_limitExceeded_2_0 15 rfl rfl)
theorem dX2_limitExceeded_2_16 : decode cX2_limitExceeded_2 16 = .ok (.getfield 138, 3) := dk_180 0 138 (dk_at dksX2_limitExceeded_2_0 16 rfl rfl)
theorem dX2_limitExceeded_2_19 : decode cX2_limitExceeded_2 19 = .ok (.iconst 1, 1) := dk_4 (dk_at dksX2_limitExceeded_2_0 19 rfl rfl)
theorem dX2_limitExceeded_2_20 : decode cX2_limitExceeded_2 20 = .ok (.iadd, 1) := dk_96 (dk_at dksX2_limitExceeded_2_0 20 rfl rfl)
theorem dX2_limitExceeded_2_21 : decode cX2_limitExceeded_2 21 = .ok (.dup_x1, 1) := dk_90 (dk_at dksX2_limitExceeded_2_0 21 rfl rfl)
theorem dX2_limitExceeded_2_22 : decode cX2_limitExceeded_2 22 = .ok (.putfield 138, 3) := dk_181 0 138 (dk_at dksX2_limitExceeded_2_1 0 rfl rfl)
theorem dX2_limitExceeded_2_25 : decode cX2_limitExceeded_2 25 = .ok (.ifCond .ne 26, 3) := dk_154 0 26 (dk_at dksX2_limitExceeded_2_1 3 rfl rfl)
theorem dX2_limitExceeded_2_28 : decode cX2_limitExceeded_2 28 = .ok (.aload_n 0, 1) := dk_42 (dk_at dksX2_limitExceeded_2_1 6 rfl rfl)
theorem dX2_limitExceeded_2_29 : decode cX2_limitExceeded_2 29 = .ok (.dup, 1) := dk_89 (dk_at dksX2_limitExceeded_2_1 7 rfl rfl)
theorem dX2_limitExceeded_2_30 : decode cX2_limitExceeded_2 30 = .ok (.getfield 141, 3) := dk_180 0 141 (dk_at dksX2_limitExceeded_2_1 8 rfl rfl)
theorem dX2_limitExceeded_2_33 : decode cX2_limitExceeded_2 33 = .ok (.iconst 1, 1) := dk_4 (dk_at dksX2_limitExceeded_2_1 11 rfl rfl)
theorem dX2_limitExceeded_2_34 : decode cX2_limitExceeded_2 34 = .ok (.iadd, 1) := dk_96 (dk_at dksX2_limitExceeded_2_1 12 rfl rfl)
theorem dX2_limitExceeded_2_35 : decode cX2_limitExceeded_2 35 = .ok (.dup_x1, 1) := dk_90 (dk_at dksX2_limitExceeded_2_1 13 rfl rfl)
theorem dX2_limitExceeded_2_36 : decode cX2_limitExceeded_2 36 = .ok (.putfield 141, 3) := dk_181 0 141 (dk_at dksX2_limitExceeded_2_1 14 rfl rfl)
theorem dX2_limitExceeded_2_39 : decode cX2_limitExceeded_2 39 = .ok (.bipush 32, 2) := dk_16 32 (dk_at dksX2_limitExceeded_2_1 17 rfl rfl)
theorem dX2_limitExceeded_2_41 : decode cX2_limitExceeded_2 41 = .ok (.iand, 1) := dk_126 (dk_at dksX2_limitExceeded_2_1 19 rfl rfl)
theorem dX2_limitExceeded_2_42 : decode cX2_limitExceeded_2 42 = .ok (.ifCond .eq 7, 3) := dk_153 0 7 (dk_at dksX2_limitExceeded_2_1 20 rfl rfl)
theorem dX2_limitExceeded_2_45 : decode cX2_limitExceeded_2 45 = .ok (.iconst 1, 1) := dk_4 (dk_at dksX2_limitExceeded_2_1 23 rfl rfl)
theorem dX2_limitExceeded_2_46 : decode cX2_limitExceeded_2 46 = .ok (.goto 4, 3) := dk_167 0 4 (dk_at dksX2_limitExceeded_2_2 0 rfl rfl)
theorem dX2_limitExceeded_2_49 : decode cX2_limitExceeded_2 49 = .ok (.iconst 0, 1) := dk_3 (dk_at dksX2_limitExceeded_2_2 3 rfl rfl)
theorem dX2_limitExceeded_2_50 : decode cX2_limitExceeded_2 50 = .ok (.ireturn, 1) := dk_172 (dk_at dksX2_limitExceeded_2_2 4 rfl rfl)
theorem dX2_limitExceeded_2_51 : decode cX2_limitExceeded_2 51 = .ok (.iconst 0, 1) := dk_3 (dk_at dksX2_limitExceeded_2_2 5 rfl rfl)
theorem dX2_limitExceeded_2_52 : decode cX2_limitExceeded_2 52 = .ok (.ireturn, 1) := dk_172 (dk_at dksX2_limitExceeded_2_2 6 rfl rfl)
abbrev cX2_reset : ByteArray := prog_10_method_8_code
def yX2_reset : MethodName := ⟨RX2, "reset", "()V"⟩
def dkwX2_reset_0 : List UInt8 := [42, 3, 181, 0, 12, 42, 182, 0, 103, 42, 182, 0, 106, 42, 42, 180, 0, 23, 182, 0, 84, 177]
abbrev dktX2_reset_0 : List UInt8 := dkwX2_reset_0 ++ []
theorem dksX2_reset_0 : cX2_reset.data.toList.drop 0 = dktX2_reset_0 := by decide +kernel
theorem dX2_reset_0 : decode cX2_reset 0 = .ok (.aload_n 0, 1) := dk_42 (dk_at dksX2_reset_0 0 rfl rfl)
theorem dX2_reset_1 : decode cX2_reset 1 = .ok (.iconst 0, 1) := dk_3 (dk_at dksX2_reset_0 1 rfl rfl)
theorem dX2_reset_2 : decode cX2_reset 2 = .ok (.putfield 12, 3) := dk_181 0 12 (dk_at dksX2_reset_0 2 rfl rfl)
theorem dX2_reset_5 : decode cX2_reset 5 = .ok (.aload_n 0, 1) := dk_42 (dk_at dksX2_reset_0 5 rfl rfl)
theorem dX2_reset_6 : decode cX2_reset 6 = .ok (.invokevirtual 103, 3) := dk_182 0 103 (dk_at dksX2_reset_0 6 rfl rfl)
theorem dX2_reset_9 : decode cX2_reset 9 = .ok (.aload_n 0, 1) := dk_42 (dk_at dksX2_reset_0 9 rfl rfl)
theorem dX2_reset_10 : decode cX2_reset 10 = .ok (.invokevirtual 106, 3) := dk_182 0 106 (dk_at dksX2_reset_0 10 rfl rfl)
theorem dX2_reset_13 : decode cX2_reset 13 = .ok (.aload_n 0, 1) := dk_42 (dk_at dksX2_reset_0 13 rfl rfl)
theorem dX2_reset_14 : decode cX2_reset 14 = .ok (.aload_n 0, 1) := dk_42 (dk_at dksX2_reset_0 14 rfl rfl)
theorem dX2_reset_15 : decode cX2_reset 15 = .ok (.getfield 23, 3) := dk_180 0 23 (dk_at dksX2_reset_0 15 rfl rfl)
theorem dX2_reset_18 : decode cX2_reset 18 = .ok (.invokevirtual 84, 3) := dk_182 0 84 (dk_at dksX2_reset_0 18 rfl rfl)
theorem dX2_reset_21 : decode cX2_reset 21 = .ok (.return_, 1) := dk_177 (dk_at dksX2_reset_0 21 rfl rfl)
abbrev cX2_resetLimitCounter : ByteArray := prog_10_method_13_code
def yX2_resetLimitCounter : MethodName := ⟨RX2, "resetLimitCounter", "()V"⟩
def dkwX2_resetLimitCounter_0 : List UInt8 := [42, 3, 181, 0, 135, 42, 3, 181, 0, 138, 42, 3, 181, 0, 141, 177]
abbrev dktX2_resetLimitCounter_0 : List UInt8 := dkwX2_resetLimitCounter_0 ++ []
theorem dksX2_resetLimitCounter_0 : cX2_resetLimitCounter.data.toList.drop 0 = dktX2_resetLimitCounter_0 := by decide +kernel
theorem dX2_resetLimitCounter_0 : decode cX2_resetLimitCounter 0 = .ok (.aload_n 0, 1) := dk_42 (dk_at dksX2_resetLimitCounter_0 0 rfl rfl)
theorem dX2_resetLimitCounter_1 : decode cX2_resetLimitCounter 1 = .ok (.iconst 0, 1) := dk_3 (dk_at dksX2_resetLimitCounter_0 1 rfl rfl)
theorem dX2_resetLimitCounter_2 : decode cX2_resetLimitCounter 2 = .ok (.putfield 135, 3) := dk_181 0 135 (dk_at dksX2_resetLimitCounter_0 2 rfl rfl)
theorem dX2_resetLimitCounter_5 : decode cX2_resetLimitCounter 5 = .ok (.aload_n 0, 1) := dk_42 (dk_at dksX2_resetLimitCounter_0 5 rfl rfl)
theorem dX2_resetLimitCounter_6 : decode cX2_resetLimitCounter 6 = .ok (.iconst 0, 1) := dk_3 (dk_at dksX2_resetLimitCounter_0 6 rfl rfl)
theorem dX2_resetLimitCounter_7 : decode cX2_resetLimitCounter 7 = .ok (.putfield 138, 3) := dk_181 0 138 (dk_at dksX2_resetLimitCounter_0 7 rfl rfl)
theorem dX2_resetLimitCounter_10 : decode cX2_resetLimitCounter 10 = .ok (.aload_n 0, 1) := dk_42 (dk_at dksX2_resetLimitCounter_0 10 rfl rfl)
theorem dX2_resetLimitCounter_11 : decode cX2_resetLimitCounter 11 = .ok (.iconst 0, 1) := dk_3 (dk_at dksX2_resetLimitCounter_0 11 rfl rfl)
theorem dX2_resetLimitCounter_12 : decode cX2_resetLimitCounter 12 = .ok (.putfield 141, 3) := dk_181 0 141 (dk_at dksX2_resetLimitCounter_0 12 rfl rfl)
theorem dX2_resetLimitCounter_15 : decode cX2_resetLimitCounter 15 = .ok (.return_, 1) := dk_177 (dk_at dksX2_resetLimitCounter_0 15 rfl rfl)
abbrev cX2_resetCounter : ByteArray := prog_10_method_9_code
def yX2_resetCounter : MethodName := ⟨RX2, "resetCounter", "()V"⟩
def dkwX2_resetCounter_0 : List UInt8 := [42, 180, 0, 16, 16, 8, 42, 180, 0, 16, 16, 9, 3, 91, 79, 79, 177]
abbrev dktX2_resetCounter_0 : List UInt8 := dkwX2_resetCounter_0 ++ []
theorem dksX2_resetCounter_0 : cX2_resetCounter.data.toList.drop 0 = dktX2_resetCounter_0 := by decide +kernel
theorem dX2_resetCounter_0 : decode cX2_resetCounter 0 = .ok (.aload_n 0, 1) := dk_42 (dk_at dksX2_resetCounter_0 0 rfl rfl)
theorem dX2_resetCounter_1 : decode cX2_resetCounter 1 = .ok (.getfield 16, 3) := dk_180 0 16 (dk_at dksX2_resetCounter_0 1 rfl rfl)
theorem dX2_resetCounter_4 : decode cX2_resetCounter 4 = .ok (.bipush 8, 2) := dk_16 8 (dk_at dksX2_resetCounter_0 4 rfl rfl)
theorem dX2_resetCounter_6 : decode cX2_resetCounter 6 = .ok (.aload_n 0, 1) := dk_42 (dk_at dksX2_resetCounter_0 6 rfl rfl)
theorem dX2_resetCounter_7 : decode cX2_resetCounter 7 = .ok (.getfield 16, 3) := dk_180 0 16 (dk_at dksX2_resetCounter_0 7 rfl rfl)
theorem dX2_resetCounter_10 : decode cX2_resetCounter 10 = .ok (.bipush 9, 2) := dk_16 9 (dk_at dksX2_resetCounter_0 10 rfl rfl)
theorem dX2_resetCounter_12 : decode cX2_resetCounter 12 = .ok (.iconst 0, 1) := dk_3 (dk_at dksX2_resetCounter_0 12 rfl rfl)
theorem dX2_resetCounter_13 : decode cX2_resetCounter 13 = .ok (.dup_x2, 1) := dk_91 (dk_at dksX2_resetCounter_0 13 rfl rfl)
theorem dX2_resetCounter_14 : decode cX2_resetCounter 14 = .ok (.iastore, 1) := dk_79 (dk_at dksX2_resetCounter_0 14 rfl rfl)
theorem dX2_resetCounter_15 : decode cX2_resetCounter 15 = .ok (.iastore, 1) := dk_79 (dk_at dksX2_resetCounter_0 15 rfl rfl)
theorem dX2_resetCounter_16 : decode cX2_resetCounter 16 = .ok (.return_, 1) := dk_177 (dk_at dksX2_resetCounter_0 16 rfl rfl)
abbrev cX2_init : ByteArray := prog_10_method_1_code
def yX2_init : MethodName := ⟨RX2, "<init>", "()V"⟩
def dkwX2_init_0 : List UInt8 := [42, 16, 20, 183, 0, 3, 177]
abbrev dktX2_init_0 : List UInt8 := dkwX2_init_0 ++ []
theorem dksX2_init_0 : cX2_init.data.toList.drop 0 = dktX2_init_0 := by decide +kernel
theorem dX2_init_0 : decode cX2_init 0 = .ok (.aload_n 0, 1) := dk_42 (dk_at dksX2_init_0 0 rfl rfl)
theorem dX2_init_1 : decode cX2_init 1 = .ok (.bipush 20, 2) := dk_16 20 (dk_at dksX2_init_0 1 rfl rfl)
theorem dX2_init_3 : decode cX2_init 3 = .ok (.invokespecial 3, 3) := dk_183 0 3 (dk_at dksX2_init_0 3 rfl rfl)
theorem dX2_init_6 : decode cX2_init 6 = .ok (.return_, 1) := dk_177 (dk_at dksX2_init_0 6 rfl rfl)
abbrev cX2_init_2 : ByteArray := prog_10_method_2_code
def yX2_init_2 : MethodName := ⟨RX2, "<init>", "(I)V"⟩
def dkwX2_init_2_2 : List UInt8 := [153, 0, 13, 187, 0, 31, 89, 18, 33, 183, 0, 35, 191, 42, 27, 181, 0, 38, 177]
abbrev dktX2_init_2_2 : List UInt8 := dkwX2_init_2_2 ++ []
def dkwX2_init_2_1 : List UInt8 := [181, 0, 20, 42, 16, 64, 188, 8, 181, 0, 23, 42, 3, 181, 0, 27, 27, 158, 0, 9, 27, 4, 126]
abbrev dktX2_init_2_1 : List UInt8 := dkwX2_init_2_1 ++ dktX2_init_2_2
def dkwX2_init_2_0 : List UInt8 := [42, 183, 0, 7, 42, 3, 181, 0, 12, 42, 16, 16, 188, 10, 181, 0, 16, 42, 16, 16, 188, 10]
abbrev dktX2_init_2_0 : List UInt8 := dkwX2_init_2_0 ++ dktX2_init_2_1
theorem dksX2_init_2_0 : cX2_init_2.data.toList.drop 0 = dktX2_init_2_0 := by decide +kernel
theorem dksX2_init_2_1 : cX2_init_2.data.toList.drop 22 = dktX2_init_2_1 := dk_seg dksX2_init_2_0 22 rfl rfl
theorem dksX2_init_2_2 : cX2_init_2.data.toList.drop 45 = dktX2_init_2_2 := dk_seg dksX2_init_2_1 23 rfl rfl
theorem dX2_init_2_0 : decode cX2_init_2 0 = .ok (.aload_n 0, 1) := dk_42 (dk_at dksX2_init_2_0 0 rfl rfl)
theorem dX2_init_2_1 : decode cX2_init_2 1 = .ok (.invokespecial 7, 3) := dk_183 0 7 (dk_at dksX2_init_2_0 1 rfl rfl)
theorem dX2_init_2_4 : decode cX2_init_2 4 = .ok (.aload_n 0, 1) := dk_42 (dk_at dksX2_init_2_0 4 rfl rfl)
theorem dX2_init_2_5 : decode cX2_init_2 5 = .ok (.iconst 0, 1) := dk_3 (dk_at dksX2_init_2_0 5 rfl rfl)
theorem dX2_init_2_6 : decode cX2_init_2 6 = .ok (.putfield 12, 3) := dk_181 0 12 (dk_at dksX2_init_2_0 6 rfl rfl)
theorem dX2_init_2_9 : decode cX2_init_2 9 = .ok (.aload_n 0, 1) := dk_42 (dk_at dksX2_init_2_0 9 rfl rfl)
theorem dX2_init_2_10 : decode cX2_init_2 10 = .ok (.bipush 16, 2) := dk_16 16 (dk_at dksX2_init_2_0 10 rfl rfl)
theorem dX2_init_2_12 : decode cX2_init_2 12 = .ok (.newarray .int, 2) := dk_188_10 (dk_at dksX2_init_2_0 12 rfl rfl)
theorem dX2_init_2_14 : decode cX2_init_2 14 = .ok (.putfield 16, 3) := dk_181 0 16 (dk_at dksX2_init_2_0 14 rfl rfl)
theorem dX2_init_2_17 : decode cX2_init_2 17 = .ok (.aload_n 0, 1) := dk_42 (dk_at dksX2_init_2_0 17 rfl rfl)
theorem dX2_init_2_18 : decode cX2_init_2 18 = .ok (.bipush 16, 2) := dk_16 16 (dk_at dksX2_init_2_0 18 rfl rfl)
theorem dX2_init_2_20 : decode cX2_init_2 20 = .ok (.newarray .int, 2) := dk_188_10 (dk_at dksX2_init_2_0 20 rfl rfl)
theorem dX2_init_2_22 : decode cX2_init_2 22 = .ok (.putfield 20, 3) := dk_181 0 20 (dk_at dksX2_init_2_1 0 rfl rfl)
theorem dX2_init_2_25 : decode cX2_init_2 25 = .ok (.aload_n 0, 1) := dk_42 (dk_at dksX2_init_2_1 3 rfl rfl)
theorem dX2_init_2_26 : decode cX2_init_2 26 = .ok (.bipush 64, 2) := dk_16 64 (dk_at dksX2_init_2_1 4 rfl rfl)
theorem dX2_init_2_28 : decode cX2_init_2 28 = .ok (.newarray .byte, 2) := dk_188_8 (dk_at dksX2_init_2_1 6 rfl rfl)
theorem dX2_init_2_30 : decode cX2_init_2 30 = .ok (.putfield 23, 3) := dk_181 0 23 (dk_at dksX2_init_2_1 8 rfl rfl)
theorem dX2_init_2_33 : decode cX2_init_2 33 = .ok (.aload_n 0, 1) := dk_42 (dk_at dksX2_init_2_1 11 rfl rfl)
theorem dX2_init_2_34 : decode cX2_init_2 34 = .ok (.iconst 0, 1) := dk_3 (dk_at dksX2_init_2_1 12 rfl rfl)
theorem dX2_init_2_35 : decode cX2_init_2 35 = .ok (.putfield 27, 3) := dk_181 0 27 (dk_at dksX2_init_2_1 13 rfl rfl)
theorem dX2_init_2_38 : decode cX2_init_2 38 = .ok (.iload_n 1, 1) := dk_27 (dk_at dksX2_init_2_1 16 rfl rfl)
theorem dX2_init_2_39 : decode cX2_init_2 39 = .ok (.ifCond .le 9, 3) := dk_158 0 9 (dk_at dksX2_init_2_1 17 rfl rfl)
theorem dX2_init_2_42 : decode cX2_init_2 42 = .ok (.iload_n 1, 1) := dk_27 (dk_at dksX2_init_2_1 20 rfl rfl)
theorem dX2_init_2_43 : decode cX2_init_2 43 = .ok (.iconst 1, 1) := dk_4 (dk_at dksX2_init_2_1 21 rfl rfl)
theorem dX2_init_2_44 : decode cX2_init_2 44 = .ok (.iand, 1) := dk_126 (dk_at dksX2_init_2_1 22 rfl rfl)
theorem dX2_init_2_45 : decode cX2_init_2 45 = .ok (.ifCond .eq 13, 3) := dk_153 0 13 (dk_at dksX2_init_2_2 0 rfl rfl)
theorem dX2_init_2_48 : decode cX2_init_2 48 = .ok (.new 31, 3) := dk_187 0 31 (dk_at dksX2_init_2_2 3 rfl rfl)
theorem dX2_init_2_51 : decode cX2_init_2 51 = .ok (.dup, 1) := dk_89 (dk_at dksX2_init_2_2 6 rfl rfl)
theorem dX2_init_2_52 : decode cX2_init_2 52 = .ok (.ldc 33, 2) := dk_18 33 (dk_at dksX2_init_2_2 7 rfl rfl)
theorem dX2_init_2_54 : decode cX2_init_2 54 = .ok (.invokespecial 35, 3) := dk_183 0 35 (dk_at dksX2_init_2_2 9 rfl rfl)
theorem dX2_init_2_57 : decode cX2_init_2 57 = .ok (.athrow, 1) := dk_191 (dk_at dksX2_init_2_2 12 rfl rfl)
theorem dX2_init_2_58 : decode cX2_init_2 58 = .ok (.aload_n 0, 1) := dk_42 (dk_at dksX2_init_2_2 13 rfl rfl)
theorem dX2_init_2_59 : decode cX2_init_2 59 = .ok (.iload_n 1, 1) := dk_27 (dk_at dksX2_init_2_2 14 rfl rfl)
theorem dX2_init_2_60 : decode cX2_init_2 60 = .ok (.putfield 38, 3) := dk_181 0 38 (dk_at dksX2_init_2_2 15 rfl rfl)
theorem dX2_init_2_63 : decode cX2_init_2 63 = .ok (.return_, 1) := dk_177 (dk_at dksX2_init_2_2 18 rfl rfl)
abbrev cX2_init_3 : ByteArray := prog_10_method_3_code
def yX2_init_3 : MethodName := ⟨RX2, "init", "(ZLCipherParameters;)V"⟩
def dkwX2_init_3_5 : List UInt8 := [167, 0, 13, 187, 0, 31, 89, 18, 43, 183, 0, 35, 191, 42, 182, 0, 69, 42, 4, 181, 0, 27, 177]
abbrev dktX2_init_3_5 : List UInt8 := dkwX2_init_3_5 ++ []
def dkwX2_init_3_4 : List UInt8 := [193, 0, 64, 153, 0, 24, 25, 5, 192, 0, 64, 182, 0, 66, 58, 6, 42, 25, 6, 25, 4, 182, 0, 60]
abbrev dktX2_init_3_4 : List UInt8 := dkwX2_init_3_4 ++ dktX2_init_3_5
def dkwX2_init_3_3 : List UInt8 := [187, 0, 57, 89, 18, 43, 183, 0, 59, 191, 42, 1, 25, 4, 182, 0, 60, 167, 0, 42, 25, 5]
abbrev dktX2_init_3_3 : List UInt8 := dkwX2_init_3_3 ++ dktX2_init_3_4
def dkwX2_init_3_2 : List UInt8 := [18, 43, 183, 0, 35, 191, 45, 182, 0, 53, 58, 5, 25, 5, 199, 0, 30, 42, 180, 0, 27, 154, 0, 13]
abbrev dktX2_init_3_2 : List UInt8 := dkwX2_init_3_2 ++ dktX2_init_3_3
def dkwX2_init_3_1 : List UInt8 := [182, 0, 45, 58, 4, 25, 4, 198, 0, 13, 25, 4, 190, 42, 182, 0, 49, 159, 0, 13, 187, 0, 31, 89]
abbrev dktX2_init_3_1 : List UInt8 := dkwX2_init_3_1 ++ dktX2_init_3_2
def dkwX2_init_3_0 : List UInt8 := [44, 193, 0, 41, 154, 0, 13, 187, 0, 31, 89, 18, 43, 183, 0, 35, 191, 44, 192, 0, 41, 78, 45]
abbrev dktX2_init_3_0 : List UInt8 := dkwX2_init_3_0 ++ dktX2_init_3_1
theorem dksX2_init_3_0 : cX2_init_3.data.toList.drop 0 = dktX2_init_3_0 := by decide +kernel
theorem dksX2_init_3_1 : cX2_init_3.data.toList.drop 23 = dktX2_init_3_1 := dk_seg dksX2_init_3_0 23 rfl rfl
theorem dksX2_init_3_2 : cX2_init_3.data.toList.drop 47 = dktX2_init_3_2 := dk_seg dksX2_init_3_1 24 rfl rfl
theorem dksX2_init_3_3 : cX2_init_3.data.toList.drop 71 = dktX2_init_3_3 := dk_seg dksX2_init_3_2 24 rfl rfl
theorem dksX2_init_3_4 : cX2_init_3.data.toList.drop 93 = dktX2_init_3_4 := dk_seg dksX2_init_3_3 22 rfl rfl
theorem dksX2_init_3_5 : cX2_init_3.data.toList.drop 117 = dktX2_init_3_5 := dk_seg dksX2_init_3_4 24 rfl rfl
theorem dX2_init_3_0 : decode cX2_init_3 0 = .ok (.aload_n 2, 1) := dk_44 (dk_at dksX2_init_3_0 0 rfl rfl)
theorem dX2_init_3_1 : decode cX2_init_3 1 = .ok (.instanceof 41, 3) := dk_193 0 41 (dk_at dksX2_init_3_0 1 rfl rfl)
theorem dX2_init_3_4 : decode cX2_init_3 4 = .ok (.ifCond .ne 13, 3) := dk_154 0 13 (dk_at dksX2_init_3_0 4 rfl rfl)
theorem dX2_init_3_7 : decode cX2_init_3 7 = .ok (.new 31, 3) := dk_187 0 31 (dk_at dksX2_init_3_0 7 rfl rfl)
theorem dX2_init_3_10 : decode cX2_init_3 10 = .ok (.dup, 1) := dk_89 (dk_at dksX2_init_3_0 10 rfl rfl)
theorem dX2_init_3_11 : decode cX2_init_3 11 = .ok (.ldc 43, 2) := dk_18 43 (dk_at dksX2_init_3_0 11 rfl rfl)
theorem dX2_init_3_13 : decode cX2_init_3 13 = .ok (.invokespecial 35, 3) := dk_183 0 35 (dk_at dksX2_init_3_0 13 rfl rfl)
theorem dX2_init_3_16 : decode cX2_init_3 16 = .ok (.athrow, 1) := dk_191 (dk_at dksX2_init_3_0 16 rfl rfl)
theorem dX2_init_3_17 : decode cX2_init_3 17 = .ok (.aload_n 2, 1) := dk_44 (dk_at dksX2_init_3_0 17 rfl rfl)
theorem dX2_init_3_18 : decode cX2_init_3 18 = .ok (.checkcast 41, 3) := dk_192 0 41 (dk_at dksX2_init_3_0 18 rfl rfl)
theorem dX2_init_3_21 : decode cX2_init_3 21 = .ok (.astore_n 3, 1) := dk_78 (dk_at dksX2_init_3_0 21 rfl rfl)
theorem dX2_init_3_22 : decode cX2_init_3 22 = .ok (.aload_n 3, 1) := dk_45 (dk_at dksX2_init_3_0 22 rfl rfl)
theorem dX2_init_3_23 : decode cX2_init_3 23 = .ok (.invokevirtual 45, 3) := dk_182 0 45 (dk_at dksX2_init_3_1 0 rfl rfl)
theorem dX2_init_3_26 : decode cX2_init_3 26 = .ok (.astore 4, 2) := dk_58 4 (dk_at dksX2_init_3_1 3 rfl rfl)
theorem dX2_init_3_28 : decode cX2_init_3 28 = .ok (.aload 4, 2) := dk_25 4 (dk_at dksX2_init_3_1 5 rfl rfl)
theorem dX2_init_3_30 : decode cX2_init_3 30 = .ok (.ifnull 13, 3) := dk_198 0 13 (dk_at dksX2_init_3_1 7 rfl rfl)
theorem dX2_init_3_33 : decode cX2_init_3 33 = .ok (.aload 4, 2) := dk_25 4 (dk_at dksX2_init_3_1 10 rfl rfl)
theorem dX2_init_3_35 : decode cX2_init_3 35 = .ok (.arraylength, 1) := dk_190 (dk_at dksX2_init_3_1 12 rfl rfl)
theorem dX2_init_3_36 : decode cX2_init_3 36 = .ok (.aload_n 0, 1) := dk_42 (dk_at dksX2_init_3_1 13 rfl rfl)
theorem dX2_init_3_37 : decode cX2_init_3 37 = .ok (.invokevirtual 49, 3) := dk_182 0 49 (dk_at dksX2_init_3_1 14 rfl rfl)
theorem dX2_init_3_40 : decode cX2_init_3 40 = .ok (.if_icmp .eq 13, 3) := dk_159 0 13 (dk_at dksX2_init_3_1 17 rfl rfl)
theorem dX2_init_3_43 : decode cX2_init_3 43 = .ok (.new 31, 3) := dk_187 0 31 (dk_at dksX2_init_3_1 20 rfl rfl)
theorem dX2_init_3_46 : decode cX2_init_3 46 = .ok (.dup, 1) := dk_89 (dk_at dksX2_init_3_1 23 rfl rfl)
theorem dX2_init_3_47 : decode cX2_init_3 47 = .ok (.ldc 43, 2) := dk_18 43 (dk_at dksX2_init_3_2 0 rfl rfl)
theorem dX2_init_3_49 : decode cX2_init_3 49 = .ok (.invokespecial 35, 3) := dk_183 0 35 (dk_at dksX2_init_3_2 2 rfl rfl)
theorem dX2_init_3_52 : decode cX2_init_3 52 = .ok (.athrow, 1) := dk_191 (dk_at dksX2_init_3_2 5 rfl rfl)
theorem dX2_init_3_53 : decode cX2_init_3 53 = .ok (.aload_n 3, 1) := dk_45 (dk_at dksX2_init_3_2 6 rfl rfl)
theorem dX2_init_3_54 : decode cX2_init_3 54 = .ok (.invokevirtual 53, 3) := dk_182 0 53 (dk_at dksX2_init_3_2 7 rfl rfl)
theorem dX2_init_3_57 : decode cX2_init_3 57 = .ok (.astore 5, 2) := dk_58 5 (dk_at dksX2_init_3_2 10 rfl rfl)
theorem dX2_init_3_59 : decode cX2_init_3 59 = .ok (.aload 5, 2) := dk_25 5 (dk_at dksX2_init_3_2 12 rfl rfl)
theorem dX2_init_3_61 : decode cX2_init_3 61 = .ok (.ifnonnull 30, 3) := dk_199 0 30 (dk_at dksX2_init_3_2 14 rfl rfl)
theorem dX2_init_3_64 : decode cX2_init_3 64 = .ok (.aload_n 0, 1) := dk_42 (dk_at dksX2_init_3_2 17 rfl rfl)
theorem dX2_init_3_65 : decode cX2_init_3 65 = .ok (.getfield 27, 3) := dk_180 0 27 (dk_at dksX2_init_3_2 18 rfl rfl)
theorem dX2_init_3_68 : decode cX2_init_3 68 = .ok (.ifCond .ne 13, 3) := dk_154 0 13 (dk_at dksX2_init_3_2 21 rfl rfl)
theorem dX2_init_3_71 : decode cX2_init_3 71 = .ok (.new 57, 3) := dk_187 0 57 (dk_at dksX2_init_3_3 0 rfl rfl)
theorem dX2_init_3_74 : decode cX2_init_3 74 = .ok (.dup, 1) := dk_89 (dk_at dksX2_init_3_3 3 rfl rfl)
theorem dX2_init_3_75 : decode cX2_init_3 75 = .ok (.ldc 43, 2) := dk_18 43 (dk_at dksX2_init_3_3 4 rfl rfl)
theorem dX2_init_3_77 : decode cX2_init_3 77 = .ok (.invokespecial 59, 3) := dk_183 0 59 (dk_at dksX2_init_3_3 6 rfl rfl)
theorem dX2_init_3_80 : decode cX2_init_3 80 = .ok (.athrow, 1) := dk_191 (dk_at dksX2_init_3_3 9 rfl rfl)
theorem dX2_init_3_81 : decode cX2_init_3 81 = .ok (.aload_n 0, 1) := dk_42 (dk_at dksX2_init_3_3 10 rfl rfl)
theorem dX2_init_3_82 : decode cX2_init_3 82 = .ok (.aconst_null, 1) := dk_1 (dk_at dksX2_init_3_3 11 rfl rfl)
theorem dX2_init_3_83 : decode cX2_init_3 83 = .ok (.aload 4, 2) := dk_25 4 (dk_at dksX2_init_3_3 12 rfl rfl)
theorem dX2_init_3_85 : decode cX2_init_3 85 = .ok (.invokevirtual 60, 3) := dk_182 0 60 (dk_at dksX2_init_3_3 14 rfl rfl)
theorem dX2_init_3_88 : decode cX2_init_3 88 = .ok (.goto 42, 3) := dk_167 0 42 (dk_at dksX2_init_3_3 17 rfl rfl)
theorem dX2_init_3_91 : decode cX2_init_3 91 = .ok (.aload 5, 2) := dk_25 5 (dk_at dksX2_init_3_3 20 rfl rfl)
theorem dX2_init_3_93 : decode cX2_init_3 93 = .ok (.instanceof 64, 3) := dk_193 0 64 (dk_at dksX2_init_3_4 0 rfl rfl)
theorem dX2_init_3_96 : decode cX2_init_3 96 = .ok (.ifCond .eq 24, 3) := dk_153 0 24 (dk_at dksX2_init_3_4 3 rfl rfl)
theorem dX2_init_3_99 : decode cX2_init_3 99 = .ok (.aload 5, 2) := dk_25 5 (dk_at dksX2_init_3_4 6 rfl rfl)
theorem dX2_init_3_101 : decode cX2_init_3 101 = .ok (.checkcast 64, 3) := dk_192 0 64 (dk_at dksX2_init_3_4 8 rfl rfl)
theorem dX2_init_3_104 : decode cX2_init_3 104 = .ok (.invokevirtual 66, 3) := dk_182 0 66 (dk_at dksX2_init_3_4 11 rfl rfl)
theorem dX2_init_3_107 : decode cX2_init_3 107 = .ok (.astore 6, 2) := dk_58 6 (dk_at dksX2_init_3_4 14 rfl rfl)
theorem dX2_init_3_109 : decode cX2_init_3 109 = .ok (.aload_n 0, 1) := dk_42 (dk_at dksX2_init_3_4 16 rfl rfl)
theorem dX2_init_3_110 : decode cX2_init_3 110 = .ok (.aload 6, 2) := dk_25 6 (dk_at dksX2_init_3_4 17 rfl rfl)
theorem dX2_init_3_112 : decode cX2_init_3 112 = .ok (.aload 4, 2) := dk_25 4 (dk_at dksX2_init_3_4 19 rfl rfl)
theorem dX2_init_3_114 : decode cX2_init_3 114 = .ok (.invokevirtual 60, 3) := dk_182 0 60 (dk_at dksX2_init_3_4 21 rfl rfl)
theorem dX2_init_3_117 : decode cX2_init_3 117 = .ok (.goto 13, 3) := dk_167 0 13 (dk_at dksX2_init_3_5 0 rfl rfl)
theorem dX2_init_3_120 : decode cX2_init_3 120 = .ok (.new 31, 3) := dk_187 0 31 (dk_at dksX2_init_3_5 3 rfl rfl)
theorem dX2_init_3_123 : decode cX2_init_3 123 = .ok (.dup, 1) := dk_89 (dk_at dksX2_init_3_5 6 rfl rfl)
theorem dX2_init_3_124 : decode cX2_init_3 124 = .ok (.ldc 43, 2) := dk_18 43 (dk_at dksX2_init_3_5 7 rfl rfl)
theorem dX2_init_3_126 : decode cX2_init_3 126 = .ok (.invokespecial 35, 3) := dk_183 0 35 (dk_at dksX2_init_3_5 9 rfl rfl)
theorem dX2_init_3_129 : decode cX2_init_3 129 = .ok (.athrow, 1) := dk_191 (dk_at dksX2_init_3_5 12 rfl rfl)
theorem dX2_init_3_130 : decode cX2_init_3 130 = .ok (.aload_n 0, 1) := dk_42 (dk_at dksX2_init_3_5 13 rfl rfl)
theorem dX2_init_3_131 : decode cX2_init_3 131 = .ok (.invokevirtual 69, 3) := dk_182 0 69 (dk_at dksX2_init_3_5 14 rfl rfl)
theorem dX2_init_3_134 : decode cX2_init_3 134 = .ok (.aload_n 0, 1) := dk_42 (dk_at dksX2_init_3_5 17 rfl rfl)
theorem dX2_init_3_135 : decode cX2_init_3 135 = .ok (.iconst 1, 1) := dk_4 (dk_at dksX2_init_3_5 18 rfl rfl)
theorem dX2_init_3_136 : decode cX2_init_3 136 = .ok (.putfield 27, 3) := dk_181 0 27 (dk_at dksX2_init_3_5 19 rfl rfl)
theorem dX2_init_3_139 : decode cX2_init_3 139 = .ok (.return_, 1) := dk_177 (dk_at dksX2_init_3_5 22 rfl rfl)
abbrev cX2_getNonceSize : ByteArray := prog_10_method_4_code
def yX2_getNonceSize : MethodName := ⟨RX2, "getNonceSize", "()I"⟩
theorem dX2_getNonceSize_0 : decode cX2_getNonceSize 0 = .ok (.bipush 8, 2) := by decide +kernel
theorem dX2_getNonceSize_2 : decode cX2_getNonceSize 2 = .ok (.ireturn, 1) := by decide +kernel
abbrev cX2_setKey : ByteArray := prog_10_method_10_code
def yX2_setKey : MethodName := ⟨RX2, "setKey", "([B[B)V"⟩
def dkwX2_setKey_5 : List UInt8 := [180, 0, 16, 16, 6, 5, 184, 0, 112, 177]
abbrev dktX2_setKey_5 : List UInt8 := dkwX2_setKey_5 ++ []
def dkwX2_setKey_4 : List UInt8 := [184, 0, 112, 43, 43, 190, 16, 16, 100, 42, 180, 0, 16, 16, 11, 7, 184, 0, 112, 44, 3, 42]
abbrev dktX2_setKey_4 : List UInt8 := dkwX2_setKey_4 ++ dktX2_setKey_5
def dkwX2_setKey_3 : List UInt8 := [46, 79, 42, 180, 0, 16, 16, 15, 178, 0, 109, 29, 6, 96, 46, 79, 43, 3, 42, 180, 0, 16, 4, 7]
abbrev dktX2_setKey_3 : List UInt8 := dkwX2_setKey_3 ++ dktX2_setKey_4
def dkwX2_setKey_2 : List UInt8 := [180, 0, 16, 8, 178, 0, 109, 29, 4, 96, 46, 79, 42, 180, 0, 16, 16, 10, 178, 0, 109, 29, 5, 96]
abbrev dktX2_setKey_2 : List UInt8 := dkwX2_setKey_2 ++ dktX2_setKey_3
def dkwX2_setKey_1 : List UInt8 := [183, 0, 35, 191, 43, 190, 16, 16, 100, 7, 108, 62, 42, 180, 0, 16, 3, 178, 0, 109, 29, 46, 79, 42]
abbrev dktX2_setKey_1 : List UInt8 := dkwX2_setKey_1 ++ dktX2_setKey_2
def dkwX2_setKey_0 : List UInt8 := [43, 198, 0, 114, 43, 190, 16, 16, 159, 0, 20, 43, 190, 16, 32, 159, 0, 13, 187, 0, 31, 89, 18, 43]
abbrev dktX2_setKey_0 : List UInt8 := dkwX2_setKey_0 ++ dktX2_setKey_1
theorem dksX2_setKey_0 : cX2_setKey.data.toList.drop 0 = dktX2_setKey_0 := by decide +kernel
theorem dksX2_setKey_1 : cX2_setKey.data.toList.drop 24 = dktX2_setKey_1 := dk_seg dksX2_setKey_0 24 rfl rfl
theorem dksX2_setKey_2 : cX2_setKey.data.toList.drop 48 = dktX2_setKey_2 := dk_seg dksX2_setKey_1 24 rfl rfl
theorem dksX2_setKey_3 : cX2_setKey.data.toList.drop 72 = dktX2_setKey_3 := dk_seg dksX2_setKey_2 24 rfl rfl
theorem dksX2_setKey_4 : cX2_setKey.data.toList.drop 96 = dktX2_setKey_4 := dk_seg dksX2_setKey_3 24 rfl rfl
theorem dksX2_setKey_5 : cX2_setKey.data.toList.drop 118 = dktX2_setKey_5 := dk_seg dksX2_setKey_4 22 rfl rfl
theorem dX2_setKey_0 : decode cX2_setKey 0 = .ok (.aload_n 1, 1) := dk_43 (dk_at dksX2_setKey_0 0 rfl rfl)
theorem dX2_setKey_1 : decode cX2_setKey 1 = .ok (.ifnull 114, 3) := dk_198 0 114 (dk_at dksX2_setKey_0 1 rfl rfl)
theorem dX2_setKey_4 : decode cX2_setKey 4 = .ok (.aload_n 1, 1) := dk_43 (dk_at dksX2_setKey_0 4 rfl rfl)
theorem dX2_setKey_5 : decode cX2_setKey 5 = .ok (.arraylength, 1) := dk_190 (dk_at dksX2_setKey_0 5 rfl rfl)
theorem dX2_setKey_6 : decode cX2_setKey 6 = .ok (.bipush 16, 2) := dk_16 16 (dk_at dksX2_setKey_0 6 rfl rfl)
theorem dX2_setKey_8 : decode cX2_setKey 8 = .ok (.if_icmp .eq 20, 3) := dk_159 0 20 (dk_at dksX2_setKey_0 8 rfl rfl)
theorem dX2_setKey_11 : decode cX2_setKey 11 = .ok (.aload_n 1, 1) := dk_43 (dk_at dksX2_setKey_0 11 rfl rfl)
theorem dX2_setKey_12 : decode cX2_setKey 12 = .ok (.arraylength, 1) := dk_190 (dk_at dksX2_setKey_0 12 rfl rfl)
theorem dX2_setKey_13 : decode cX2_setKey 13 = .ok (.bipush 32, 2) := dk_16 32 (dk_at dksX2_setKey_0 13 rfl rfl)
theorem dX2_setKey_15 : decode cX2_setKey 15 = .ok (.if_icmp .eq 13, 3) := dk_159 0 13 (dk_at dksX2_setKey_0 15 rfl rfl)
theorem dX2_setKey_18 : decode cX2_setKey 18 = .ok (.new 31, 3) := dk_187 0 31 (dk_at dksX2_setKey_0 18 rfl rfl)
theorem dX2_setKey_21 : decode cX2_setKey 21 = .ok (.dup, 1) := dk_89 (dk_at dksX2_setKey_0 21 rfl rfl)
theorem dX2_setKey_22 : decode cX2_setKey 22 = .ok (.ldc 43, 2) := dk_18 43 (dk_at dksX2_setKey_0 22 rfl rfl)
theorem dX2_setKey_24 : decode cX2_setKey 24 = .ok (.invokespecial 35, 3) := dk_183 0 35 (dk_at dksX2_setKey_1 0 rfl rfl)
theorem dX2_setKey_27 : decode cX2_setKey 27 = .ok (.athrow, 1) := dk_191 (dk_at dksX2_setKey_1 3 rfl rfl)
theorem dX2_setKey_28 : decode cX2_setKey 28 = .ok (.aload_n 1, 1) := dk_43 (dk_at dksX2_setKey_1 4 rfl rfl)
theorem dX2_setKey_29 : decode cX2_setKey 29 = .ok (.arraylength, 1) := dk_190 (dk_at dksX2_setKey_1 5 rfl rfl)
theorem dX2_setKey_30 : decode cX2_setKey 30 = .ok (.bipush 16, 2) := dk_16 16 (dk_at dksX2_setKey_1 6 rfl rfl)
theorem dX2_setKey_32 : decode cX2_setKey 32 = .ok (.isub, 1) := dk_100 (dk_at dksX2_setKey_1 8 rfl rfl)
theorem dX2_setKey_33 : decode cX2_setKey 33 = .ok (.iconst 4, 1) := dk_7 (dk_at dksX2_setKey_1 9 rfl rfl)
theorem dX2_setKey_34 : decode cX2_setKey 34 = .ok (.idiv, 1) := dk_108 (dk_at dksX2_setKey_1 10 rfl rfl)
theorem dX2_setKey_35 : decode cX2_setKey 35 = .ok (.istore_n 3, 1) := dk_62 (dk_at dksX2_setKey_1 11 rfl rfl)
theorem dX2_setKey_36 : decode cX2_setKey 36 = .ok (.aload_n 0, 1) := dk_42 (dk_at dksX2_setKey_1 12 rfl rfl)
theorem dX2_setKey_37 : decode cX2_setKey 37 = .ok (.getfield 16, 3) := dk_180 0 16 (dk_at dksX2_setKey_1 13 rfl rfl)
theorem dX2_setKey_40 : decode cX2_setKey 40 = .ok (.iconst 0, 1) := dk_3 (dk_at dksX2_setKey_1 16 rfl rfl)
theorem dX2_setKey_41 : decode cX2_setKey 41 = .ok (.getstatic 109, 3) := dk_178 0 109 (dk_at dksX2_setKey_1 17 rfl rfl)
theorem dX2_setKey_44 : decode cX2_setKey 44 = .ok (.iload_n 3, 1) := dk_29 (dk_at dksX2_setKey_1 20 rfl rfl)
theorem dX2_setKey_45 : decode cX2_setKey 45 = .ok (.iaload, 1) := dk_46 (dk_at dksX2_setKey_1 21 rfl rfl)
theorem dX2_setKey_46 : decode cX2_setKey 46 = .ok (.iastore, 1) := dk_79 (dk_at dksX2_setKey_1 22 rfl rfl)
theorem dX2_setKey_47 : decode cX2_setKey 47 = .ok (.aload_n 0, 1) := dk_42 (dk_at dksX2_setKey_1 23 rfl rfl)
theorem dX2_setKey_48 : decode cX2_setKey 48 = .ok (.getfield 16, 3) := dk_180 0 16 (dk_at dksX2_setKey_2 0 rfl rfl)
theorem dX2_setKey_51 : decode cX2_setKey 51 = .ok (.iconst 5, 1) := dk_8 (dk_at dksX2_setKey_2 3 rfl rfl)
theorem dX2_setKey_52 : decode cX2_setKey 52 = .ok (.getstatic 109, 3) := dk_178 0 109 (dk_at dksX2_setKey_2 4 rfl rfl)
theorem dX2_setKey_55 : decode cX2_setKey 55 = .ok (.iload_n 3, 1) := dk_29 (dk_at dksX2_setKey_2 7 rfl rfl)
theorem dX2_setKey_56 : decode cX2_setKey 56 = .ok (.iconst 1, 1) := dk_4 (dk_at dksX2_setKey_2 8 rfl rfl)
theorem dX2_setKey_57 : decode cX2_setKey 57 = .ok (.iadd, 1) := dk_96 (dk_at dksX2_setKey_2 9 rfl rfl)
theorem dX2_setKey_58 : decode cX2_setKey 58 = .ok (.iaload, 1) := dk_46 (dk_at dksX2_setKey_2 10 rfl rfl)
theorem dX2_setKey_59 : decode cX2_setKey 59 = .ok (.iastore, 1) := dk_79 (dk_at dksX2_setKey_2 11 rfl rfl)
theorem dX2_setKey_60 : decode cX2_setKey 60 = .ok (.aload_n 0, 1) := dk_42 (dk_at dksX2_setKey_2 12 rfl rfl)
theorem dX2_setKey_61 : decode cX2_setKey 61 = .ok (.getfield 16, 3) := dk_180 0 16 (dk_at dksX2_setKey_2 13 rfl rfl)
theorem dX2_setKey_64 : decode cX2_setKey 64 = .ok (.bipush 10, 2) := dk_16 10 (dk_at dksX2_setKey_2 16 rfl rfl)
theorem dX2_setKey_66 : decode cX2_setKey 66 = .ok (.getstatic 109, 3) := dk_178 0 109 (dk_at dksX2_setKey_2 18 rfl rfl)
theorem dX2_setKey_69 : decode cX2_setKey 69 = .ok (.iload_n 3, 1) := dk_29 (dk_at dksX2_setKey_2 21 rfl rfl)
theorem dX2_setKey_70 : decode cX2_setKey 70 = .ok (.iconst 2, 1) := dk_5 (dk_at dksX2_setKey_2 22 rfl rfl)
theorem dX2_setKey_71 : decode cX2_setKey 71 = .ok (.iadd, 1) := dk_96 (dk_at dksX2_setKey_2 23 rfl rfl)
theorem dX2_setKey_72 : decode cX2_setKey 72 = .ok (.iaload, 1) := dk_46 (dk_at dksX2_setKey_3 0 rfl rfl)
theorem dX2_setKey_73 : decode cX2_setKey 73 = .ok (.iastore, 1) := dk_79 (dk_at dksX2_setKey_3 1 rfl rfl)
theorem dX2_setKey_74 : decode cX2_setKey 74 = .ok (.aload_n 0, 1) := dk_42 (dk_at dksX2_setKey_3 2 rfl rfl)
theorem dX2_setKey_75 : decode cX2_setKey 75 = .ok (.getfield 16, 3) := dk_180 0 16 (dk_at dksX2_setKey_3 3 rfl rfl)
theorem dX2_setKey_78 : decode cX2_setKey 78 = .ok (.bipush 15, 2) := dk_16 15 (dk_at dksX2_setKey_3 6 rfl rfl)
theorem dX2_setKey_80 : decode cX2_setKey 80 = .ok (.getstatic 109, 3) := dk_178 0 109 (dk_at dksX2_setKey_3 8 rfl rfl)
theorem dX2_setKey_83 : decode cX2_setKey 83 = .ok (.iload_n 3, 1) := dk_29 (dk_at dksX2_setKey_3 11 rfl rfl)
theorem dX2_setKey_84 : decode cX2_setKey 84 = .ok (.iconst 3, 1) := dk_6 (dk_at dksX2_setKey_3 12 rfl rfl)
theorem dX2_setKey_85 : decode cX2_setKey 85 = .ok (.iadd, 1) := dk_96 (dk_at dksX2_setKey_3 13 rfl rfl)
theorem dX2_setKey_86 : decode cX2_setKey 86 = .ok (.iaload, 1) := dk_46 (dk_at dksX2_setKey_3 14 rfl rfl)
theorem dX2_setKey_87 : decode cX2_setKey 87 = .ok (.iastore, 1) := dk_79 (dk_at dksX2_setKey_3 15 rfl rfl)
theorem dX2_setKey_88 : decode cX2_setKey 88 = .ok (.aload_n 1, 1) := dk_43 (dk_at dksX2_setKey_3 16 rfl rfl)
theorem dX2_setKey_89 : decode cX2_setKey 89 = .ok (.iconst 0, 1) := dk_3 (dk_at dksX2_setKey_3 17 rfl rfl)
theorem dX2_setKey_90 : decode cX2_setKey 90 = .ok (.aload_n 0, 1) := dk_42 (dk_at dksX2_setKey_3 18 rfl rfl)
theorem dX2_setKey_91 : decode cX2_setKey 91 = .ok (.getfield 16, 3) := dk_180 0 16 (dk_at dksX2_setKey_3 19 rfl rfl)
theorem dX2_setKey_94 : decode cX2_setKey 94 = .ok (.iconst 1, 1) := dk_4 (dk_at dksX2_setKey_3 22 rfl rfl)
theorem dX2_setKey_95 : decode cX2_setKey 95 = .ok (.iconst 4, 1) := dk_7 (dk_at dksX2_setKey_3 23 rfl rfl)
theorem dX2_setKey_96 : decode cX2_setKey 96 = .ok (.invokestatic 112, 3) := dk_184 0 112 (dk_at dksX2_setKey_4 0 rfl rfl)
theorem dX2_setKey_99 : decode cX2_setKey 99 = .ok (.aload_n 1, 1) := dk_43 (dk_at dksX2_setKey_4 3 rfl rfl)
theorem dX2_setKey_100 : decode cX2_setKey 100 = .ok (.aload_n 1, 1) := dk_43 (dk_at dksX2_setKey_4 4 rfl rfl)
theorem dX2_setKey_101 : decode cX2_setKey 101 = .ok (.arraylength, 1) := dk_190 (dk_at dksX2_setKey_4 5 rfl rfl)
theorem dX2_setKey_102 : decode cX2_setKey 102 = .ok (.bipush 16, 2) := dk_16 16 (dk_at dksX2_setKey_4 6 rfl rfl)
theorem dX2_setKey_104 : decode cX2_setKey 104 = .ok (.isub, 1) := dk_100 (dk_at dksX2_setKey_4 8 rfl rfl)
theorem dX2_setKey_105 : decode cX2_setKey 105 = .ok (.aload_n 0, 1) := dk_42 (dk_at dksX2_setKey_4 9 rfl rfl)
theorem dX2_setKey_106 : decode cX2_setKey 106 = .ok (.getfield 16, 3) := dk_180 0 16 (dk_at dksX2_setKey_4 10 rfl rfl)
theorem dX2_setKey_109 : decode cX2_setKey 109 = .ok (.bipush 11, 2) := dk_16 11 (dk_at dksX2_setKey_4 13 rfl rfl)
theorem dX2_setKey_111 : decode cX2_setKey 111 = .ok (.iconst 4, 1) := dk_7 (dk_at dksX2_setKey_4 15 rfl rfl)
theorem dX2_setKey_112 : decode cX2_setKey 112 = .ok (.invokestatic 112, 3) := dk_184 0 112 (dk_at dksX2_setKey_4 16 rfl rfl)
theorem dX2_setKey_115 : decode cX2_setKey 115 = .ok (.aload_n 2, 1) := dk_44 (dk_at dksX2_setKey_4 19 rfl rfl)
theorem dX2_setKey_116 : decode cX2_setKey 116 = .ok (.iconst 0, 1) := dk_3 (dk_at dksX2_setKey_4 20 rfl rfl)
theorem dX2_setKey_117 : decode cX2_setKey 117 = .ok (.aload_n 0, 1) := dk_42 (dk_at dksX2_setKey_4 21 rfl rfl)
theorem dX2_setKey_118 : decode cX2_setKey 118 = .ok (.getfield 16, 3) := dk_180 0 16 (dk_at dksX2_setKey_5 0 rfl rfl)
theorem dX2_setKey_121 : decode cX2_setKey 121 = .ok (.bipush 6, 2) := dk_16 6 (dk_at dksX2_setKey_5 3 rfl rfl)
theorem dX2_setKey_123 : decode cX2_setKey 123 = .ok (.iconst 2, 1) := dk_5 (dk_at dksX2_setKey_5 5 rfl rfl)
theorem dX2_setKey_124 : decode cX2_setKey 124 = .ok (.invokestatic 112, 3) := dk_184 0 112 (dk_at dksX2_setKey_5 6 rfl rfl)
theorem dX2_setKey_127 : decode cX2_setKey 127 = .ok (.return_, 1) := dk_177 (dk_at dksX2_setKey_5 9 rfl rfl)
theorem q8 : (Jvm.Cond.initialized "Salsa20Engine") ∈ lw_all := lw_g (lw_at lw_m1 2 rfl) rfl
theorem q39 : (Jvm.Cond.instanceMethod ({ cls := "Salsa20Engine", name := "processBytes", desc := "([BII[BI)I" } : Jvm.MethodName)) ∈ lw_all := lw_g (lw_at lw_m1 33 rfl) rfl
theorem q40 : (Jvm.Cond.selects "Salsa20Engine" ({ cls := "Salsa20Engine", name := "processBytes", desc := "([BII[BI)I" } : Jvm.MethodName) ({ cls := "Salsa20Engine", name := "processBytes", desc := "([BII[BI)I" } : Jvm.MethodName)) ∈ lw_all := lw_g (lw_at lw_m1 34 rfl) rfl
theorem q41 : (Jvm.Cond.code ({ cls := "Salsa20Engine", name := "processBytes", desc := "([BII[BI)I" } : Jvm.MethodName) prog_10_method_7_code (7 : Nat) (Option.some Jvm.ClassFile.FieldType.int)) ∈ lw_all := lw_g (lw_at lw_m1 35 rfl) rfl
theorem q42 : (Jvm.Cond.classLink "Salsa20Engine" (57 : Nat) "java/lang/IllegalStateException") ∈ lw_all := lw_g (lw_at lw_m1 36 rfl) rfl
theorem q87 : (Jvm.Cond.stringRef "Salsa20Engine" (43 : Nat) "left out") ∈ lw_tbl := lw_at lw_m1 81 rfl
theorem q88 : (Jvm.Cond.methodLink "Salsa20Engine" (59 : Nat) ({ cls := "java/lang/IllegalStateException", name := "<init>", desc := "(Ljava/lang/String;)V" } : Jvm.MethodName)) ∈ lw_all := lw_g (lw_at lw_m1 82 rfl) rfl
theorem q114 : (Jvm.Cond.classLink "Salsa20Engine" (88 : Nat) "DataLengthException") ∈ lw_all := lw_g (lw_at lw_m1 108 rfl) rfl
theorem q124 : (Jvm.Cond.stringRef "Salsa20Engine" (90 : Nat) "input buffer too short") ∈ lw_tbl := lw_at lw_m1 118 rfl
theorem q125 : (Jvm.Cond.methodLink "Salsa20Engine" (92 : Nat) ({ cls := "DataLengthException", name := "<init>", desc := "(Ljava/lang/String;)V" } : Jvm.MethodName)) ∈ lw_all := lw_g (lw_at lw_m1 119 rfl) rfl
theorem q134 : (Jvm.Cond.classLink "Salsa20Engine" (93 : Nat) "OutputLengthException") ∈ lw_all := lw_g (lw_at lw_m1 128 rfl) rfl
theorem q144 : (Jvm.Cond.stringRef "Salsa20Engine" (95 : Nat) "output buffer too short") ∈ lw_tbl := lw_at lw_m1 138 rfl
theorem q145 : (Jvm.Cond.methodLink "Salsa20Engine" (97 : Nat) ({ cls := "OutputLengthException", name := "<init>", desc := "(Ljava/lang/String;)V" } : Jvm.MethodName)) ∈ lw_all := lw_g (lw_at lw_m1 139 rfl) rfl
theorem q151 : (Jvm.Cond.methodLink "Salsa20Engine" (98 : Nat) ({ cls := "Salsa20Engine", name := "limitExceeded", desc := "(I)Z" } : Jvm.MethodName)) ∈ lw_all := lw_g (lw_at lw_m1 145 rfl) rfl
theorem q152 : (Jvm.Cond.privateMethod ({ cls := "Salsa20Engine", name := "limitExceeded", desc := "(I)Z" } : Jvm.MethodName)) ∈ lw_tbl := lw_at lw_m1 146 rfl
theorem q153 : (Jvm.Cond.instanceMethod ({ cls := "Salsa20Engine", name := "limitExceeded", desc := "(I)Z" } : Jvm.MethodName)) ∈ lw_all := lw_g (lw_at lw_m1 147 rfl) rfl
theorem q154 : (Jvm.Cond.instantiable "Salsa20Engine" (9 : Nat)) ∈ lw_all := lw_g (lw_at lw_m1 148 rfl) rfl
theorem q155 : (Jvm.Cond.code ({ cls := "Salsa20Engine", name := "limitExceeded", desc := "(I)Z" } : Jvm.MethodName) prog_10_method_15_code (2 : Nat) (Option.some Jvm.ClassFile.FieldType.boolean)) ∈ lw_all := lw_g (lw_at lw_m1 149 rfl) rfl
theorem q156 : (Jvm.Cond.classLink "Salsa20Engine" (76 : Nat) "MaxBytesExceededException") ∈ lw_all := lw_g (lw_at lw_m1 150 rfl) rfl
theorem q165 : (Jvm.Cond.stringRef "Salsa20Engine" (101 : Nat) "2^70 byte limit per IV would be exceeded; Change IV") ∈ lw_tbl := lw_at lw_m1 159 rfl
theorem q166 : (Jvm.Cond.methodLink "Salsa20Engine" (80 : Nat) ({ cls := "MaxBytesExceededException", name := "<init>", desc := "(Ljava/lang/String;)V" } : Jvm.MethodName)) ∈ lw_all := lw_g (lw_at lw_m1 160 rfl) rfl
theorem q172 : (Jvm.Cond.methodLink "Salsa20Engine" (81 : Nat) ({ cls := "Salsa20Engine", name := "advanceCounter", desc := "()V" } : Jvm.MethodName)) ∈ lw_all := lw_g (lw_at lw_m1 166 rfl) rfl
theorem q173 : (Jvm.Cond.instanceMethod ({ cls := "Salsa20Engine", name := "advanceCounter", desc := "()V" } : Jvm.MethodName)) ∈ lw_all := lw_g (lw_at lw_m1 167 rfl) rfl
theorem q174 : (Jvm.Cond.selects "Salsa20Engine" ({ cls := "Salsa20Engine", name := "advanceCounter", desc := "()V" } : Jvm.MethodName) ({ cls := "Salsa20Engine", name := "advanceCounter", desc := "()V" } : Jvm.MethodName)) ∈ lw_all := lw_g (lw_at lw_m1 168 rfl) rfl
theorem q175 : (Jvm.Cond.code ({ cls := "Salsa20Engine", name := "advanceCounter", desc := "()V" } : Jvm.MethodName) prog_10_method_6_code (1 : Nat) (Option.none : Option Jvm.ClassFile.FieldType)) ∈ lw_all := lw_g (lw_at lw_m1 169 rfl) rfl
theorem q176 : (Jvm.Cond.methodLink "Salsa20Engine" (84 : Nat) ({ cls := "Salsa20Engine", name := "generateKeyStream", desc := "([B)V" } : Jvm.MethodName)) ∈ lw_all := lw_g (lw_at lw_m1 170 rfl) rfl
theorem q177 : (Jvm.Cond.instanceMethod ({ cls := "Salsa20Engine", name := "generateKeyStream", desc := "([B)V" } : Jvm.MethodName)) ∈ lw_all := lw_g (lw_at lw_m1 171 rfl) rfl
theorem q178 : (Jvm.Cond.selects "Salsa20Engine" ({ cls := "Salsa20Engine", name := "generateKeyStream", desc := "([B)V" } : Jvm.MethodName) ({ cls := "Salsa20Engine", name := "generateKeyStream", desc := "([B)V" } : Jvm.MethodName)) ∈ lw_all := lw_g (lw_at lw_m1 172 rfl) rfl
theorem q179 : (Jvm.Cond.code ({ cls := "Salsa20Engine", name := "generateKeyStream", desc := "([B)V" } : Jvm.MethodName) prog_10_method_11_code (2 : Nat) (Option.none : Option Jvm.ClassFile.FieldType)) ∈ lw_all := lw_g (lw_at lw_m1 173 rfl) rfl
theorem q180 : (Jvm.Cond.methodLink "Salsa20Engine" (118 : Nat) ({ cls := "Salsa20Engine", name := "salsaCore", desc := "(I[I[I)V" } : Jvm.MethodName)) ∈ lw_all := lw_g (lw_at lw_m1 174 rfl) rfl
theorem q181 : (Jvm.Cond.static ({ cls := "Salsa20Engine", name := "salsaCore", desc := "(I[I[I)V" } : Jvm.MethodName)) ∈ lw_all := lw_g (lw_at lw_m1 175 rfl) rfl
theorem q182 : (Jvm.Cond.code ({ cls := "Salsa20Engine", name := "salsaCore", desc := "(I[I[I)V" } : Jvm.MethodName) prog_10_method_12_code (20 : Nat) (Option.none : Option Jvm.ClassFile.FieldType)) ∈ lw_all := lw_g (lw_at lw_m1 176 rfl) rfl
theorem q183 : (Jvm.Cond.classLink "Salsa20Engine" (31 : Nat) "java/lang/IllegalArgumentException") ∈ lw_all := lw_g (lw_at lw_m1 177 rfl) rfl
theorem q192 : (Jvm.Cond.methodLink "Salsa20Engine" (126 : Nat) ({ cls := "java/lang/IllegalArgumentException", name := "<init>", desc := "()V" } : Jvm.MethodName)) ∈ lw_all := lw_g (lw_at lw_m1 186 rfl) rfl
theorem q204 : (Jvm.Cond.stringRef "Salsa20Engine" (127 : Nat) "Number of rounds must be even") ∈ lw_tbl := lw_at lw_m1 198 rfl
theorem q205 : (Jvm.Cond.methodLink "Salsa20Engine" (35 : Nat) ({ cls := "java/lang/IllegalArgumentException", name := "<init>", desc := "(Ljava/lang/String;)V" } : Jvm.MethodName)) ∈ lw_all := lw_g (lw_at lw_m1 199 rfl) rfl
theorem q209 : (Jvm.Cond.methodLink "Salsa20Engine" (129 : Nat) ({ cls := "Integers", name := "rotateLeft", desc := "(II)I" } : Jvm.MethodName)) ∈ lw_all := lw_g (lw_at lw_m1 203 rfl) rfl
theorem q215 : (Jvm.Cond.methodLink "Salsa20Engine" (122 : Nat) ({ cls := "Pack", name := "intToLittleEndian", desc := "([I[BI)V" } : Jvm.MethodName)) ∈ lw_all := lw_g (lw_at lw_m1 209 rfl) rfl
theorem q226 : (Jvm.Cond.instanceMethod ({ cls := "Salsa20Engine", name := "returnByte", desc := "(B)B" } : Jvm.MethodName)) ∈ lw_all := lw_g (lw_at lw_m1 220 rfl) rfl
theorem q227 : (Jvm.Cond.selects "Salsa20Engine" ({ cls := "Salsa20Engine", name := "returnByte", desc := "(B)B" } : Jvm.MethodName) ({ cls := "Salsa20Engine", name := "returnByte", desc := "(B)B" } : Jvm.MethodName)) ∈ lw_all := lw_g (lw_at lw_m1 221 rfl) rfl
theorem q228 : (Jvm.Cond.code ({ cls := "Salsa20Engine", name := "returnByte", desc := "(B)B" } : Jvm.MethodName) prog_10_method_5_code (3 : Nat) (Option.some Jvm.ClassFile.FieldType.byte)) ∈ lw_all := lw_g (lw_at lw_m1 222 rfl) rfl
theorem q229 : (Jvm.Cond.methodLink "Salsa20Engine" (72 : Nat) ({ cls := "Salsa20Engine", name := "limitExceeded", desc := "()Z" } : Jvm.MethodName)) ∈ lw_all := lw_g (lw_at lw_m1 223 rfl) rfl
theorem q230 : (Jvm.Cond.privateMethod ({ cls := "Salsa20Engine", name := "limitExceeded", desc := "()Z" } : Jvm.MethodName)) ∈ lw_tbl := lw_at lw_m1 224 rfl
theorem q231 : (Jvm.Cond.instanceMethod ({ cls := "Salsa20Engine", name := "limitExceeded", desc := "()Z" } : Jvm.MethodName)) ∈ lw_all := lw_g (lw_at lw_m1 225 rfl) rfl
theorem q232 : (Jvm.Cond.code ({ cls := "Salsa20Engine", name := "limitExceeded", desc := "()Z" } : Jvm.MethodName) prog_10_method_14_code (1 : Nat) (Option.some Jvm.ClassFile.FieldType.boolean)) ∈ lw_all := lw_g (lw_at lw_m1 226 rfl) rfl
theorem q233 : (Jvm.Cond.stringRef "Salsa20Engine" (78 : Nat) "2^70 byte limit per IV; Change IV") ∈ lw_tbl := lw_at lw_m1 227 rfl
theorem q239 : (Jvm.Cond.instanceMethod ({ cls := "Salsa20Engine", name := "reset", desc := "()V" } : Jvm.MethodName)) ∈ lw_all := lw_g (lw_at lw_m1 233 rfl) rfl
theorem q240 : (Jvm.Cond.selects "Salsa20Engine" ({ cls := "Salsa20Engine", name := "reset", desc := "()V" } : Jvm.MethodName) ({ cls := "Salsa20Engine", name := "reset", desc := "()V" } : Jvm.MethodName)) ∈ lw_all := lw_g (lw_at lw_m1 234 rfl) rfl
theorem q241 : (Jvm.Cond.code ({ cls := "Salsa20Engine", name := "reset", desc := "()V" } : Jvm.MethodName) prog_10_method_8_code (1 : Nat) (Option.none : Option Jvm.ClassFile.FieldType)) ∈ lw_all := lw_g (lw_at lw_m1 235 rfl) rfl
theorem q242 : (Jvm.Cond.methodLink "Salsa20Engine" (103 : Nat) ({ cls := "Salsa20Engine", name := "resetLimitCounter", desc := "()V" } : Jvm.MethodName)) ∈ lw_all := lw_g (lw_at lw_m1 236 rfl) rfl
theorem q243 : (Jvm.Cond.privateMethod ({ cls := "Salsa20Engine", name := "resetLimitCounter", desc := "()V" } : Jvm.MethodName)) ∈ lw_tbl := lw_at lw_m1 237 rfl
theorem q244 : (Jvm.Cond.instanceMethod ({ cls := "Salsa20Engine", name := "resetLimitCounter", desc := "()V" } : Jvm.MethodName)) ∈ lw_all := lw_g (lw_at lw_m1 238 rfl) rfl
theorem q245 : (Jvm.Cond.code ({ cls := "Salsa20Engine", name := "resetLimitCounter", desc := "()V" } : Jvm.MethodName) prog_10_method_13_code (1 : Nat) (Option.none : Option Jvm.ClassFile.FieldType)) ∈ lw_all := lw_g (lw_at lw_m1 239 rfl) rfl
theorem q246 : (Jvm.Cond.methodLink "Salsa20Engine" (106 : Nat) ({ cls := "Salsa20Engine", name := "resetCounter", desc := "()V" } : Jvm.MethodName)) ∈ lw_all := lw_g (lw_at lw_m2 0 rfl) rfl
theorem q247 : (Jvm.Cond.instanceMethod ({ cls := "Salsa20Engine", name := "resetCounter", desc := "()V" } : Jvm.MethodName)) ∈ lw_all := lw_g (lw_at lw_m2 1 rfl) rfl
theorem q248 : (Jvm.Cond.selects "Salsa20Engine" ({ cls := "Salsa20Engine", name := "resetCounter", desc := "()V" } : Jvm.MethodName) ({ cls := "Salsa20Engine", name := "resetCounter", desc := "()V" } : Jvm.MethodName)) ∈ lw_all := lw_g (lw_at lw_m2 2 rfl) rfl
theorem q249 : (Jvm.Cond.code ({ cls := "Salsa20Engine", name := "resetCounter", desc := "()V" } : Jvm.MethodName) prog_10_method_9_code (1 : Nat) (Option.none : Option Jvm.ClassFile.FieldType)) ∈ lw_all := lw_g (lw_at lw_m2 3 rfl) rfl
theorem q267 : (Jvm.Cond.instanceMethod ({ cls := "Salsa20Engine", name := "<init>", desc := "()V" } : Jvm.MethodName)) ∈ lw_all := lw_g (lw_at lw_m2 21 rfl) rfl
theorem q268 : (Jvm.Cond.code ({ cls := "Salsa20Engine", name := "<init>", desc := "()V" } : Jvm.MethodName) prog_10_method_1_code (1 : Nat) (Option.none : Option Jvm.ClassFile.FieldType)) ∈ lw_all := lw_g (lw_at lw_m2 22 rfl) rfl
theorem q269 : (Jvm.Cond.methodLink "Salsa20Engine" (3 : Nat) ({ cls := "Salsa20Engine", name := "<init>", desc := "(I)V" } : Jvm.MethodName)) ∈ lw_all := lw_g (lw_at lw_m2 23 rfl) rfl
theorem q270 : (Jvm.Cond.instanceMethod ({ cls := "Salsa20Engine", name := "<init>", desc := "(I)V" } : Jvm.MethodName)) ∈ lw_all := lw_g (lw_at lw_m2 24 rfl) rfl
theorem q271 : (Jvm.Cond.code ({ cls := "Salsa20Engine", name := "<init>", desc := "(I)V" } : Jvm.MethodName) prog_10_method_2_code (2 : Nat) (Option.none : Option Jvm.ClassFile.FieldType)) ∈ lw_all := lw_g (lw_at lw_m2 25 rfl) rfl
theorem q272 : (Jvm.Cond.methodLink "Salsa20Engine" (7 : Nat) ({ cls := "java/lang/Object", name := "<init>", desc := "()V" } : Jvm.MethodName)) ∈ lw_all := lw_g (lw_at lw_m2 26 rfl) rfl
theorem q273 : (Jvm.Cond.stringRef "Salsa20Engine" (33 : Nat) "'rounds' must be a positive, even number") ∈ lw_tbl := lw_at lw_m2 27 rfl
theorem q274 : (Jvm.Cond.fieldLink "Salsa20Engine" (38 : Nat) "Salsa20Engine" "rounds" "I") ∈ lw_all := lw_g (lw_at lw_m2 28 rfl) rfl
theorem q275 : (Jvm.Cond.fieldLink "Salsa20Engine" (12 : Nat) "Salsa20Engine" "index" "I") ∈ lw_all := lw_g (lw_at lw_m2 29 rfl) rfl
theorem q276 : (Jvm.Cond.fieldLink "Salsa20Engine" (16 : Nat) "Salsa20Engine" "engineState" "[I") ∈ lw_all := lw_g (lw_at lw_m2 30 rfl) rfl
theorem q277 : (Jvm.Cond.fieldLink "Salsa20Engine" (20 : Nat) "Salsa20Engine" "x" "[I") ∈ lw_all := lw_g (lw_at lw_m2 31 rfl) rfl
theorem q278 : (Jvm.Cond.fieldLink "Salsa20Engine" (23 : Nat) "Salsa20Engine" "keyStream" "[B") ∈ lw_all := lw_g (lw_at lw_m2 32 rfl) rfl
theorem q279 : (Jvm.Cond.fieldLink "Salsa20Engine" (27 : Nat) "Salsa20Engine" "initialised" "Z") ∈ lw_all := lw_g (lw_at lw_m2 33 rfl) rfl
theorem q280 : (Jvm.Cond.fieldLink "Salsa20Engine" (135 : Nat) "Salsa20Engine" "cW0" "I") ∈ lw_all := lw_g (lw_at lw_m2 34 rfl) rfl
theorem q281 : (Jvm.Cond.fieldLink "Salsa20Engine" (138 : Nat) "Salsa20Engine" "cW1" "I") ∈ lw_all := lw_g (lw_at lw_m2 35 rfl) rfl
theorem q282 : (Jvm.Cond.fieldLink "Salsa20Engine" (141 : Nat) "Salsa20Engine" "cW2" "I") ∈ lw_all := lw_g (lw_at lw_m2 36 rfl) rfl
theorem q283 : (Jvm.Cond.lays "Salsa20Engine" "Salsa20Engine" "rounds" "I") ∈ lw_all := lw_g (lw_at lw_m2 37 rfl) rfl
theorem q284 : (Jvm.Cond.soleField "Salsa20Engine" "rounds") ∈ lw_all := lw_g (lw_at lw_m2 38 rfl) rfl
theorem q285 : (Jvm.Cond.lays "Salsa20Engine" "Salsa20Engine" "index" "I") ∈ lw_all := lw_g (lw_at lw_m2 39 rfl) rfl
theorem q286 : (Jvm.Cond.soleField "Salsa20Engine" "index") ∈ lw_all := lw_g (lw_at lw_m2 40 rfl) rfl
theorem q287 : (Jvm.Cond.lays "Salsa20Engine" "Salsa20Engine" "engineState" "[I") ∈ lw_all := lw_g (lw_at lw_m2 41 rfl) rfl
theorem q288 : (Jvm.Cond.soleField "Salsa20Engine" "engineState") ∈ lw_all := lw_g (lw_at lw_m2 42 rfl) rfl
theorem q289 : (Jvm.Cond.lays "Salsa20Engine" "Salsa20Engine" "x" "[I") ∈ lw_all := lw_g (lw_at lw_m2 43 rfl) rfl
theorem q290 : (Jvm.Cond.soleField "Salsa20Engine" "x") ∈ lw_all := lw_g (lw_at lw_m2 44 rfl) rfl
theorem q291 : (Jvm.Cond.lays "Salsa20Engine" "Salsa20Engine" "keyStream" "[B") ∈ lw_all := lw_g (lw_at lw_m2 45 rfl) rfl
theorem q292 : (Jvm.Cond.soleField "Salsa20Engine" "keyStream") ∈ lw_all := lw_g (lw_at lw_m2 46 rfl) rfl
theorem q293 : (Jvm.Cond.lays "Salsa20Engine" "Salsa20Engine" "initialised" "Z") ∈ lw_all := lw_g (lw_at lw_m2 47 rfl) rfl
theorem q294 : (Jvm.Cond.soleField "Salsa20Engine" "initialised") ∈ lw_all := lw_g (lw_at lw_m2 48 rfl) rfl
theorem q295 : (Jvm.Cond.lays "Salsa20Engine" "Salsa20Engine" "cW0" "I") ∈ lw_all := lw_g (lw_at lw_m2 49 rfl) rfl
theorem q296 : (Jvm.Cond.soleField "Salsa20Engine" "cW0") ∈ lw_all := lw_g (lw_at lw_m2 50 rfl) rfl
theorem q297 : (Jvm.Cond.lays "Salsa20Engine" "Salsa20Engine" "cW1" "I") ∈ lw_all := lw_g (lw_at lw_m2 51 rfl) rfl
theorem q298 : (Jvm.Cond.soleField "Salsa20Engine" "cW1") ∈ lw_all := lw_g (lw_at lw_m2 52 rfl) rfl
theorem q299 : (Jvm.Cond.lays "Salsa20Engine" "Salsa20Engine" "cW2" "I") ∈ lw_all := lw_g (lw_at lw_m2 53 rfl) rfl
theorem q300 : (Jvm.Cond.soleField "Salsa20Engine" "cW2") ∈ lw_all := lw_g (lw_at lw_m2 54 rfl) rfl
theorem q301 : (Jvm.Cond.superclass "Salsa20Engine" "java/lang/Object") ∈ lw_all := lw_g (lw_at lw_m2 55 rfl) rfl
theorem q388 : (Jvm.Cond.instanceMethod ({ cls := "Salsa20Engine", name := "init", desc := "(ZLCipherParameters;)V" } : Jvm.MethodName)) ∈ lw_all := lw_g (lw_at lw_m2 142 rfl) rfl
theorem q389 : (Jvm.Cond.selects "Salsa20Engine" ({ cls := "Salsa20Engine", name := "init", desc := "(ZLCipherParameters;)V" } : Jvm.MethodName) ({ cls := "Salsa20Engine", name := "init", desc := "(ZLCipherParameters;)V" } : Jvm.MethodName)) ∈ lw_all := lw_g (lw_at lw_m2 143 rfl) rfl
theorem q390 : (Jvm.Cond.code ({ cls := "Salsa20Engine", name := "init", desc := "(ZLCipherParameters;)V" } : Jvm.MethodName) prog_10_method_3_code (7 : Nat) (Option.none : Option Jvm.ClassFile.FieldType)) ∈ lw_all := lw_g (lw_at lw_m2 144 rfl) rfl
theorem q391 : (Jvm.Cond.classLink "Salsa20Engine" (41 : Nat) "ParametersWithIV") ∈ lw_all := lw_g (lw_at lw_m2 145 rfl) rfl
theorem q392 : (Jvm.Cond.methodLink "Salsa20Engine" (45 : Nat) ({ cls := "ParametersWithIV", name := "getIV", desc := "()[B" } : Jvm.MethodName)) ∈ lw_all := lw_g (lw_at lw_m2 146 rfl) rfl
theorem q396 : (Jvm.Cond.methodLink "Salsa20Engine" (49 : Nat) ({ cls := "Salsa20Engine", name := "getNonceSize", desc := "()I" } : Jvm.MethodName)) ∈ lw_all := lw_g (lw_at lw_m2 150 rfl) rfl
theorem q397 : (Jvm.Cond.instanceMethod ({ cls := "Salsa20Engine", name := "getNonceSize", desc := "()I" } : Jvm.MethodName)) ∈ lw_all := lw_g (lw_at lw_m2 151 rfl) rfl
theorem q398 : (Jvm.Cond.selects "Salsa20Engine" ({ cls := "Salsa20Engine", name := "getNonceSize", desc := "()I" } : Jvm.MethodName) ({ cls := "Salsa20Engine", name := "getNonceSize", desc := "()I" } : Jvm.MethodName)) ∈ lw_all := lw_g (lw_at lw_m2 152 rfl) rfl
theorem q399 : (Jvm.Cond.code ({ cls := "Salsa20Engine", name := "getNonceSize", desc := "()I" } : Jvm.MethodName) prog_10_method_4_code (1 : Nat) (Option.some Jvm.ClassFile.FieldType.int)) ∈ lw_all := lw_g (lw_at lw_m2 153 rfl) rfl
theorem q400 : (Jvm.Cond.methodLink "Salsa20Engine" (53 : Nat) ({ cls := "ParametersWithIV", name := "getParameters", desc := "()LCipherParameters;" } : Jvm.MethodName)) ∈ lw_all := lw_g (lw_at lw_m2 154 rfl) rfl
theorem q404 : (Jvm.Cond.methodLink "Salsa20Engine" (60 : Nat) ({ cls := "Salsa20Engine", name := "setKey", desc := "([B[B)V" } : Jvm.MethodName)) ∈ lw_all := lw_g (lw_at lw_m2 158 rfl) rfl
theorem q405 : (Jvm.Cond.instanceMethod ({ cls := "Salsa20Engine", name := "setKey", desc := "([B[B)V" } : Jvm.MethodName)) ∈ lw_all := lw_g (lw_at lw_m2 159 rfl) rfl
theorem q406 : (Jvm.Cond.selects "Salsa20Engine" ({ cls := "Salsa20Engine", name := "setKey", desc := "([B[B)V" } : Jvm.MethodName) ({ cls := "Salsa20Engine", name := "setKey", desc := "([B[B)V" } : Jvm.MethodName)) ∈ lw_all := lw_g (lw_at lw_m2 160 rfl) rfl
theorem q407 : (Jvm.Cond.code ({ cls := "Salsa20Engine", name := "setKey", desc := "([B[B)V" } : Jvm.MethodName) prog_10_method_10_code (4 : Nat) (Option.none : Option Jvm.ClassFile.FieldType)) ∈ lw_all := lw_g (lw_at lw_m2 161 rfl) rfl
theorem q408 : (Jvm.Cond.fieldLink "Salsa20Engine" (109 : Nat) "Salsa20Engine" "TAU_SIGMA" "[I") ∈ lw_all := lw_g (lw_at lw_m2 162 rfl) rfl
theorem q409 : (Jvm.Cond.laysStatic "Salsa20Engine" "TAU_SIGMA" "[I") ∈ lw_tbl := lw_at lw_m2 163 rfl
theorem q410 : (Jvm.Cond.methodLink "Salsa20Engine" (112 : Nat) ({ cls := "Pack", name := "littleEndianToInt", desc := "([BI[III)V" } : Jvm.MethodName)) ∈ lw_all := lw_g (lw_at lw_m2 164 rfl) rfl
theorem q416 : (Jvm.Cond.classLink "Salsa20Engine" (64 : Nat) "KeyParameter") ∈ lw_all := lw_g (lw_at lw_m2 170 rfl) rfl
theorem q417 : (Jvm.Cond.methodLink "Salsa20Engine" (66 : Nat) ({ cls := "KeyParameter", name := "getKey", desc := "()[B" } : Jvm.MethodName)) ∈ lw_all := lw_g (lw_at lw_m2 171 rfl) rfl
theorem q421 : (Jvm.Cond.methodLink "Salsa20Engine" (69 : Nat) ({ cls := "Salsa20Engine", name := "reset", desc := "()V" } : Jvm.MethodName)) ∈ lw_all := lw_g (lw_at lw_m2 175 rfl) rfl
theorem in_X2 : ∀ w ∈ wsX20, w ∈ lw_all := lw_in wsX20 [283, 285, 287, 289, 291, 293, 295, 297, 299] (by decide +kernel) (by decide +kernel)
end
section
/-! SalsaDeskLaw -/
set_option maxRecDepth 100000
def RX0 : String := "SalsaDeskLaw"
abbrev cX0_cell : ByteArray := method_2_code
def yX0_cell : MethodName := ⟨RX0, "cell", "([II)I"⟩
def dkwX0_cell_0 : List UInt8 := [27, 42, 190, 162, 0, 9, 42, 27, 46, 167, 0, 4, 3, 172]
abbrev dktX0_cell_0 : List UInt8 := dkwX0_cell_0 ++ []
theorem dksX0_cell_0 : cX0_cell.data.toList.drop 0 = dktX0_cell_0 := by decide +kernel
theorem dX0_cell_0 : decode cX0_cell 0 = .ok (.iload_n 1, 1) := dk_27 (dk_at dksX0_cell_0 0 rfl rfl)
theorem dX0_cell_1 : decode cX0_cell 1 = .ok (.aload_n 0, 1) := dk_42 (dk_at dksX0_cell_0 1 rfl rfl)
theorem dX0_cell_2 : decode cX0_cell 2 = .ok (.arraylength, 1) := dk_190 (dk_at dksX0_cell_0 2 rfl rfl)
theorem dX0_cell_3 : decode cX0_cell 3 = .ok (.if_icmp .ge 9, 3) := dk_162 0 9 (dk_at dksX0_cell_0 3 rfl rfl)
theorem dX0_cell_6 : decode cX0_cell 6 = .ok (.aload_n 0, 1) := dk_42 (dk_at dksX0_cell_0 6 rfl rfl)
theorem dX0_cell_7 : decode cX0_cell 7 = .ok (.iload_n 1, 1) := dk_27 (dk_at dksX0_cell_0 7 rfl rfl)
theorem dX0_cell_8 : decode cX0_cell 8 = .ok (.iaload, 1) := dk_46 (dk_at dksX0_cell_0 8 rfl rfl)
theorem dX0_cell_9 : decode cX0_cell 9 = .ok (.goto 4, 3) := dk_167 0 4 (dk_at dksX0_cell_0 9 rfl rfl)
theorem dX0_cell_12 : decode cX0_cell 12 = .ok (.iconst 0, 1) := dk_3 (dk_at dksX0_cell_0 12 rfl rfl)
theorem dX0_cell_13 : decode cX0_cell 13 = .ok (.ireturn, 1) := dk_172 (dk_at dksX0_cell_0 13 rfl rfl)
abbrev cX0_made : ByteArray := method_3_code
def yX0_made : MethodName := ⟨RX0, "made", "([I)LSalsaDesk;"⟩
def dkwX0_made_7 : List UInt8 := [16, 55, 184, 0, 10, 182, 0, 28, 43, 42, 16, 12, 184, 0, 10, 182, 0, 31, 43, 176]
abbrev dktX0_made_7 : List UInt8 := dkwX0_made_7 ++ []
def dkwX0_made_6 : List UInt8 := [182, 0, 28, 43, 4, 42, 16, 52, 184, 0, 10, 42, 16, 53, 184, 0, 10, 42, 16, 54, 184, 0, 10, 42]
abbrev dktX0_made_6 : List UInt8 := dkwX0_made_6 ++ dktX0_made_7
def dkwX0_made_5 : List UInt8 := [16, 8, 184, 0, 10, 42, 16, 9, 184, 0, 10, 42, 16, 10, 184, 0, 10, 42, 16, 11, 184, 0, 10]
abbrev dktX0_made_5 : List UInt8 := dkwX0_made_5 ++ dktX0_made_6
def dkwX0_made_4 : List UInt8 := [42, 8, 184, 0, 10, 42, 16, 6, 184, 0, 10, 42, 16, 7, 184, 0, 10, 182, 0, 24, 43, 3, 42]
abbrev dktX0_made_4 : List UInt8 := dkwX0_made_4 ++ dktX0_made_5
def dkwX0_made_3 : List UInt8 := [4, 184, 0, 10, 42, 5, 184, 0, 10, 42, 6, 184, 0, 10, 182, 0, 24, 43, 4, 42, 7, 184, 0, 10]
abbrev dktX0_made_3 : List UInt8 := dkwX0_made_3 ++ dktX0_made_4
def dkwX0_made_2 : List UInt8 := [132, 2, 4, 167, 255, 216, 43, 42, 16, 13, 184, 0, 10, 182, 0, 20, 43, 3, 42, 3, 184, 0, 10, 42]
abbrev dktX0_made_2 : List UInt8 := dkwX0_made_2 ++ dktX0_made_3
def dkwX0_made_1 : List UInt8 := [28, 4, 96, 184, 0, 10, 42, 28, 5, 96, 184, 0, 10, 42, 28, 6, 96, 184, 0, 10, 182, 0, 16, 87]
abbrev dktX0_made_1 : List UInt8 := dkwX0_made_1 ++ dktX0_made_2
def dkwX0_made_0 : List UInt8 := [187, 0, 7, 89, 183, 0, 9, 76, 16, 20, 61, 28, 16, 52, 162, 0, 40, 43, 42, 28, 184, 0, 10, 42]
abbrev dktX0_made_0 : List UInt8 := dkwX0_made_0 ++ dktX0_made_1
theorem dksX0_made_0 : cX0_made.data.toList.drop 0 = dktX0_made_0 := by decide +kernel
theorem dksX0_made_1 : cX0_made.data.toList.drop 24 = dktX0_made_1 := dk_seg dksX0_made_0 24 rfl rfl
theorem dksX0_made_2 : cX0_made.data.toList.drop 48 = dktX0_made_2 := dk_seg dksX0_made_1 24 rfl rfl
theorem dksX0_made_3 : cX0_made.data.toList.drop 72 = dktX0_made_3 := dk_seg dksX0_made_2 24 rfl rfl
theorem dksX0_made_4 : cX0_made.data.toList.drop 96 = dktX0_made_4 := dk_seg dksX0_made_3 24 rfl rfl
theorem dksX0_made_5 : cX0_made.data.toList.drop 119 = dktX0_made_5 := dk_seg dksX0_made_4 23 rfl rfl
theorem dksX0_made_6 : cX0_made.data.toList.drop 142 = dktX0_made_6 := dk_seg dksX0_made_5 23 rfl rfl
theorem dksX0_made_7 : cX0_made.data.toList.drop 166 = dktX0_made_7 := dk_seg dksX0_made_6 24 rfl rfl
theorem dX0_made_0 : decode cX0_made 0 = .ok (.new 7, 3) := dk_187 0 7 (dk_at dksX0_made_0 0 rfl rfl)
theorem dX0_made_3 : decode cX0_made 3 = .ok (.dup, 1) := dk_89 (dk_at dksX0_made_0 3 rfl rfl)
theorem dX0_made_4 : decode cX0_made 4 = .ok (.invokespecial 9, 3) := dk_183 0 9 (dk_at dksX0_made_0 4 rfl rfl)
theorem dX0_made_7 : decode cX0_made 7 = .ok (.astore_n 1, 1) := dk_76 (dk_at dksX0_made_0 7 rfl rfl)
theorem dX0_made_8 : decode cX0_made 8 = .ok (.bipush 20, 2) := dk_16 20 (dk_at dksX0_made_0 8 rfl rfl)
theorem dX0_made_10 : decode cX0_made 10 = .ok (.istore_n 2, 1) := dk_61 (dk_at dksX0_made_0 10 rfl rfl)
theorem dX0_made_11 : decode cX0_made 11 = .ok (.iload_n 2, 1) := dk_28 (dk_at dksX0_made_0 11 rfl rfl)
theorem dX0_made_12 : decode cX0_made 12 = .ok (.bipush 52, 2) := dk_16 52 (dk_at dksX0_made_0 12 rfl rfl)
theorem dX0_made_14 : decode cX0_made 14 = .ok (.if_icmp .ge 40, 3) := dk_162 0 40 (dk_at dksX0_made_0 14 rfl rfl)
theorem dX0_made_17 : decode cX0_made 17 = .ok (.aload_n 1, 1) := dk_43 (dk_at dksX0_made_0 17 rfl rfl)
theorem dX0_made_18 : decode cX0_made 18 = .ok (.aload_n 0, 1) := dk_42 (dk_at dksX0_made_0 18 rfl rfl)
theorem dX0_made_19 : decode cX0_made 19 = .ok (.iload_n 2, 1) := dk_28 (dk_at dksX0_made_0 19 rfl rfl)
theorem dX0_made_20 : decode cX0_made 20 = .ok (.invokestatic 10, 3) := dk_184 0 10 (dk_at dksX0_made_0 20 rfl rfl)
theorem dX0_made_23 : decode cX0_made 23 = .ok (.aload_n 0, 1) := dk_42 (dk_at dksX0_made_0 23 rfl rfl)
theorem dX0_made_24 : decode cX0_made 24 = .ok (.iload_n 2, 1) := dk_28 (dk_at dksX0_made_1 0 rfl rfl)
theorem dX0_made_25 : decode cX0_made 25 = .ok (.iconst 1, 1) := dk_4 (dk_at dksX0_made_1 1 rfl rfl)
theorem dX0_made_26 : decode cX0_made 26 = .ok (.iadd, 1) := dk_96 (dk_at dksX0_made_1 2 rfl rfl)
theorem dX0_made_27 : decode cX0_made 27 = .ok (.invokestatic 10, 3) := dk_184 0 10 (dk_at dksX0_made_1 3 rfl rfl)
theorem dX0_made_30 : decode cX0_made 30 = .ok (.aload_n 0, 1) := dk_42 (dk_at dksX0_made_1 6 rfl rfl)
theorem dX0_made_31 : decode cX0_made 31 = .ok (.iload_n 2, 1) := dk_28 (dk_at dksX0_made_1 7 rfl rfl)
theorem dX0_made_32 : decode cX0_made 32 = .ok (.iconst 2, 1) := dk_5 (dk_at dksX0_made_1 8 rfl rfl)
theorem dX0_made_33 : decode cX0_made 33 = .ok (.iadd, 1) := dk_96 (dk_at dksX0_made_1 9 rfl rfl)
theorem dX0_made_34 : decode cX0_made 34 = .ok (.invokestatic 10, 3) := dk_184 0 10 (dk_at dksX0_made_1 10 rfl rfl)
theorem dX0_made_37 : decode cX0_made 37 = .ok (.aload_n 0, 1) := dk_42 (dk_at dksX0_made_1 13 rfl rfl)
theorem dX0_made_38 : decode cX0_made 38 = .ok (.iload_n 2, 1) := dk_28 (dk_at dksX0_made_1 14 rfl rfl)
theorem dX0_made_39 : decode cX0_made 39 = .ok (.iconst 3, 1) := dk_6 (dk_at dksX0_made_1 15 rfl rfl)
theorem dX0_made_40 : decode cX0_made 40 = .ok (.iadd, 1) := dk_96 (dk_at dksX0_made_1 16 rfl rfl)
theorem dX0_made_41 : decode cX0_made 41 = .ok (.invokestatic 10, 3) := dk_184 0 10 (dk_at dksX0_made_1 17 rfl rfl)
theorem dX0_made_44 : decode cX0_made 44 = .ok (.invokevirtual 16, 3) := dk_182 0 16 (dk_at dksX0_made_1 20 rfl rfl)
theorem dX0_made_47 : decode cX0_made 47 = .ok (.pop, 1) := dk_87 (dk_at dksX0_made_1 23 rfl rfl)
theorem dX0_made_48 : decode cX0_made 48 = .ok (.iinc 2 4, 3) := dk_132 2 4 (dk_at dksX0_made_2 0 rfl rfl)
theorem dX0_made_51 : decode cX0_made 51 = .ok (.goto (-40), 3) := dk_167 255 216 (dk_at dksX0_made_2 3 rfl rfl)
theorem dX0_made_54 : decode cX0_made 54 = .ok (.aload_n 1, 1) := dk_43 (dk_at dksX0_made_2 6 rfl rfl)
theorem dX0_made_55 : decode cX0_made 55 = .ok (.aload_n 0, 1) := dk_42 (dk_at dksX0_made_2 7 rfl rfl)
theorem dX0_made_56 : decode cX0_made 56 = .ok (.bipush 13, 2) := dk_16 13 (dk_at dksX0_made_2 8 rfl rfl)
theorem dX0_made_58 : decode cX0_made 58 = .ok (.invokestatic 10, 3) := dk_184 0 10 (dk_at dksX0_made_2 10 rfl rfl)
theorem dX0_made_61 : decode cX0_made 61 = .ok (.invokevirtual 20, 3) := dk_182 0 20 (dk_at dksX0_made_2 13 rfl rfl)
theorem dX0_made_64 : decode cX0_made 64 = .ok (.aload_n 1, 1) := dk_43 (dk_at dksX0_made_2 16 rfl rfl)
theorem dX0_made_65 : decode cX0_made 65 = .ok (.iconst 0, 1) := dk_3 (dk_at dksX0_made_2 17 rfl rfl)
theorem dX0_made_66 : decode cX0_made 66 = .ok (.aload_n 0, 1) := dk_42 (dk_at dksX0_made_2 18 rfl rfl)
theorem dX0_made_67 : decode cX0_made 67 = .ok (.iconst 0, 1) := dk_3 (dk_at dksX0_made_2 19 rfl rfl)
theorem dX0_made_68 : decode cX0_made 68 = .ok (.invokestatic 10, 3) := dk_184 0 10 (dk_at dksX0_made_2 20 rfl rfl)
theorem dX0_made_71 : decode cX0_made 71 = .ok (.aload_n 0, 1) := dk_42 (dk_at dksX0_made_2 23 rfl rfl)
theorem dX0_made_72 : decode cX0_made 72 = .ok (.iconst 1, 1) := dk_4 (dk_at dksX0_made_3 0 rfl rfl)
theorem dX0_made_73 : decode cX0_made 73 = .ok (.invokestatic 10, 3) := dk_184 0 10 (dk_at dksX0_made_3 1 rfl rfl)
theorem dX0_made_76 : decode cX0_made 76 = .ok (.aload_n 0, 1) := dk_42 (dk_at dksX0_made_3 4 rfl rfl)
theorem dX0_made_77 : decode cX0_made 77 = .ok (.iconst 2, 1) := dk_5 (dk_at dksX0_made_3 5 rfl rfl)
theorem dX0_made_78 : decode cX0_made 78 = .ok (.invokestatic 10, 3) := dk_184 0 10 (dk_at dksX0_made_3 6 rfl rfl)
theorem dX0_made_81 : decode cX0_made 81 = .ok (.aload_n 0, 1) := dk_42 (dk_at dksX0_made_3 9 rfl rfl)
theorem dX0_made_82 : decode cX0_made 82 = .ok (.iconst 3, 1) := dk_6 (dk_at dksX0_made_3 10 rfl rfl)
theorem dX0_made_83 : decode cX0_made 83 = .ok (.invokestatic 10, 3) := dk_184 0 10 (dk_at dksX0_made_3 11 rfl rfl)
theorem dX0_made_86 : decode cX0_made 86 = .ok (.invokevirtual 24, 3) := dk_182 0 24 (dk_at dksX0_made_3 14 rfl rfl)
theorem dX0_made_89 : decode cX0_made 89 = .ok (.aload_n 1, 1) := dk_43 (dk_at dksX0_made_3 17 rfl rfl)
theorem dX0_made_90 : decode cX0_made 90 = .ok (.iconst 1, 1) := dk_4 (dk_at dksX0_made_3 18 rfl rfl)
theorem dX0_made_91 : decode cX0_made 91 = .ok (.aload_n 0, 1) := dk_42 (dk_at dksX0_made_3 19 rfl rfl)
theorem dX0_made_92 : decode cX0_made 92 = .ok (.iconst 4, 1) := dk_7 (dk_at dksX0_made_3 20 rfl rfl)
theorem dX0_made_93 : decode cX0_made 93 = .ok (.invokestatic 10, 3) := dk_184 0 10 (dk_at dksX0_made_3 21 rfl rfl)
theorem dX0_made_96 : decode cX0_made 96 = .ok (.aload_n 0, 1) := dk_42 (dk_at dksX0_made_4 0 rfl rfl)
theorem dX0_made_97 : decode cX0_made 97 = .ok (.iconst 5, 1) := dk_8 (dk_at dksX0_made_4 1 rfl rfl)
theorem dX0_made_98 : decode cX0_made 98 = .ok (.invokestatic 10, 3) := dk_184 0 10 (dk_at dksX0_made_4 2 rfl rfl)
theorem dX0_made_101 : decode cX0_made 101 = .ok (.aload_n 0, 1) := dk_42 (dk_at dksX0_made_4 5 rfl rfl)
theorem dX0_made_102 : decode cX0_made 102 = .ok (.bipush 6, 2) := dk_16 6 (dk_at dksX0_made_4 6 rfl rfl)
theorem dX0_made_104 : decode cX0_made 104 = .ok (.invokestatic 10, 3) := dk_184 0 10 (dk_at dksX0_made_4 8 rfl rfl)
theorem dX0_made_107 : decode cX0_made 107 = .ok (.aload_n 0, 1) := dk_42 (dk_at dksX0_made_4 11 rfl rfl)
theorem dX0_made_108 : decode cX0_made 108 = .ok (.bipush 7, 2) := dk_16 7 (dk_at dksX0_made_4 12 rfl rfl)
theorem dX0_made_110 : decode cX0_made 110 = .ok (.invokestatic 10, 3) := dk_184 0 10 (dk_at dksX0_made_4 14 rfl rfl)
theorem dX0_made_113 : decode cX0_made 113 = .ok (.invokevirtual 24, 3) := dk_182 0 24 (dk_at dksX0_made_4 17 rfl rfl)
theorem dX0_made_116 : decode cX0_made 116 = .ok (.aload_n 1, 1) := dk_43 (dk_at dksX0_made_4 20 rfl rfl)
theorem dX0_made_117 : decode cX0_made 117 = .ok (.iconst 0, 1) := dk_3 (dk_at dksX0_made_4 21 rfl rfl)
theorem dX0_made_118 : decode cX0_made 118 = .ok (.aload_n 0, 1) := dk_42 (dk_at dksX0_made_4 22 rfl rfl)
theorem dX0_made_119 : decode cX0_made 119 = .ok (.bipush 8, 2) := dk_16 8 (dk_at dksX0_made_5 0 rfl rfl)
theorem dX0_made_121 : decode cX0_made 121 = .ok (.invokestatic 10, 3) := dk_184 0 10 (dk_at dksX0_made_5 2 rfl rfl)
theorem dX0_made_124 : decode cX0_made 124 = .ok (.aload_n 0, 1) := dk_42 (dk_at dksX0_made_5 5 rfl rfl)
theorem dX0_made_125 : decode cX0_made 125 = .ok (.bipush 9, 2) := dk_16 9 (dk_at dksX0_made_5 6 rfl rfl)
theorem dX0_made_127 : decode cX0_made 127 = .ok (.invokestatic 10, 3) := dk_184 0 10 (dk_at dksX0_made_5 8 rfl rfl)
theorem dX0_made_130 : decode cX0_made 130 = .ok (.aload_n 0, 1) := dk_42 (dk_at dksX0_made_5 11 rfl rfl)
theorem dX0_made_131 : decode cX0_made 131 = .ok (.bipush 10, 2) := dk_16 10 (dk_at dksX0_made_5 12 rfl rfl)
theorem dX0_made_133 : decode cX0_made 133 = .ok (.invokestatic 10, 3) := dk_184 0 10 (dk_at dksX0_made_5 14 rfl rfl)
theorem dX0_made_136 : decode cX0_made 136 = .ok (.aload_n 0, 1) := dk_42 (dk_at dksX0_made_5 17 rfl rfl)
theorem dX0_made_137 : decode cX0_made 137 = .ok (.bipush 11, 2) := dk_16 11 (dk_at dksX0_made_5 18 rfl rfl)
theorem dX0_made_139 : decode cX0_made 139 = .ok (.invokestatic 10, 3) := dk_184 0 10 (dk_at dksX0_made_5 20 rfl rfl)
theorem dX0_made_142 : decode cX0_made 142 = .ok (.invokevirtual 28, 3) := dk_182 0 28 (dk_at dksX0_made_6 0 rfl rfl)
theorem dX0_made_145 : decode cX0_made 145 = .ok (.aload_n 1, 1) := dk_43 (dk_at dksX0_made_6 3 rfl rfl)
theorem dX0_made_146 : decode cX0_made 146 = .ok (.iconst 1, 1) := dk_4 (dk_at dksX0_made_6 4 rfl rfl)
theorem dX0_made_147 : decode cX0_made 147 = .ok (.aload_n 0, 1) := dk_42 (dk_at dksX0_made_6 5 rfl rfl)
theorem dX0_made_148 : decode cX0_made 148 = .ok (.bipush 52, 2) := dk_16 52 (dk_at dksX0_made_6 6 rfl rfl)
theorem dX0_made_150 : decode cX0_made 150 = .ok (.invokestatic 10, 3) := dk_184 0 10 (dk_at dksX0_made_6 8 rfl rfl)
theorem dX0_made_153 : decode cX0_made 153 = .ok (.aload_n 0, 1) := dk_42 (dk_at dksX0_made_6 11 rfl rfl)
theorem dX0_made_154 : decode cX0_made 154 = .ok (.bipush 53, 2) := dk_16 53 (dk_at dksX0_made_6 12 rfl rfl)
theorem dX0_made_156 : decode cX0_made 156 = .ok (.invokestatic 10, 3) := dk_184 0 10 (dk_at dksX0_made_6 14 rfl rfl)
theorem dX0_made_159 : decode cX0_made 159 = .ok (.aload_n 0, 1) := dk_42 (dk_at dksX0_made_6 17 rfl rfl)
theorem dX0_made_160 : decode cX0_made 160 = .ok (.bipush 54, 2) := dk_16 54 (dk_at dksX0_made_6 18 rfl rfl)
theorem dX0_made_162 : decode cX0_made 162 = .ok (.invokestatic 10, 3) := dk_184 0 10 (dk_at dksX0_made_6 20 rfl rfl)
theorem dX0_made_165 : decode cX0_made 165 = .ok (.aload_n 0, 1) := dk_42 (dk_at dksX0_made_6 23 rfl rfl)
theorem dX0_made_166 : decode cX0_made 166 = .ok (.bipush 55, 2) := dk_16 55 (dk_at dksX0_made_7 0 rfl rfl)
theorem dX0_made_168 : decode cX0_made 168 = .ok (.invokestatic 10, 3) := dk_184 0 10 (dk_at dksX0_made_7 2 rfl rfl)
theorem dX0_made_171 : decode cX0_made 171 = .ok (.invokevirtual 28, 3) := dk_182 0 28 (dk_at dksX0_made_7 5 rfl rfl)
theorem dX0_made_174 : decode cX0_made 174 = .ok (.aload_n 1, 1) := dk_43 (dk_at dksX0_made_7 8 rfl rfl)
theorem dX0_made_175 : decode cX0_made 175 = .ok (.aload_n 0, 1) := dk_42 (dk_at dksX0_made_7 9 rfl rfl)
theorem dX0_made_176 : decode cX0_made 176 = .ok (.bipush 12, 2) := dk_16 12 (dk_at dksX0_made_7 10 rfl rfl)
theorem dX0_made_178 : decode cX0_made 178 = .ok (.invokestatic 10, 3) := dk_184 0 10 (dk_at dksX0_made_7 12 rfl rfl)
theorem dX0_made_181 : decode cX0_made 181 = .ok (.invokevirtual 31, 3) := dk_182 0 31 (dk_at dksX0_made_7 15 rfl rfl)
theorem dX0_made_184 : decode cX0_made 184 = .ok (.aload_n 1, 1) := dk_43 (dk_at dksX0_made_7 18 rfl rfl)
theorem dX0_made_185 : decode cX0_made 185 = .ok (.areturn, 1) := dk_176 (dk_at dksX0_made_7 19 rfl rfl)
abbrev cX0_known : ByteArray := method_4_code
def yX0_known : MethodName := ⟨RX0, "known", "()Z"⟩
def dkwX0_known_8 : List UInt8 := [162, 0, 22, 42, 28, 182, 0, 39, 43, 28, 46, 159, 0, 5, 3, 172, 132, 2, 1, 167, 255, 234, 4, 172]
abbrev dktX0_known_8 : List UInt8 := dkwX0_known_8 ++ []
def dkwX0_known_7 : List UInt8 := [17, 0, 133, 79, 89, 16, 14, 17, 0, 153, 79, 89, 16, 15, 16, 54, 79, 76, 3, 61, 28, 16, 16]
abbrev dktX0_known_7 : List UInt8 := dkwX0_known_7 ++ dktX0_known_8
def dkwX0_known_6 : List UInt8 := [16, 49, 79, 89, 16, 10, 5, 79, 89, 16, 11, 16, 32, 79, 89, 16, 12, 16, 80, 79, 89, 16, 13]
abbrev dktX0_known_6 : List UInt8 := dkwX0_known_6 ++ dktX0_known_7
def dkwX0_known_5 : List UInt8 := [79, 89, 16, 6, 16, 62, 79, 89, 16, 7, 17, 0, 160, 79, 89, 16, 8, 17, 0, 154, 79, 89, 16, 9]
abbrev dktX0_known_5 : List UInt8 := dkwX0_known_5 ++ dktX0_known_6
def dkwX0_known_4 : List UInt8 := [17, 0, 250, 79, 89, 5, 16, 94, 79, 89, 6, 16, 72, 79, 89, 7, 16, 29, 79, 89, 8, 17, 0, 162]
abbrev dktX0_known_4 : List UInt8 := dkwX0_known_4 ++ dktX0_known_5
def dkwX0_known_3 : List UInt8 := [182, 0, 31, 42, 3, 16, 16, 182, 0, 35, 87, 16, 16, 188, 10, 89, 3, 16, 77, 79, 89, 4]
abbrev dktX0_known_3 : List UInt8 := dkwX0_known_3 ++ dktX0_known_4
def dkwX0_known_2 : List UInt8 := [182, 0, 24, 42, 3, 3, 3, 3, 3, 182, 0, 28, 42, 4, 3, 3, 3, 3, 182, 0, 28, 42, 3]
abbrev dktX0_known_2 : List UInt8 := dkwX0_known_2 ++ dktX0_known_3
def dkwX0_known_1 : List UInt8 := [132, 1, 1, 167, 255, 239, 42, 3, 18, 34, 3, 3, 3, 182, 0, 24, 42, 4, 3, 3, 3, 3]
abbrev dktX0_known_1 : List UInt8 := dkwX0_known_1 ++ dktX0_known_2
def dkwX0_known_0 : List UInt8 := [187, 0, 7, 89, 183, 0, 9, 75, 3, 60, 27, 5, 162, 0, 18, 42, 3, 3, 3, 3, 182, 0, 16, 87]
abbrev dktX0_known_0 : List UInt8 := dkwX0_known_0 ++ dktX0_known_1
theorem dksX0_known_0 : cX0_known.data.toList.drop 0 = dktX0_known_0 := by decide +kernel
theorem dksX0_known_1 : cX0_known.data.toList.drop 24 = dktX0_known_1 := dk_seg dksX0_known_0 24 rfl rfl
theorem dksX0_known_2 : cX0_known.data.toList.drop 46 = dktX0_known_2 := dk_seg dksX0_known_1 22 rfl rfl
theorem dksX0_known_3 : cX0_known.data.toList.drop 69 = dktX0_known_3 := dk_seg dksX0_known_2 23 rfl rfl
theorem dksX0_known_4 : cX0_known.data.toList.drop 91 = dktX0_known_4 := dk_seg dksX0_known_3 22 rfl rfl
theorem dksX0_known_5 : cX0_known.data.toList.drop 115 = dktX0_known_5 := dk_seg dksX0_known_4 24 rfl rfl
theorem dksX0_known_6 : cX0_known.data.toList.drop 139 = dktX0_known_6 := dk_seg dksX0_known_5 24 rfl rfl
theorem dksX0_known_7 : cX0_known.data.toList.drop 162 = dktX0_known_7 := dk_seg dksX0_known_6 23 rfl rfl
theorem dksX0_known_8 : cX0_known.data.toList.drop 185 = dktX0_known_8 := dk_seg dksX0_known_7 23 rfl rfl
theorem dX0_known_0 : decode cX0_known 0 = .ok (.new 7, 3) := dk_187 0 7 (dk_at dksX0_known_0 0 rfl rfl)
theorem dX0_known_3 : decode cX0_known 3 = .ok (.dup, 1) := dk_89 (dk_at dksX0_known_0 3 rfl rfl)
theorem dX0_known_4 : decode cX0_known 4 = .ok (.invokespecial 9, 3) := dk_183 0 9 (dk_at dksX0_known_0 4 rfl rfl)
theorem dX0_known_7 : decode cX0_known 7 = .ok (.astore_n 0, 1) := dk_75 (dk_at dksX0_known_0 7 rfl rfl)
theorem dX0_known_8 : decode cX0_known 8 = .ok (.iconst 0, 1) := dk_3 (dk_at dksX0_known_0 8 rfl rfl)
theorem dX0_known_9 : decode cX0_known 9 = .ok (.istore_n 1, 1) := dk_60 (dk_at dksX0_known_0 9 rfl rfl)
theorem dX0_known_10 : decode cX0_known 10 = .ok (.iload_n 1, 1) := dk_27 (dk_at dksX0_known_0 10 rfl rfl)
theorem dX0_known_11 : decode cX0_known 11 = .ok (.iconst 2, 1) := dk_5 (dk_at dksX0_known_0 11 rfl rfl)
theorem dX0_known_12 : decode cX0_known 12 = .ok (.if_icmp .ge 18, 3) := dk_162 0 18 (dk_at dksX0_known_0 12 rfl rfl)
theorem dX0_known_15 : decode cX0_known 15 = .ok (.aload_n 0, 1) := dk_42 (dk_at dksX0_known_0 15 rfl rfl)
theorem dX0_known_16 : decode cX0_known 16 = .ok (.iconst 0, 1) := dk_3 (dk_at dksX0_known_0 16 rfl rfl)
theorem dX0_known_17 : decode cX0_known 17 = .ok (.iconst 0, 1) := dk_3 (dk_at dksX0_known_0 17 rfl rfl)
theorem dX0_known_18 : decode cX0_known 18 = .ok (.iconst 0, 1) := dk_3 (dk_at dksX0_known_0 18 rfl rfl)
theorem dX0_known_19 : decode cX0_known 19 = .ok (.iconst 0, 1) := dk_3 (dk_at dksX0_known_0 19 rfl rfl)
theorem dX0_known_20 : decode cX0_known 20 = .ok (.invokevirtual 16, 3) := dk_182 0 16 (dk_at dksX0_known_0 20 rfl rfl)
theorem dX0_known_23 : decode cX0_known 23 = .ok (.pop, 1) := dk_87 (dk_at dksX0_known_0 23 rfl rfl)
theorem dX0_known_24 : decode cX0_known 24 = .ok (.iinc 1 1, 3) := dk_132 1 1 (dk_at dksX0_known_1 0 rfl rfl)
theorem dX0_known_27 : decode cX0_known 27 = .ok (.goto (-17), 3) := dk_167 255 239 (dk_at dksX0_known_1 3 rfl rfl)
theorem dX0_known_30 : decode cX0_known 30 = .ok (.aload_n 0, 1) := dk_42 (dk_at dksX0_known_1 6 rfl rfl)
theorem dX0_known_31 : decode cX0_known 31 = .ok (.iconst 0, 1) := dk_3 (dk_at dksX0_known_1 7 rfl rfl)
theorem dX0_known_32 : decode cX0_known 32 = .ok (.ldc 34, 2) := dk_18 34 (dk_at dksX0_known_1 8 rfl rfl)
theorem dX0_known_34 : decode cX0_known 34 = .ok (.iconst 0, 1) := dk_3 (dk_at dksX0_known_1 10 rfl rfl)
theorem dX0_known_35 : decode cX0_known 35 = .ok (.iconst 0, 1) := dk_3 (dk_at dksX0_known_1 11 rfl rfl)
theorem dX0_known_36 : decode cX0_known 36 = .ok (.iconst 0, 1) := dk_3 (dk_at dksX0_known_1 12 rfl rfl)
theorem dX0_known_37 : decode cX0_known 37 = .ok (.invokevirtual 24, 3) := dk_182 0 24 (dk_at dksX0_known_1 13 rfl rfl)
theorem dX0_known_40 : decode cX0_known 40 = .ok (.aload_n 0, 1) := dk_42 (dk_at dksX0_known_1 16 rfl rfl)
theorem dX0_known_41 : decode cX0_known 41 = .ok (.iconst 1, 1) := dk_4 (dk_at dksX0_known_1 17 rfl rfl)
theorem dX0_known_42 : decode cX0_known 42 = .ok (.iconst 0, 1) := dk_3 (dk_at dksX0_known_1 18 rfl rfl)
theorem dX0_known_43 : decode cX0_known 43 = .ok (.iconst 0, 1) := dk_3 (dk_at dksX0_known_1 19 rfl rfl)
theorem dX0_known_44 : decode cX0_known 44 = .ok (.iconst 0, 1) := dk_3 (dk_at dksX0_known_1 20 rfl rfl)
theorem dX0_known_45 : decode cX0_known 45 = .ok (.iconst 0, 1) := dk_3 (dk_at dksX0_known_1 21 rfl rfl)
theorem dX0_known_46 : decode cX0_known 46 = .ok (.invokevirtual 24, 3) := dk_182 0 24 (dk_at dksX0_known_2 0 rfl rfl)
theorem dX0_known_49 : decode cX0_known 49 = .ok (.aload_n 0, 1) := dk_42 (dk_at dksX0_known_2 3 rfl rfl)
theorem dX0_known_50 : decode cX0_known 50 = .ok (.iconst 0, 1) := dk_3 (dk_at dksX0_known_2 4 rfl rfl)
theorem dX0_known_51 : decode cX0_known 51 = .ok (.iconst 0, 1) := dk_3 (dk_at dksX0_known_2 5 rfl rfl)
theorem dX0_known_52 : decode cX0_known 52 = .ok (.iconst 0, 1) := dk_3 (dk_at dksX0_known_2 6 rfl rfl)
theorem dX0_known_53 : decode cX0_known 53 = .ok (.iconst 0, 1) := dk_3 (dk_at dksX0_known_2 7 rfl rfl)
theorem dX0_known_54 : decode cX0_known 54 = .ok (.iconst 0, 1) := dk_3 (dk_at dksX0_known_2 8 rfl rfl)
theorem dX0_known_55 : decode cX0_known 55 = .ok (.invokevirtual 28, 3) := dk_182 0 28 (dk_at dksX0_known_2 9 rfl rfl)
theorem dX0_known_58 : decode cX0_known 58 = .ok (.aload_n 0, 1) := dk_42 (dk_at dksX0_known_2 12 rfl rfl)
theorem dX0_known_59 : decode cX0_known 59 = .ok (.iconst 1, 1) := dk_4 (dk_at dksX0_known_2 13 rfl rfl)
theorem dX0_known_60 : decode cX0_known 60 = .ok (.iconst 0, 1) := dk_3 (dk_at dksX0_known_2 14 rfl rfl)
theorem dX0_known_61 : decode cX0_known 61 = .ok (.iconst 0, 1) := dk_3 (dk_at dksX0_known_2 15 rfl rfl)
theorem dX0_known_62 : decode cX0_known 62 = .ok (.iconst 0, 1) := dk_3 (dk_at dksX0_known_2 16 rfl rfl)
theorem dX0_known_63 : decode cX0_known 63 = .ok (.iconst 0, 1) := dk_3 (dk_at dksX0_known_2 17 rfl rfl)
theorem dX0_known_64 : decode cX0_known 64 = .ok (.invokevirtual 28, 3) := dk_182 0 28 (dk_at dksX0_known_2 18 rfl rfl)
theorem dX0_known_67 : decode cX0_known 67 = .ok (.aload_n 0, 1) := dk_42 (dk_at dksX0_known_2 21 rfl rfl)
theorem dX0_known_68 : decode cX0_known 68 = .ok (.iconst 0, 1) := dk_3 (dk_at dksX0_known_2 22 rfl rfl)
theorem dX0_known_69 : decode cX0_known 69 = .ok (.invokevirtual 31, 3) := dk_182 0 31 (dk_at dksX0_known_3 0 rfl rfl)
theorem dX0_known_72 : decode cX0_known 72 = .ok (.aload_n 0, 1) := dk_42 (dk_at dksX0_known_3 3 rfl rfl)
theorem dX0_known_73 : decode cX0_known 73 = .ok (.iconst 0, 1) := dk_3 (dk_at dksX0_known_3 4 rfl rfl)
theorem dX0_known_74 : decode cX0_known 74 = .ok (.bipush 16, 2) := dk_16 16 (dk_at dksX0_known_3 5 rfl rfl)
theorem dX0_known_76 : decode cX0_known 76 = .ok (.invokevirtual 35, 3) := dk_182 0 35 (dk_at dksX0_known_3 7 rfl rfl)
theorem dX0_known_79 : decode cX0_known 79 = .ok (.pop, 1) := dk_87 (dk_at dksX0_known_3 10 rfl rfl)
theorem dX0_known_80 : decode cX0_known 80 = .ok (.bipush 16, 2) := dk_16 16 (dk_at dksX0_known_3 11 rfl rfl)
theorem dX0_known_82 : decode cX0_known 82 = .ok (.newarray .int, 2) := dk_188_10 (dk_at dksX0_known_3 13 rfl rfl)
theorem dX0_known_84 : decode cX0_known 84 = .ok (.dup, 1) := dk_89 (dk_at dksX0_known_3 15 rfl rfl)
theorem dX0_known_85 : decode cX0_known 85 = .ok (.iconst 0, 1) := dk_3 (dk_at dksX0_known_3 16 rfl rfl)
theorem dX0_known_86 : decode cX0_known 86 = .ok (.bipush 77, 2) := dk_16 77 (dk_at dksX0_known_3 17 rfl rfl)
theorem dX0_known_88 : decode cX0_known 88 = .ok (.iastore, 1) := dk_79 (dk_at dksX0_known_3 19 rfl rfl)
theorem dX0_known_89 : decode cX0_known 89 = .ok (.dup, 1) := dk_89 (dk_at dksX0_known_3 20 rfl rfl)
theorem dX0_known_90 : decode cX0_known 90 = .ok (.iconst 1, 1) := dk_4 (dk_at dksX0_known_3 21 rfl rfl)
theorem dX0_known_91 : decode cX0_known 91 = .ok (.sipush 250, 3) := dk_17 0 250 (dk_at dksX0_known_4 0 rfl rfl)
theorem dX0_known_94 : decode cX0_known 94 = .ok (.iastore, 1) := dk_79 (dk_at dksX0_known_4 3 rfl rfl)
theorem dX0_known_95 : decode cX0_known 95 = .ok (.dup, 1) := dk_89 (dk_at dksX0_known_4 4 rfl rfl)
theorem dX0_known_96 : decode cX0_known 96 = .ok (.iconst 2, 1) := dk_5 (dk_at dksX0_known_4 5 rfl rfl)
theorem dX0_known_97 : decode cX0_known 97 = .ok (.bipush 94, 2) := dk_16 94 (dk_at dksX0_known_4 6 rfl rfl)
theorem dX0_known_99 : decode cX0_known 99 = .ok (.iastore, 1) := dk_79 (dk_at dksX0_known_4 8 rfl rfl)
theorem dX0_known_100 : decode cX0_known 100 = .ok (.dup, 1) := dk_89 (dk_at dksX0_known_4 9 rfl rfl)
theorem dX0_known_101 : decode cX0_known 101 = .ok (.iconst 3, 1) := dk_6 (dk_at dksX0_known_4 10 rfl rfl)
theorem dX0_known_102 : decode cX0_known 102 = .ok (.bipush 72, 2) := dk_16 72 (dk_at dksX0_known_4 11 rfl rfl)
theorem dX0_known_104 : decode cX0_known 104 = .ok (.iastore, 1) := dk_79 (dk_at dksX0_known_4 13 rfl rfl)
theorem dX0_known_105 : decode cX0_known 105 = .ok (.dup, 1) := dk_89 (dk_at dksX0_known_4 14 rfl rfl)
theorem dX0_known_106 : decode cX0_known 106 = .ok (.iconst 4, 1) := dk_7 (dk_at dksX0_known_4 15 rfl rfl)
theorem dX0_known_107 : decode cX0_known 107 = .ok (.bipush 29, 2) := dk_16 29 (dk_at dksX0_known_4 16 rfl rfl)
theorem dX0_known_109 : decode cX0_known 109 = .ok (.iastore, 1) := dk_79 (dk_at dksX0_known_4 18 rfl rfl)
theorem dX0_known_110 : decode cX0_known 110 = .ok (.dup, 1) := dk_89 (dk_at dksX0_known_4 19 rfl rfl)
theorem dX0_known_111 : decode cX0_known 111 = .ok (.iconst 5, 1) := dk_8 (dk_at dksX0_known_4 20 rfl rfl)
theorem dX0_known_112 : decode cX0_known 112 = .ok (.sipush 162, 3) := dk_17 0 162 (dk_at dksX0_known_4 21 rfl rfl)
theorem dX0_known_115 : decode cX0_known 115 = .ok (.iastore, 1) := dk_79 (dk_at dksX0_known_5 0 rfl rfl)
theorem dX0_known_116 : decode cX0_known 116 = .ok (.dup, 1) := dk_89 (dk_at dksX0_known_5 1 rfl rfl)
theorem dX0_known_117 : decode cX0_known 117 = .ok (.bipush 6, 2) := dk_16 6 (dk_at dksX0_known_5 2 rfl rfl)
theorem dX0_known_119 : decode cX0_known 119 = .ok (.bipush 62, 2) := dk_16 62 (dk_at dksX0_known_5 4 rfl rfl)
theorem dX0_known_121 : decode cX0_known 121 = .ok (.iastore, 1) := dk_79 (dk_at dksX0_known_5 6 rfl rfl)
theorem dX0_known_122 : decode cX0_known 122 = .ok (.dup, 1) := dk_89 (dk_at dksX0_known_5 7 rfl rfl)
theorem dX0_known_123 : decode cX0_known 123 = .ok (.bipush 7, 2) := dk_16 7 (dk_at dksX0_known_5 8 rfl rfl)
theorem dX0_known_125 : decode cX0_known 125 = .ok (.sipush 160, 3) := dk_17 0 160 (dk_at dksX0_known_5 10 rfl rfl)
theorem dX0_known_128 : decode cX0_known 128 = .ok (.iastore, 1) := dk_79 (dk_at dksX0_known_5 13 rfl rfl)
theorem dX0_known_129 : decode cX0_known 129 = .ok (.dup, 1) := dk_89 (dk_at dksX0_known_5 14 rfl rfl)
theorem dX0_known_130 : decode cX0_known 130 = .ok (.bipush 8, 2) := dk_16 8 (dk_at dksX0_known_5 15 rfl rfl)
theorem dX0_known_132 : decode cX0_known 132 = .ok (.sipush 154, 3) := dk_17 0 154 (dk_at dksX0_known_5 17 rfl rfl)
theorem dX0_known_135 : decode cX0_known 135 = .ok (.iastore, 1) := dk_79 (dk_at dksX0_known_5 20 rfl rfl)
theorem dX0_known_136 : decode cX0_known 136 = .ok (.dup, 1) := dk_89 (dk_at dksX0_known_5 21 rfl rfl)
theorem dX0_known_137 : decode cX0_known 137 = .ok (.bipush 9, 2) := dk_16 9 (dk_at dksX0_known_5 22 rfl rfl)
theorem dX0_known_139 : decode cX0_known 139 = .ok (.bipush 49, 2) := dk_16 49 (dk_at dksX0_known_6 0 rfl rfl)
theorem dX0_known_141 : decode cX0_known 141 = .ok (.iastore, 1) := dk_79 (dk_at dksX0_known_6 2 rfl rfl)
theorem dX0_known_142 : decode cX0_known 142 = .ok (.dup, 1) := dk_89 (dk_at dksX0_known_6 3 rfl rfl)
theorem dX0_known_143 : decode cX0_known 143 = .ok (.bipush 10, 2) := dk_16 10 (dk_at dksX0_known_6 4 rfl rfl)
theorem dX0_known_145 : decode cX0_known 145 = .ok (.iconst 2, 1) := dk_5 (dk_at dksX0_known_6 6 rfl rfl)
theorem dX0_known_146 : decode cX0_known 146 = .ok (.iastore, 1) := dk_79 (dk_at dksX0_known_6 7 rfl rfl)
theorem dX0_known_147 : decode cX0_known 147 = .ok (.dup, 1) := dk_89 (dk_at dksX0_known_6 8 rfl rfl)
theorem dX0_known_148 : decode cX0_known 148 = .ok (.bipush 11, 2) := dk_16 11 (dk_at dksX0_known_6 9 rfl rfl)
theorem dX0_known_150 : decode cX0_known 150 = .ok (.bipush 32, 2) := dk_16 32 (dk_at dksX0_known_6 11 rfl rfl)
theorem dX0_known_152 : decode cX0_known 152 = .ok (.iastore, 1) := dk_79 (dk_at dksX0_known_6 13 rfl rfl)
theorem dX0_known_153 : decode cX0_known 153 = .ok (.dup, 1) := dk_89 (dk_at dksX0_known_6 14 rfl rfl)
theorem dX0_known_154 : decode cX0_known 154 = .ok (.bipush 12, 2) := dk_16 12 (dk_at dksX0_known_6 15 rfl rfl)
theorem dX0_known_156 : decode cX0_known 156 = .ok (.bipush 80, 2) := dk_16 80 (dk_at dksX0_known_6 17 rfl rfl)
theorem dX0_known_158 : decode cX0_known 158 = .ok (.iastore, 1) := dk_79 (dk_at dksX0_known_6 19 rfl rfl)
theorem dX0_known_159 : decode cX0_known 159 = .ok (.dup, 1) := dk_89 (dk_at dksX0_known_6 20 rfl rfl)
theorem dX0_known_160 : decode cX0_known 160 = .ok (.bipush 13, 2) := dk_16 13 (dk_at dksX0_known_6 21 rfl rfl)
theorem dX0_known_162 : decode cX0_known 162 = .ok (.sipush 133, 3) := dk_17 0 133 (dk_at dksX0_known_7 0 rfl rfl)
theorem dX0_known_165 : decode cX0_known 165 = .ok (.iastore, 1) := dk_79 (dk_at dksX0_known_7 3 rfl rfl)
theorem dX0_known_166 : decode cX0_known 166 = .ok (.dup, 1) := dk_89 (dk_at dksX0_known_7 4 rfl rfl)
theorem dX0_known_167 : decode cX0_known 167 = .ok (.bipush 14, 2) := dk_16 14 (dk_at dksX0_known_7 5 rfl rfl)
theorem dX0_known_169 : decode cX0_known 169 = .ok (.sipush 153, 3) := dk_17 0 153 (dk_at dksX0_known_7 7 rfl rfl)
theorem dX0_known_172 : decode cX0_known 172 = .ok (.iastore, 1) := dk_79 (dk_at dksX0_known_7 10 rfl rfl)
theorem dX0_known_173 : decode cX0_known 173 = .ok (.dup, 1) := dk_89 (dk_at dksX0_known_7 11 rfl rfl)
theorem dX0_known_174 : decode cX0_known 174 = .ok (.bipush 15, 2) := dk_16 15 (dk_at dksX0_known_7 12 rfl rfl)
theorem dX0_known_176 : decode cX0_known 176 = .ok (.bipush 54, 2) := dk_16 54 (dk_at dksX0_known_7 14 rfl rfl)
theorem dX0_known_178 : decode cX0_known 178 = .ok (.iastore, 1) := dk_79 (dk_at dksX0_known_7 16 rfl rfl)
theorem dX0_known_179 : decode cX0_known 179 = .ok (.astore_n 1, 1) := dk_76 (dk_at dksX0_known_7 17 rfl rfl)
theorem dX0_known_180 : decode cX0_known 180 = .ok (.iconst 0, 1) := dk_3 (dk_at dksX0_known_7 18 rfl rfl)
theorem dX0_known_181 : decode cX0_known 181 = .ok (.istore_n 2, 1) := dk_61 (dk_at dksX0_known_7 19 rfl rfl)
theorem dX0_known_182 : decode cX0_known 182 = .ok (.iload_n 2, 1) := dk_28 (dk_at dksX0_known_7 20 rfl rfl)
theorem dX0_known_183 : decode cX0_known 183 = .ok (.bipush 16, 2) := dk_16 16 (dk_at dksX0_known_7 21 rfl rfl)
theorem dX0_known_185 : decode cX0_known 185 = .ok (.if_icmp .ge 22, 3) := dk_162 0 22 (dk_at dksX0_known_8 0 rfl rfl)
theorem dX0_known_188 : decode cX0_known 188 = .ok (.aload_n 0, 1) := dk_42 (dk_at dksX0_known_8 3 rfl rfl)
theorem dX0_known_189 : decode cX0_known 189 = .ok (.iload_n 2, 1) := dk_28 (dk_at dksX0_known_8 4 rfl rfl)
theorem dX0_known_190 : decode cX0_known 190 = .ok (.invokevirtual 39, 3) := dk_182 0 39 (dk_at dksX0_known_8 5 rfl rfl)
theorem dX0_known_193 : decode cX0_known 193 = .ok (.aload_n 1, 1) := dk_43 (dk_at dksX0_known_8 8 rfl rfl)
theorem dX0_known_194 : decode cX0_known 194 = .ok (.iload_n 2, 1) := dk_28 (dk_at dksX0_known_8 9 rfl rfl)
theorem dX0_known_195 : decode cX0_known 195 = .ok (.iaload, 1) := dk_46 (dk_at dksX0_known_8 10 rfl rfl)
theorem dX0_known_196 : decode cX0_known 196 = .ok (.if_icmp .eq 5, 3) := dk_159 0 5 (dk_at dksX0_known_8 11 rfl rfl)
theorem dX0_known_199 : decode cX0_known 199 = .ok (.iconst 0, 1) := dk_3 (dk_at dksX0_known_8 14 rfl rfl)
theorem dX0_known_200 : decode cX0_known 200 = .ok (.ireturn, 1) := dk_172 (dk_at dksX0_known_8 15 rfl rfl)
theorem dX0_known_201 : decode cX0_known 201 = .ok (.iinc 2 1, 3) := dk_132 2 1 (dk_at dksX0_known_8 16 rfl rfl)
theorem dX0_known_204 : decode cX0_known 204 = .ok (.goto (-22), 3) := dk_167 255 234 (dk_at dksX0_known_8 19 rfl rfl)
theorem dX0_known_207 : decode cX0_known 207 = .ok (.iconst 1, 1) := dk_4 (dk_at dksX0_known_8 22 rfl rfl)
theorem dX0_known_208 : decode cX0_known 208 = .ok (.ireturn, 1) := dk_172 (dk_at dksX0_known_8 23 rfl rfl)
theorem q6 : (Jvm.Cond.initialized "SalsaDeskLaw") ∈ lw_all := lw_g (lw_at lw_m1 0 rfl) rfl
theorem q24 : (Jvm.Cond.methodLink "SalsaDeskLaw" (35 : Nat) ({ cls := "SalsaDesk", name := "run", desc := "(II)I" } : Jvm.MethodName)) ∈ lw_all := lw_g (lw_at lw_m1 18 rfl) rfl
theorem q221 : (Jvm.Cond.methodLink "SalsaDeskLaw" (52 : Nat) ({ cls := "SalsaDesk", name := "one", desc := "(I)I" } : Jvm.MethodName)) ∈ lw_all := lw_g (lw_at lw_m1 215 rfl) rfl
theorem q234 : (Jvm.Cond.methodLink "SalsaDeskLaw" (55 : Nat) ({ cls := "SalsaDesk", name := "again", desc := "()V" } : Jvm.MethodName)) ∈ lw_all := lw_g (lw_at lw_m1 228 rfl) rfl
theorem q250 : (Jvm.Cond.methodLink "SalsaDeskLaw" (39 : Nat) ({ cls := "SalsaDesk", name := "out", desc := "(I)I" } : Jvm.MethodName)) ∈ lw_all := lw_g (lw_at lw_m2 4 rfl) rfl
theorem q254 : (Jvm.Cond.methodLink "SalsaDeskLaw" (10 : Nat) ({ cls := "SalsaDeskLaw", name := "cell", desc := "([II)I" } : Jvm.MethodName)) ∈ lw_all := lw_g (lw_at lw_m2 8 rfl) rfl
theorem q255 : (Jvm.Cond.static ({ cls := "SalsaDeskLaw", name := "cell", desc := "([II)I" } : Jvm.MethodName)) ∈ lw_all := lw_g (lw_at lw_m2 9 rfl) rfl
theorem q256 : (Jvm.Cond.code ({ cls := "SalsaDeskLaw", name := "cell", desc := "([II)I" } : Jvm.MethodName) method_2_code (2 : Nat) (Option.some Jvm.ClassFile.FieldType.int)) ∈ lw_all := lw_g (lw_at lw_m2 10 rfl) rfl
theorem q257 : (Jvm.Cond.methodLink "SalsaDeskLaw" (47 : Nat) ({ cls := "SalsaDeskLaw", name := "made", desc := "([I)LSalsaDesk;" } : Jvm.MethodName)) ∈ lw_all := lw_g (lw_at lw_m2 11 rfl) rfl
theorem q258 : (Jvm.Cond.static ({ cls := "SalsaDeskLaw", name := "made", desc := "([I)LSalsaDesk;" } : Jvm.MethodName)) ∈ lw_all := lw_g (lw_at lw_m2 12 rfl) rfl
theorem q259 : (Jvm.Cond.code ({ cls := "SalsaDeskLaw", name := "made", desc := "([I)LSalsaDesk;" } : Jvm.MethodName) method_3_code (3 : Nat) (Option.some (Jvm.ClassFile.FieldType.object "SalsaDesk"))) ∈ lw_all := lw_g (lw_at lw_m2 13 rfl) rfl
theorem q260 : (Jvm.Cond.classLink "SalsaDeskLaw" (7 : Nat) "SalsaDesk") ∈ lw_all := lw_g (lw_at lw_m2 14 rfl) rfl
theorem q261 : (Jvm.Cond.methodLink "SalsaDeskLaw" (9 : Nat) ({ cls := "SalsaDesk", name := "<init>", desc := "()V" } : Jvm.MethodName)) ∈ lw_all := lw_g (lw_at lw_m2 15 rfl) rfl
theorem q328 : (Jvm.Cond.methodLink "SalsaDeskLaw" (16 : Nat) ({ cls := "SalsaDesk", name := "put", desc := "(IIII)Z" } : Jvm.MethodName)) ∈ lw_all := lw_g (lw_at lw_m2 82 rfl) rfl
theorem q335 : (Jvm.Cond.methodLink "SalsaDeskLaw" (20 : Nat) ({ cls := "SalsaDesk", name := "trim", desc := "(I)V" } : Jvm.MethodName)) ∈ lw_all := lw_g (lw_at lw_m2 89 rfl) rfl
theorem q339 : (Jvm.Cond.methodLink "SalsaDeskLaw" (24 : Nat) ({ cls := "SalsaDesk", name := "key", desc := "(IIIII)V" } : Jvm.MethodName)) ∈ lw_all := lw_g (lw_at lw_m2 93 rfl) rfl
theorem q343 : (Jvm.Cond.methodLink "SalsaDeskLaw" (28 : Nat) ({ cls := "SalsaDesk", name := "nonce", desc := "(IIIII)V" } : Jvm.MethodName)) ∈ lw_all := lw_g (lw_at lw_m2 97 rfl) rfl
theorem q347 : (Jvm.Cond.methodLink "SalsaDeskLaw" (31 : Nat) ({ cls := "SalsaDesk", name := "begin", desc := "(I)V" } : Jvm.MethodName)) ∈ lw_all := lw_g (lw_at lw_m2 101 rfl) rfl
theorem q422 : (Jvm.Cond.methodLink "SalsaDeskLaw" (43 : Nat) ({ cls := "SalsaDeskLaw", name := "known", desc := "()Z" } : Jvm.MethodName)) ∈ lw_all := lw_g (lw_at lw_m2 176 rfl) rfl
theorem q423 : (Jvm.Cond.static ({ cls := "SalsaDeskLaw", name := "known", desc := "()Z" } : Jvm.MethodName)) ∈ lw_all := lw_g (lw_at lw_m2 177 rfl) rfl
theorem q424 : (Jvm.Cond.code ({ cls := "SalsaDeskLaw", name := "known", desc := "()Z" } : Jvm.MethodName) method_4_code (3 : Nat) (Option.some Jvm.ClassFile.FieldType.boolean)) ∈ lw_all := lw_g (lw_at lw_m2 178 rfl) rfl
theorem q425 : (Jvm.Cond.constant "SalsaDeskLaw" (34 : Nat) (-2147483648 : Int32)) ∈ lw_all := lw_g (lw_at lw_m2 179 rfl) rfl
theorem q426 : (Jvm.Cond.constant "SalsaDeskLaw" (51 : Nat) (2147483647 : Int32)) ∈ lw_all := lw_g (lw_at lw_m2 180 rfl) rfl
/-! the law's own entry -/
set_option maxRecDepth 100000
abbrev cL_law : ByteArray := code
def dkwL_law_13 : List UInt8 := [167, 255, 205, 4, 172]
abbrev dktL_law_13 : List UInt8 := dkwL_law_13 ++ []
def dkwL_law_12 : List UInt8 := [16, 24, 16, 8, 21, 7, 7, 112, 104, 100, 124, 17, 0, 255, 126, 159, 0, 5, 3, 172, 132, 7, 1]
abbrev dktL_law_12 : List UInt8 := dkwL_law_12 ++ dktL_law_13
def dkwL_law_11 : List UInt8 := [162, 0, 50, 45, 43, 21, 7, 182, 0, 39, 182, 0, 52, 42, 16, 20, 21, 7, 7, 108, 96, 184, 0, 10]
abbrev dktL_law_11 : List UInt8 := dkwL_law_11 ++ dktL_law_12
def dkwL_law_10 : List UInt8 := [159, 0, 5, 3, 172, 132, 7, 1, 167, 255, 185, 45, 182, 0, 55, 3, 54, 7, 21, 7, 21, 5]
abbrev dktL_law_10 : List UInt8 := dkwL_law_10 ++ dktL_law_11
def dkwL_law_9 : List UInt8 := [54, 9, 21, 9, 43, 21, 7, 182, 0, 39, 160, 0, 15, 25, 4, 21, 9, 182, 0, 52, 21, 8]
abbrev dktL_law_9 : List UInt8 := dkwL_law_9 ++ dktL_law_10
def dkwL_law_8 : List UInt8 := [16, 24, 16, 8, 21, 7, 7, 112, 104, 100, 124, 17, 0, 255, 126, 54, 8, 45, 21, 8, 182, 0, 52]
abbrev dktL_law_8 : List UInt8 := dkwL_law_8 ++ dktL_law_9
def dkwL_law_7 : List UInt8 := [167, 255, 154, 3, 54, 7, 21, 7, 21, 5, 162, 0, 70, 42, 16, 20, 21, 7, 7, 108, 96, 184, 0, 10]
abbrev dktL_law_7 : List UInt8 := dkwL_law_7 ++ dktL_law_8
def dkwL_law_6 : List UInt8 := [182, 0, 39, 159, 0, 5, 3, 172, 132, 9, 1, 167, 255, 226, 21, 6, 21, 8, 96, 54, 6, 132, 7, 1]
abbrev dktL_law_6 : List UInt8 := dkwL_law_6 ++ dktL_law_7
def dkwL_law_5 : List UInt8 := [172, 3, 54, 9, 21, 9, 21, 8, 162, 0, 29, 44, 21, 9, 182, 0, 39, 43, 21, 6, 21, 9, 96]
abbrev dktL_law_5 : List UInt8 := dkwL_law_5 ++ dktL_law_6
def dkwL_law_4 : List UInt8 := [21, 5, 21, 6, 100, 4, 96, 112, 54, 8, 44, 21, 6, 21, 8, 182, 0, 35, 21, 8, 159, 0, 5, 3]
abbrev dktL_law_4 : List UInt8 := dkwL_law_4 ++ dktL_law_5
def dkwL_law_3 : List UInt8 := [21, 7, 16, 18, 160, 0, 11, 21, 5, 21, 6, 100, 167, 0, 20, 42, 21, 7, 184, 0, 10, 18, 51, 126]
abbrev dktL_law_3 : List UInt8 := dkwL_law_3 ++ dktL_law_4
def dkwL_law_2 : List UInt8 := [182, 0, 35, 21, 5, 159, 0, 5, 3, 172, 3, 54, 6, 16, 14, 54, 7, 21, 7, 16, 19, 162, 0, 101]
abbrev dktL_law_2 : List UInt8 := dkwL_law_2 ++ dktL_law_3
def dkwL_law_1 : List UInt8 := [184, 0, 47, 58, 4, 42, 16, 13, 184, 0, 10, 18, 51, 126, 17, 0, 129, 112, 54, 5, 43, 3, 21, 5]
abbrev dktL_law_1 : List UInt8 := dkwL_law_1 ++ dktL_law_2
def dkwL_law_0 : List UInt8 := [184, 0, 43, 154, 0, 5, 3, 172, 42, 184, 0, 47, 76, 42, 184, 0, 47, 77, 42, 184, 0, 47, 78, 42]
abbrev dktL_law_0 : List UInt8 := dkwL_law_0 ++ dktL_law_1
theorem dksL_law_0 : cL_law.data.toList.drop 0 = dktL_law_0 := by decide +kernel
theorem dksL_law_1 : cL_law.data.toList.drop 24 = dktL_law_1 := dk_seg dksL_law_0 24 rfl rfl
theorem dksL_law_2 : cL_law.data.toList.drop 48 = dktL_law_2 := dk_seg dksL_law_1 24 rfl rfl
theorem dksL_law_3 : cL_law.data.toList.drop 72 = dktL_law_3 := dk_seg dksL_law_2 24 rfl rfl
theorem dksL_law_4 : cL_law.data.toList.drop 96 = dktL_law_4 := dk_seg dksL_law_3 24 rfl rfl
theorem dksL_law_5 : cL_law.data.toList.drop 120 = dktL_law_5 := dk_seg dksL_law_4 24 rfl rfl
theorem dksL_law_6 : cL_law.data.toList.drop 143 = dktL_law_6 := dk_seg dksL_law_5 23 rfl rfl
theorem dksL_law_7 : cL_law.data.toList.drop 167 = dktL_law_7 := dk_seg dksL_law_6 24 rfl rfl
theorem dksL_law_8 : cL_law.data.toList.drop 191 = dktL_law_8 := dk_seg dksL_law_7 24 rfl rfl
theorem dksL_law_9 : cL_law.data.toList.drop 214 = dktL_law_9 := dk_seg dksL_law_8 23 rfl rfl
theorem dksL_law_10 : cL_law.data.toList.drop 236 = dktL_law_10 := dk_seg dksL_law_9 22 rfl rfl
theorem dksL_law_11 : cL_law.data.toList.drop 258 = dktL_law_11 := dk_seg dksL_law_10 22 rfl rfl
theorem dksL_law_12 : cL_law.data.toList.drop 282 = dktL_law_12 := dk_seg dksL_law_11 24 rfl rfl
theorem dksL_law_13 : cL_law.data.toList.drop 305 = dktL_law_13 := dk_seg dksL_law_12 23 rfl rfl
theorem dL_law_0 : decode cL_law 0 = .ok (.invokestatic 43, 3) := dk_184 0 43 (dk_at dksL_law_0 0 rfl rfl)
theorem dL_law_3 : decode cL_law 3 = .ok (.ifCond .ne 5, 3) := dk_154 0 5 (dk_at dksL_law_0 3 rfl rfl)
theorem dL_law_6 : decode cL_law 6 = .ok (.iconst 0, 1) := dk_3 (dk_at dksL_law_0 6 rfl rfl)
theorem dL_law_7 : decode cL_law 7 = .ok (.ireturn, 1) := dk_172 (dk_at dksL_law_0 7 rfl rfl)
theorem dL_law_8 : decode cL_law 8 = .ok (.aload_n 0, 1) := dk_42 (dk_at dksL_law_0 8 rfl rfl)
theorem dL_law_9 : decode cL_law 9 = .ok (.invokestatic 47, 3) := dk_184 0 47 (dk_at dksL_law_0 9 rfl rfl)
theorem dL_law_12 : decode cL_law 12 = .ok (.astore_n 1, 1) := dk_76 (dk_at dksL_law_0 12 rfl rfl)
theorem dL_law_13 : decode cL_law 13 = .ok (.aload_n 0, 1) := dk_42 (dk_at dksL_law_0 13 rfl rfl)
theorem dL_law_14 : decode cL_law 14 = .ok (.invokestatic 47, 3) := dk_184 0 47 (dk_at dksL_law_0 14 rfl rfl)
theorem dL_law_17 : decode cL_law 17 = .ok (.astore_n 2, 1) := dk_77 (dk_at dksL_law_0 17 rfl rfl)
theorem dL_law_18 : decode cL_law 18 = .ok (.aload_n 0, 1) := dk_42 (dk_at dksL_law_0 18 rfl rfl)
theorem dL_law_19 : decode cL_law 19 = .ok (.invokestatic 47, 3) := dk_184 0 47 (dk_at dksL_law_0 19 rfl rfl)
theorem dL_law_22 : decode cL_law 22 = .ok (.astore_n 3, 1) := dk_78 (dk_at dksL_law_0 22 rfl rfl)
theorem dL_law_23 : decode cL_law 23 = .ok (.aload_n 0, 1) := dk_42 (dk_at dksL_law_0 23 rfl rfl)
theorem dL_law_24 : decode cL_law 24 = .ok (.invokestatic 47, 3) := dk_184 0 47 (dk_at dksL_law_1 0 rfl rfl)
theorem dL_law_27 : decode cL_law 27 = .ok (.astore 4, 2) := dk_58 4 (dk_at dksL_law_1 3 rfl rfl)
theorem dL_law_29 : decode cL_law 29 = .ok (.aload_n 0, 1) := dk_42 (dk_at dksL_law_1 5 rfl rfl)
theorem dL_law_30 : decode cL_law 30 = .ok (.bipush 13, 2) := dk_16 13 (dk_at dksL_law_1 6 rfl rfl)
theorem dL_law_32 : decode cL_law 32 = .ok (.invokestatic 10, 3) := dk_184 0 10 (dk_at dksL_law_1 8 rfl rfl)
theorem dL_law_35 : decode cL_law 35 = .ok (.ldc 51, 2) := dk_18 51 (dk_at dksL_law_1 11 rfl rfl)
theorem dL_law_37 : decode cL_law 37 = .ok (.iand, 1) := dk_126 (dk_at dksL_law_1 13 rfl rfl)
theorem dL_law_38 : decode cL_law 38 = .ok (.sipush 129, 3) := dk_17 0 129 (dk_at dksL_law_1 14 rfl rfl)
theorem dL_law_41 : decode cL_law 41 = .ok (.irem, 1) := dk_112 (dk_at dksL_law_1 17 rfl rfl)
theorem dL_law_42 : decode cL_law 42 = .ok (.istore 5, 2) := dk_54 5 (dk_at dksL_law_1 18 rfl rfl)
theorem dL_law_44 : decode cL_law 44 = .ok (.aload_n 1, 1) := dk_43 (dk_at dksL_law_1 20 rfl rfl)
theorem dL_law_45 : decode cL_law 45 = .ok (.iconst 0, 1) := dk_3 (dk_at dksL_law_1 21 rfl rfl)
theorem dL_law_46 : decode cL_law 46 = .ok (.iload 5, 2) := dk_21 5 (dk_at dksL_law_1 22 rfl rfl)
theorem dL_law_48 : decode cL_law 48 = .ok (.invokevirtual 35, 3) := dk_182 0 35 (dk_at dksL_law_2 0 rfl rfl)
theorem dL_law_51 : decode cL_law 51 = .ok (.iload 5, 2) := dk_21 5 (dk_at dksL_law_2 3 rfl rfl)
theorem dL_law_53 : decode cL_law 53 = .ok (.if_icmp .eq 5, 3) := dk_159 0 5 (dk_at dksL_law_2 5 rfl rfl)
theorem dL_law_56 : decode cL_law 56 = .ok (.iconst 0, 1) := dk_3 (dk_at dksL_law_2 8 rfl rfl)
theorem dL_law_57 : decode cL_law 57 = .ok (.ireturn, 1) := dk_172 (dk_at dksL_law_2 9 rfl rfl)
theorem dL_law_58 : decode cL_law 58 = .ok (.iconst 0, 1) := dk_3 (dk_at dksL_law_2 10 rfl rfl)
theorem dL_law_59 : decode cL_law 59 = .ok (.istore 6, 2) := dk_54 6 (dk_at dksL_law_2 11 rfl rfl)
theorem dL_law_61 : decode cL_law 61 = .ok (.bipush 14, 2) := dk_16 14 (dk_at dksL_law_2 13 rfl rfl)
theorem dL_law_63 : decode cL_law 63 = .ok (.istore 7, 2) := dk_54 7 (dk_at dksL_law_2 15 rfl rfl)
theorem dL_law_65 : decode cL_law 65 = .ok (.iload 7, 2) := dk_21 7 (dk_at dksL_law_2 17 rfl rfl)
theorem dL_law_67 : decode cL_law 67 = .ok (.bipush 19, 2) := dk_16 19 (dk_at dksL_law_2 19 rfl rfl)
theorem dL_law_69 : decode cL_law 69 = .ok (.if_icmp .ge 101, 3) := dk_162 0 101 (dk_at dksL_law_2 21 rfl rfl)
theorem dL_law_72 : decode cL_law 72 = .ok (.iload 7, 2) := dk_21 7 (dk_at dksL_law_3 0 rfl rfl)
theorem dL_law_74 : decode cL_law 74 = .ok (.bipush 18, 2) := dk_16 18 (dk_at dksL_law_3 2 rfl rfl)
theorem dL_law_76 : decode cL_law 76 = .ok (.if_icmp .ne 11, 3) := dk_160 0 11 (dk_at dksL_law_3 4 rfl rfl)
theorem dL_law_79 : decode cL_law 79 = .ok (.iload 5, 2) := dk_21 5 (dk_at dksL_law_3 7 rfl rfl)
theorem dL_law_81 : decode cL_law 81 = .ok (.iload 6, 2) := dk_21 6 (dk_at dksL_law_3 9 rfl rfl)
theorem dL_law_83 : decode cL_law 83 = .ok (.isub, 1) := dk_100 (dk_at dksL_law_3 11 rfl rfl)
theorem dL_law_84 : decode cL_law 84 = .ok (.goto 20, 3) := dk_167 0 20 (dk_at dksL_law_3 12 rfl rfl)
theorem dL_law_87 : decode cL_law 87 = .ok (.aload_n 0, 1) := dk_42 (dk_at dksL_law_3 15 rfl rfl)
theorem dL_law_88 : decode cL_law 88 = .ok (.iload 7, 2) := dk_21 7 (dk_at dksL_law_3 16 rfl rfl)
theorem dL_law_90 : decode cL_law 90 = .ok (.invokestatic 10, 3) := dk_184 0 10 (dk_at dksL_law_3 18 rfl rfl)
theorem dL_law_93 : decode cL_law 93 = .ok (.ldc 51, 2) := dk_18 51 (dk_at dksL_law_3 21 rfl rfl)
theorem dL_law_95 : decode cL_law 95 = .ok (.iand, 1) := dk_126 (dk_at dksL_law_3 23 rfl rfl)
theorem dL_law_96 : decode cL_law 96 = .ok (.iload 5, 2) := dk_21 5 (dk_at dksL_law_4 0 rfl rfl)
theorem dL_law_98 : decode cL_law 98 = .ok (.iload 6, 2) := dk_21 6 (dk_at dksL_law_4 2 rfl rfl)
theorem dL_law_100 : decode cL_law 100 = .ok (.isub, 1) := dk_100 (dk_at dksL_law_4 4 rfl rfl)
theorem dL_law_101 : decode cL_law 101 = .ok (.iconst 1, 1) := dk_4 (dk_at dksL_law_4 5 rfl rfl)
theorem dL_law_102 : decode cL_law 102 = .ok (.iadd, 1) := dk_96 (dk_at dksL_law_4 6 rfl rfl)
theorem dL_law_103 : decode cL_law 103 = .ok (.irem, 1) := dk_112 (dk_at dksL_law_4 7 rfl rfl)
theorem dL_law_104 : decode cL_law 104 = .ok (.istore 8, 2) := dk_54 8 (dk_at dksL_law_4 8 rfl rfl)
theorem dL_law_106 : decode cL_law 106 = .ok (.aload_n 2, 1) := dk_44 (dk_at dksL_law_4 10 rfl rfl)
theorem dL_law_107 : decode cL_law 107 = .ok (.iload 6, 2) := dk_21 6 (dk_at dksL_law_4 11 rfl rfl)
theorem dL_law_109 : decode cL_law 109 = .ok (.iload 8, 2) := dk_21 8 (dk_at dksL_law_4 13 rfl rfl)
theorem dL_law_111 : decode cL_law 111 = .ok (.invokevirtual 35, 3) := dk_182 0 35 (dk_at dksL_law_4 15 rfl rfl)
theorem dL_law_114 : decode cL_law 114 = .ok (.iload 8, 2) := dk_21 8 (dk_at dksL_law_4 18 rfl rfl)
theorem dL_law_116 : decode cL_law 116 = .ok (.if_icmp .eq 5, 3) := dk_159 0 5 (dk_at dksL_law_4 20 rfl rfl)
theorem dL_law_119 : decode cL_law 119 = .ok (.iconst 0, 1) := dk_3 (dk_at dksL_law_4 23 rfl rfl)
theorem dL_law_120 : decode cL_law 120 = .ok (.ireturn, 1) := dk_172 (dk_at dksL_law_5 0 rfl rfl)
theorem dL_law_121 : decode cL_law 121 = .ok (.iconst 0, 1) := dk_3 (dk_at dksL_law_5 1 rfl rfl)
theorem dL_law_122 : decode cL_law 122 = .ok (.istore 9, 2) := dk_54 9 (dk_at dksL_law_5 2 rfl rfl)
theorem dL_law_124 : decode cL_law 124 = .ok (.iload 9, 2) := dk_21 9 (dk_at dksL_law_5 4 rfl rfl)
theorem dL_law_126 : decode cL_law 126 = .ok (.iload 8, 2) := dk_21 8 (dk_at dksL_law_5 6 rfl rfl)
theorem dL_law_128 : decode cL_law 128 = .ok (.if_icmp .ge 29, 3) := dk_162 0 29 (dk_at dksL_law_5 8 rfl rfl)
theorem dL_law_131 : decode cL_law 131 = .ok (.aload_n 2, 1) := dk_44 (dk_at dksL_law_5 11 rfl rfl)
theorem dL_law_132 : decode cL_law 132 = .ok (.iload 9, 2) := dk_21 9 (dk_at dksL_law_5 12 rfl rfl)
theorem dL_law_134 : decode cL_law 134 = .ok (.invokevirtual 39, 3) := dk_182 0 39 (dk_at dksL_law_5 14 rfl rfl)
theorem dL_law_137 : decode cL_law 137 = .ok (.aload_n 1, 1) := dk_43 (dk_at dksL_law_5 17 rfl rfl)
theorem dL_law_138 : decode cL_law 138 = .ok (.iload 6, 2) := dk_21 6 (dk_at dksL_law_5 18 rfl rfl)
theorem dL_law_140 : decode cL_law 140 = .ok (.iload 9, 2) := dk_21 9 (dk_at dksL_law_5 20 rfl rfl)
theorem dL_law_142 : decode cL_law 142 = .ok (.iadd, 1) := dk_96 (dk_at dksL_law_5 22 rfl rfl)
theorem dL_law_143 : decode cL_law 143 = .ok (.invokevirtual 39, 3) := dk_182 0 39 (dk_at dksL_law_6 0 rfl rfl)
theorem dL_law_146 : decode cL_law 146 = .ok (.if_icmp .eq 5, 3) := dk_159 0 5 (dk_at dksL_law_6 3 rfl rfl)
theorem dL_law_149 : decode cL_law 149 = .ok (.iconst 0, 1) := dk_3 (dk_at dksL_law_6 6 rfl rfl)
theorem dL_law_150 : decode cL_law 150 = .ok (.ireturn, 1) := dk_172 (dk_at dksL_law_6 7 rfl rfl)
theorem dL_law_151 : decode cL_law 151 = .ok (.iinc 9 1, 3) := dk_132 9 1 (dk_at dksL_law_6 8 rfl rfl)
theorem dL_law_154 : decode cL_law 154 = .ok (.goto (-30), 3) := dk_167 255 226 (dk_at dksL_law_6 11 rfl rfl)
theorem dL_law_157 : decode cL_law 157 = .ok (.iload 6, 2) := dk_21 6 (dk_at dksL_law_6 14 rfl rfl)
theorem dL_law_159 : decode cL_law 159 = .ok (.iload 8, 2) := dk_21 8 (dk_at dksL_law_6 16 rfl rfl)
theorem dL_law_161 : decode cL_law 161 = .ok (.iadd, 1) := dk_96 (dk_at dksL_law_6 18 rfl rfl)
theorem dL_law_162 : decode cL_law 162 = .ok (.istore 6, 2) := dk_54 6 (dk_at dksL_law_6 19 rfl rfl)
theorem dL_law_164 : decode cL_law 164 = .ok (.iinc 7 1, 3) := dk_132 7 1 (dk_at dksL_law_6 21 rfl rfl)
theorem dL_law_167 : decode cL_law 167 = .ok (.goto (-102), 3) := dk_167 255 154 (dk_at dksL_law_7 0 rfl rfl)
theorem dL_law_170 : decode cL_law 170 = .ok (.iconst 0, 1) := dk_3 (dk_at dksL_law_7 3 rfl rfl)
theorem dL_law_171 : decode cL_law 171 = .ok (.istore 7, 2) := dk_54 7 (dk_at dksL_law_7 4 rfl rfl)
theorem dL_law_173 : decode cL_law 173 = .ok (.iload 7, 2) := dk_21 7 (dk_at dksL_law_7 6 rfl rfl)
theorem dL_law_175 : decode cL_law 175 = .ok (.iload 5, 2) := dk_21 5 (dk_at dksL_law_7 8 rfl rfl)
theorem dL_law_177 : decode cL_law 177 = .ok (.if_icmp .ge 70, 3) := dk_162 0 70 (dk_at dksL_law_7 10 rfl rfl)
theorem dL_law_180 : decode cL_law 180 = .ok (.aload_n 0, 1) := dk_42 (dk_at dksL_law_7 13 rfl rfl)
theorem dL_law_181 : decode cL_law 181 = .ok (.bipush 20, 2) := dk_16 20 (dk_at dksL_law_7 14 rfl rfl)
theorem dL_law_183 : decode cL_law 183 = .ok (.iload 7, 2) := dk_21 7 (dk_at dksL_law_7 16 rfl rfl)
theorem dL_law_185 : decode cL_law 185 = .ok (.iconst 4, 1) := dk_7 (dk_at dksL_law_7 18 rfl rfl)
theorem dL_law_186 : decode cL_law 186 = .ok (.idiv, 1) := dk_108 (dk_at dksL_law_7 19 rfl rfl)
theorem dL_law_187 : decode cL_law 187 = .ok (.iadd, 1) := dk_96 (dk_at dksL_law_7 20 rfl rfl)
theorem dL_law_188 : decode cL_law 188 = .ok (.invokestatic 10, 3) := dk_184 0 10 (dk_at dksL_law_7 21 rfl rfl)
theorem dL_law_191 : decode cL_law 191 = .ok (.bipush 24, 2) := dk_16 24 (dk_at dksL_law_8 0 rfl rfl)
theorem dL_law_193 : decode cL_law 193 = .ok (.bipush 8, 2) := dk_16 8 (dk_at dksL_law_8 2 rfl rfl)
theorem dL_law_195 : decode cL_law 195 = .ok (.iload 7, 2) := dk_21 7 (dk_at dksL_law_8 4 rfl rfl)
theorem dL_law_197 : decode cL_law 197 = .ok (.iconst 4, 1) := dk_7 (dk_at dksL_law_8 6 rfl rfl)
theorem dL_law_198 : decode cL_law 198 = .ok (.irem, 1) := dk_112 (dk_at dksL_law_8 7 rfl rfl)
theorem dL_law_199 : decode cL_law 199 = .ok (.imul, 1) := dk_104 (dk_at dksL_law_8 8 rfl rfl)
theorem dL_law_200 : decode cL_law 200 = .ok (.isub, 1) := dk_100 (dk_at dksL_law_8 9 rfl rfl)
theorem dL_law_201 : decode cL_law 201 = .ok (.iushr, 1) := dk_124 (dk_at dksL_law_8 10 rfl rfl)
theorem dL_law_202 : decode cL_law 202 = .ok (.sipush 255, 3) := dk_17 0 255 (dk_at dksL_law_8 11 rfl rfl)
theorem dL_law_205 : decode cL_law 205 = .ok (.iand, 1) := dk_126 (dk_at dksL_law_8 14 rfl rfl)
theorem dL_law_206 : decode cL_law 206 = .ok (.istore 8, 2) := dk_54 8 (dk_at dksL_law_8 15 rfl rfl)
theorem dL_law_208 : decode cL_law 208 = .ok (.aload_n 3, 1) := dk_45 (dk_at dksL_law_8 17 rfl rfl)
theorem dL_law_209 : decode cL_law 209 = .ok (.iload 8, 2) := dk_21 8 (dk_at dksL_law_8 18 rfl rfl)
theorem dL_law_211 : decode cL_law 211 = .ok (.invokevirtual 52, 3) := dk_182 0 52 (dk_at dksL_law_8 20 rfl rfl)
theorem dL_law_214 : decode cL_law 214 = .ok (.istore 9, 2) := dk_54 9 (dk_at dksL_law_9 0 rfl rfl)
theorem dL_law_216 : decode cL_law 216 = .ok (.iload 9, 2) := dk_21 9 (dk_at dksL_law_9 2 rfl rfl)
theorem dL_law_218 : decode cL_law 218 = .ok (.aload_n 1, 1) := dk_43 (dk_at dksL_law_9 4 rfl rfl)
theorem dL_law_219 : decode cL_law 219 = .ok (.iload 7, 2) := dk_21 7 (dk_at dksL_law_9 5 rfl rfl)
theorem dL_law_221 : decode cL_law 221 = .ok (.invokevirtual 39, 3) := dk_182 0 39 (dk_at dksL_law_9 7 rfl rfl)
theorem dL_law_224 : decode cL_law 224 = .ok (.if_icmp .ne 15, 3) := dk_160 0 15 (dk_at dksL_law_9 10 rfl rfl)
theorem dL_law_227 : decode cL_law 227 = .ok (.aload 4, 2) := dk_25 4 (dk_at dksL_law_9 13 rfl rfl)
theorem dL_law_229 : decode cL_law 229 = .ok (.iload 9, 2) := dk_21 9 (dk_at dksL_law_9 15 rfl rfl)
theorem dL_law_231 : decode cL_law 231 = .ok (.invokevirtual 52, 3) := dk_182 0 52 (dk_at dksL_law_9 17 rfl rfl)
theorem dL_law_234 : decode cL_law 234 = .ok (.iload 8, 2) := dk_21 8 (dk_at dksL_law_9 20 rfl rfl)
theorem dL_law_236 : decode cL_law 236 = .ok (.if_icmp .eq 5, 3) := dk_159 0 5 (dk_at dksL_law_10 0 rfl rfl)
theorem dL_law_239 : decode cL_law 239 = .ok (.iconst 0, 1) := dk_3 (dk_at dksL_law_10 3 rfl rfl)
theorem dL_law_240 : decode cL_law 240 = .ok (.ireturn, 1) := dk_172 (dk_at dksL_law_10 4 rfl rfl)
theorem dL_law_241 : decode cL_law 241 = .ok (.iinc 7 1, 3) := dk_132 7 1 (dk_at dksL_law_10 5 rfl rfl)
theorem dL_law_244 : decode cL_law 244 = .ok (.goto (-71), 3) := dk_167 255 185 (dk_at dksL_law_10 8 rfl rfl)
theorem dL_law_247 : decode cL_law 247 = .ok (.aload_n 3, 1) := dk_45 (dk_at dksL_law_10 11 rfl rfl)
theorem dL_law_248 : decode cL_law 248 = .ok (.invokevirtual 55, 3) := dk_182 0 55 (dk_at dksL_law_10 12 rfl rfl)
theorem dL_law_251 : decode cL_law 251 = .ok (.iconst 0, 1) := dk_3 (dk_at dksL_law_10 15 rfl rfl)
theorem dL_law_252 : decode cL_law 252 = .ok (.istore 7, 2) := dk_54 7 (dk_at dksL_law_10 16 rfl rfl)
theorem dL_law_254 : decode cL_law 254 = .ok (.iload 7, 2) := dk_21 7 (dk_at dksL_law_10 18 rfl rfl)
theorem dL_law_256 : decode cL_law 256 = .ok (.iload 5, 2) := dk_21 5 (dk_at dksL_law_10 20 rfl rfl)
theorem dL_law_258 : decode cL_law 258 = .ok (.if_icmp .ge 50, 3) := dk_162 0 50 (dk_at dksL_law_11 0 rfl rfl)
theorem dL_law_261 : decode cL_law 261 = .ok (.aload_n 3, 1) := dk_45 (dk_at dksL_law_11 3 rfl rfl)
theorem dL_law_262 : decode cL_law 262 = .ok (.aload_n 1, 1) := dk_43 (dk_at dksL_law_11 4 rfl rfl)
theorem dL_law_263 : decode cL_law 263 = .ok (.iload 7, 2) := dk_21 7 (dk_at dksL_law_11 5 rfl rfl)
theorem dL_law_265 : decode cL_law 265 = .ok (.invokevirtual 39, 3) := dk_182 0 39 (dk_at dksL_law_11 7 rfl rfl)
theorem dL_law_268 : decode cL_law 268 = .ok (.invokevirtual 52, 3) := dk_182 0 52 (dk_at dksL_law_11 10 rfl rfl)
theorem dL_law_271 : decode cL_law 271 = .ok (.aload_n 0, 1) := dk_42 (dk_at dksL_law_11 13 rfl rfl)
theorem dL_law_272 : decode cL_law 272 = .ok (.bipush 20, 2) := dk_16 20 (dk_at dksL_law_11 14 rfl rfl)
theorem dL_law_274 : decode cL_law 274 = .ok (.iload 7, 2) := dk_21 7 (dk_at dksL_law_11 16 rfl rfl)
theorem dL_law_276 : decode cL_law 276 = .ok (.iconst 4, 1) := dk_7 (dk_at dksL_law_11 18 rfl rfl)
theorem dL_law_277 : decode cL_law 277 = .ok (.idiv, 1) := dk_108 (dk_at dksL_law_11 19 rfl rfl)
theorem dL_law_278 : decode cL_law 278 = .ok (.iadd, 1) := dk_96 (dk_at dksL_law_11 20 rfl rfl)
theorem dL_law_279 : decode cL_law 279 = .ok (.invokestatic 10, 3) := dk_184 0 10 (dk_at dksL_law_11 21 rfl rfl)
theorem dL_law_282 : decode cL_law 282 = .ok (.bipush 24, 2) := dk_16 24 (dk_at dksL_law_12 0 rfl rfl)
theorem dL_law_284 : decode cL_law 284 = .ok (.bipush 8, 2) := dk_16 8 (dk_at dksL_law_12 2 rfl rfl)
theorem dL_law_286 : decode cL_law 286 = .ok (.iload 7, 2) := dk_21 7 (dk_at dksL_law_12 4 rfl rfl)
theorem dL_law_288 : decode cL_law 288 = .ok (.iconst 4, 1) := dk_7 (dk_at dksL_law_12 6 rfl rfl)
theorem dL_law_289 : decode cL_law 289 = .ok (.irem, 1) := dk_112 (dk_at dksL_law_12 7 rfl rfl)
theorem dL_law_290 : decode cL_law 290 = .ok (.imul, 1) := dk_104 (dk_at dksL_law_12 8 rfl rfl)
theorem dL_law_291 : decode cL_law 291 = .ok (.isub, 1) := dk_100 (dk_at dksL_law_12 9 rfl rfl)
theorem dL_law_292 : decode cL_law 292 = .ok (.iushr, 1) := dk_124 (dk_at dksL_law_12 10 rfl rfl)
theorem dL_law_293 : decode cL_law 293 = .ok (.sipush 255, 3) := dk_17 0 255 (dk_at dksL_law_12 11 rfl rfl)
theorem dL_law_296 : decode cL_law 296 = .ok (.iand, 1) := dk_126 (dk_at dksL_law_12 14 rfl rfl)
theorem dL_law_297 : decode cL_law 297 = .ok (.if_icmp .eq 5, 3) := dk_159 0 5 (dk_at dksL_law_12 15 rfl rfl)
theorem dL_law_300 : decode cL_law 300 = .ok (.iconst 0, 1) := dk_3 (dk_at dksL_law_12 18 rfl rfl)
theorem dL_law_301 : decode cL_law 301 = .ok (.ireturn, 1) := dk_172 (dk_at dksL_law_12 19 rfl rfl)
theorem dL_law_302 : decode cL_law 302 = .ok (.iinc 7 1, 3) := dk_132 7 1 (dk_at dksL_law_12 20 rfl rfl)
theorem dL_law_305 : decode cL_law 305 = .ok (.goto (-51), 3) := dk_167 255 205 (dk_at dksL_law_13 0 rfl rfl)
theorem dL_law_308 : decode cL_law 308 = .ok (.iconst 1, 1) := dk_4 (dk_at dksL_law_13 3 rfl rfl)
theorem dL_law_309 : decode cL_law 309 = .ok (.ireturn, 1) := dk_172 (dk_at dksL_law_13 4 rfl rfl)
end
section
/-! OWN ROWS: contracts in one shape, calls and returns packed -/
set_option maxRecDepth 100000
abbrev vwCl : List vw_C := [(RX1, TX1, 8), (RX2, TX2, 9), (RX3, TX3, 2), (RX4, TX4, 1)]
abbrev zTy (cB cI : ClassId) : List (ClassId × FieldType) := [(cB, .byte), (cI, .int)]
/-- what is carried along of the old heap: it holds on, and in a part -/
def zGood (E : (Nat → Prop) → State → Prop) : Prop := ∀ (A B : Nat → Prop) (u U : State), u.vm.Alike U.vm → (∀ a : Nat, a < u.heap.size → ¬ A a → U.heap[a]? = u.heap[a]?) → u.heap.size ≤ U.heap.size → (∀ q, B q → A q) → E A u → E B U
def zNo : (Nat → Prop) → State → Prop := fun _ _ => True
theorem zNo_good : zGood zNo := fun _ _ _ _ _ _ _ _ _ => trivial
abbrev zPre (E : (Nat → Prop) → State → Prop) (D : va_G) (cB cI : ClassId) (sz : Nat) (ws : va_W) (U : State) : Prop := U.heap.size = sz ∧ va_P D vwCl ws U.heap ∧ va_K D vwCl (zTy cB cI) U ∧ va_D (fun _ => True) ws ∧ E (va_A ws sz) U
abbrev zB (D : va_G) (A : Nat → Prop) (ws : va_W) (t : State) : Prop := va_P D vwCl ws t.heap ∧ va_D A ws
abbrev zRm (fr lo mc ms : Nat) : Room := { frames := fr, cells := mc, slots := ms, locals := lo }
/-- the contracts: void, int, a reference; reading only: an int, a reference -/
abbrev zMv (l : Launch) (y : MethodName) (b : ByteArray) (L : Nat) (r : Option FieldType) (fr lo mc ms : Nat) (av : List Value) (E : (Nat → Prop) → State → Prop) (D : va_G) (cB cI : ClassId) (sz : Nat) (ws : va_W) (B : (Nat → Prop) → State → Prop) : Prop := Met l y (ws_ y b L r) (zRm fr lo mc ms) (va_Pc av (zPre E D cB cI sz ws)) (va_Qv (fun _ : Unit => True) (fun _ t => B (va_A ws sz) t) (va_A ws sz)) mc ms (va_A ws sz)
abbrev zMi (l : Launch) (y : MethodName) (b : ByteArray) (L : Nat) (r : Option FieldType) (fr lo mc ms : Nat) (av : List Value) (E : (Nat → Prop) → State → Prop) (D : va_G) (cB cI : ClassId) (sz : Nat) (ws : va_W) (v : Int32) (B : (Nat → Prop) → State → Prop) : Prop := Met l y (ws_ y b L r) (zRm fr lo mc ms) (va_Pc av (zPre E D cB cI sz ws)) (va_Qi (fun (x : Int32) (_ : Unit) => x = v) (fun _ t => B (va_A ws sz) t) (va_A ws sz)) mc ms (va_A ws sz)
abbrev zMr (l : Launch) (y : MethodName) (b : ByteArray) (L : Nat) (r : Option FieldType) (fr lo mc ms : Nat) (av : List Value) (E : (Nat → Prop) → State → Prop) (D : va_G) (cB cI : ClassId) (sz : Nat) (ws : va_W) (B : (Nat → Prop) → Nat → State → Prop) : Prop := Met l y (ws_ y b L r) (zRm fr lo mc ms) (va_Pc av (zPre E D cB cI sz ws)) (va_Qr (fun _ : Unit => True) (fun _ a t => B (va_A ws sz) a t) (va_A ws sz)) mc ms (va_A ws sz)
abbrev zRi (l : Launch) (y : MethodName) (b : ByteArray) (L : Nat) (r : Option FieldType) (fr lo : Nat) (av : List Value) (E : (Nat → Prop) → State → Prop) (D : va_G) (cB cI : ClassId) (sz : Nat) (ws : va_W) (v : Int32) : Prop := Met l y (ws_ y b L r) (zRm fr lo 0 0) (va_Pc av (zPre E D cB cI sz ws)) (QcRead v) 0 0 (fun _ => False)
abbrev zRr (l : Launch) (y : MethodName) (b : ByteArray) (L : Nat) (r : Option FieldType) (fr lo : Nat) (av : List Value) (E : (Nat → Prop) → State → Prop) (D : va_G) (cB cI : ClassId) (sz : Nat) (ws : va_W) (v : Nat) : Prop := Met l y (ws_ y b L r) (zRm fr lo 0 0) (va_Pc av (zPre E D cB cI sz ws)) (va_Sr (fun _ => True) (fun _ => .ref v)) 0 0 (fun _ => False)
abbrev zQv (below : List Frame) (B : (Nat → Prop) → State → Prop) (A : Nat → Prop) (av : List Value) (s : State) (mc ms : Nat) : State → Prop := MQ below (va_Qv (fun _ : Unit => True) (fun _ t => B A t) A) av.toArray s mc ms A
abbrev zQi (below : List Frame) (v : Int32) (B : (Nat → Prop) → State → Prop) (A : Nat → Prop) (av : List Value) (s : State) (mc ms : Nat) : State → Prop := MQ below (va_Qi (fun (x : Int32) (_ : Unit) => x = v) (fun _ t => B A t) A) av.toArray s mc ms A
abbrev zQr (below : List Frame) (B : (Nat → Prop) → Nat → State → Prop) (A : Nat → Prop) (av : List Value) (s : State) (mc ms : Nat) : State → Prop := MQ below (va_Qr (fun _ : Unit => True) (fun _ a t => B A a t) A) av.toArray s mc ms A
theorem z_of {l : Launch} {y : MethodName} {cc : ByteArray} {maxL : Nat} {ret : Option FieldType} {fr lo mc ms : Nat} {av : List Value} {E : (Nat → Prop) → State → Prop} {D : va_G} {cB cI : ClassId} {sz : Nat} {ws : va_W} {Qc : Array Value → State → Outcome → State → Prop} {free : Addr → Prop} {C : String} (hC : y.cls = C) (hy : plainName y.cls = true) (hlen : (lg_sl av).length ≤ maxL)
    (body : ∀ (p : Program) (e : Env) (s : State) (m : MethodId) (below : List Frame) (meth : Method) (c : Code), s.heap.size = sz → p.tables.exec = Jvm.exec → c.code = cc → meth.sig.returnType = ret → meth.locks = false → c.maxLocals = maxL → s.vm.findClass C = some m.cls → meth.name = y.name → (∀ w ∈ lw_all, w.before av.toArray s = true) → va_K D vwCl (zTy cB cI) s → va_P D vwCl ws s.heap → va_D (va_A ws sz) ws → (∀ q : Nat, s.heap.size ≤ q → va_A ws sz q) → E (va_A ws sz) s → va_S (va_A ws sz) s.heap s.heap [] → ∀ ls : Array Slot, lv_has ls maxL (lv_args 0 av) → W p l e (zRm fr lo mc ms) s m av.toArray below meth c s.heap [] 0 0 (MQ below Qc av.toArray s mc ms free) (F0 m 0 ls [])) :
    Met l y (ws_ y cc maxL ret) (zRm fr lo mc ms) (va_Pc av (zPre E D cB cI sz ws)) Qc mc ms free := by
  refine Met.ofW (cc := cc) (maxL := maxL) (ret := ret) hy rfl ?_
  intro p e s m args below meth c s₁ B hml hv
  obtain ⟨rfl, hsz, hP, hK, hD0, hE⟩ := hv
  have hts := atoms_spec (ws := ws_ y cc maxL ret) B.pre
  have hts : ∀ w ∈ lw_all, w.before _ s = true := fun w h => hts w (List.mem_cons_of_mem _ h)
  rw [lg_entry_eq]
  exact body p e s m below meth c hsz B.exec B.bytes B.returns B.notSynchronized hml (hC ▸ findClass_of_methodNamed B.named) (name_of_methodNamed B.named B.method).1 hts hK hP hD0.self (fun q h => Or.inr (hsz ▸ h)) hE va_S.rf _ (lv_entry av hlen)
theorem z_ofv {l : Launch} {y : MethodName} {cc : ByteArray} {maxL : Nat} {ret : Option FieldType} {fr lo mc ms : Nat} {av : List Value} {E : (Nat → Prop) → State → Prop} {D : va_G} {cB cI : ClassId} {sz : Nat} {ws : va_W} {B : (Nat → Prop) → State → Prop} {C : String} (hC : y.cls = C) (hy : plainName y.cls = true) (hlen : (lg_sl av).length ≤ maxL)
    (body : ∀ (p : Program) (e : Env) (s : State) (m : MethodId) (below : List Frame) (meth : Method) (c : Code) (A : Nat → Prop), p.tables.exec = Jvm.exec → c.code = cc → meth.sig.returnType = ret → meth.locks = false → c.maxLocals = maxL → s.vm.findClass C = some m.cls → meth.name = y.name → (∀ w ∈ lw_all, w.before av.toArray s = true) → va_K D vwCl (zTy cB cI) s → va_P D vwCl ws s.heap → va_D A ws → (∀ q : Nat, s.heap.size ≤ q → A q) → E A s → va_S A s.heap s.heap [] → ∀ ls : Array Slot, lv_has ls maxL (lv_args 0 av) → W p l e (zRm fr lo mc ms) s m av.toArray below meth c s.heap [] 0 0 (zQv below B A av s mc ms) (F0 m 0 ls [])) : zMv l y cc maxL ret fr lo mc ms av E D cB cI sz ws B :=
  z_of hC hy hlen fun p e s m below meth c _ => body p e s m below meth c _
theorem z_ofi {l : Launch} {y : MethodName} {cc : ByteArray} {maxL : Nat} {ret : Option FieldType} {fr lo mc ms : Nat} {av : List Value} {E : (Nat → Prop) → State → Prop} {D : va_G} {cB cI : ClassId} {sz : Nat} {ws : va_W} {v : Int32} {B : (Nat → Prop) → State → Prop} {C : String} (hC : y.cls = C) (hy : plainName y.cls = true) (hlen : (lg_sl av).length ≤ maxL)
    (body : ∀ (p : Program) (e : Env) (s : State) (m : MethodId) (below : List Frame) (meth : Method) (c : Code) (A : Nat → Prop), p.tables.exec = Jvm.exec → c.code = cc → meth.sig.returnType = ret → meth.locks = false → c.maxLocals = maxL → s.vm.findClass C = some m.cls → meth.name = y.name → (∀ w ∈ lw_all, w.before av.toArray s = true) → va_K D vwCl (zTy cB cI) s → va_P D vwCl ws s.heap → va_D A ws → (∀ q : Nat, s.heap.size ≤ q → A q) → E A s → va_S A s.heap s.heap [] → ∀ ls : Array Slot, lv_has ls maxL (lv_args 0 av) → W p l e (zRm fr lo mc ms) s m av.toArray below meth c s.heap [] 0 0 (zQi below v B A av s mc ms) (F0 m 0 ls [])) : zMi l y cc maxL ret fr lo mc ms av E D cB cI sz ws v B :=
  z_of hC hy hlen fun p e s m below meth c _ => body p e s m below meth c _
theorem z_ofr {l : Launch} {y : MethodName} {cc : ByteArray} {maxL : Nat} {ret : Option FieldType} {fr lo mc ms : Nat} {av : List Value} {E : (Nat → Prop) → State → Prop} {D : va_G} {cB cI : ClassId} {sz : Nat} {ws : va_W} {B : (Nat → Prop) → Nat → State → Prop} {C : String} (hC : y.cls = C) (hy : plainName y.cls = true) (hlen : (lg_sl av).length ≤ maxL)
    (body : ∀ (p : Program) (e : Env) (s : State) (m : MethodId) (below : List Frame) (meth : Method) (c : Code) (A : Nat → Prop), p.tables.exec = Jvm.exec → c.code = cc → meth.sig.returnType = ret → meth.locks = false → c.maxLocals = maxL → s.vm.findClass C = some m.cls → meth.name = y.name → (∀ w ∈ lw_all, w.before av.toArray s = true) → va_K D vwCl (zTy cB cI) s → va_P D vwCl ws s.heap → va_D A ws → (∀ q : Nat, s.heap.size ≤ q → A q) → E A s → va_S A s.heap s.heap [] → ∀ ls : Array Slot, lv_has ls maxL (lv_args 0 av) → W p l e (zRm fr lo mc ms) s m av.toArray below meth c s.heap [] 0 0 (zQr below B A av s mc ms) (F0 m 0 ls [])) : zMr l y cc maxL ret fr lo mc ms av E D cB cI sz ws B :=
  z_of hC hy hlen fun p e s m below meth c _ => body p e s m below meth c _
theorem z_ofR {l : Launch} {y : MethodName} {cc : ByteArray} {maxL : Nat} {ret : Option FieldType} {fr lo : Nat} {av : List Value} {E : (Nat → Prop) → State → Prop} {D : va_G} {cB cI : ClassId} {sz : Nat} {ws : va_W} {v : Int32} {C : String} (hC : y.cls = C) (hy : plainName y.cls = true) (hlen : (lg_sl av).length ≤ maxL)
    (body : ∀ (p : Program) (e : Env) (s : State) (m : MethodId) (below : List Frame) (meth : Method) (c : Code) (A : Nat → Prop), p.tables.exec = Jvm.exec → c.code = cc → meth.sig.returnType = ret → meth.locks = false → c.maxLocals = maxL → s.vm.findClass C = some m.cls → meth.name = y.name → (∀ w ∈ lw_all, w.before av.toArray s = true) → va_K D vwCl (zTy cB cI) s → va_P D vwCl ws s.heap → va_D A ws → (∀ q : Nat, s.heap.size ≤ q → A q) → E A s → va_S A s.heap s.heap [] → ∀ ls : Array Slot, lv_has ls maxL (lv_args 0 av) → W p l e (zRm fr lo 0 0) s m av.toArray below meth c s.heap [] 0 0 (MQ below (QcRead v) av.toArray s 0 0 (fun _ => False)) (F0 m 0 ls [])) : zRi l y cc maxL ret fr lo av E D cB cI sz ws v :=
  z_of hC hy hlen fun p e s m below meth c _ => body p e s m below meth c _
theorem z_ofQ {l : Launch} {y : MethodName} {cc : ByteArray} {maxL : Nat} {ret : Option FieldType} {fr lo : Nat} {av : List Value} {E : (Nat → Prop) → State → Prop} {D : va_G} {cB cI : ClassId} {sz : Nat} {ws : va_W} {v : Nat} {C : String} (hC : y.cls = C) (hy : plainName y.cls = true) (hlen : (lg_sl av).length ≤ maxL)
    (body : ∀ (p : Program) (e : Env) (s : State) (m : MethodId) (below : List Frame) (meth : Method) (c : Code) (A : Nat → Prop), p.tables.exec = Jvm.exec → c.code = cc → meth.sig.returnType = ret → meth.locks = false → c.maxLocals = maxL → s.vm.findClass C = some m.cls → meth.name = y.name → (∀ w ∈ lw_all, w.before av.toArray s = true) → va_K D vwCl (zTy cB cI) s → va_P D vwCl ws s.heap → va_D A ws → (∀ q : Nat, s.heap.size ≤ q → A q) → E A s → va_S A s.heap s.heap [] → ∀ ls : Array Slot, lv_has ls maxL (lv_args 0 av) → W p l e (zRm fr lo 0 0) s m av.toArray below meth c s.heap [] 0 0 (MQ below (va_Sr (fun _ => True) (fun _ => .ref v)) av.toArray s 0 0 (fun _ => False)) (F0 m 0 ls [])) : zRr l y cc maxL ret fr lo av E D cB cI sz ws v :=
  z_of hC hy hlen fun p e s m below meth c _ => body p e s m below meth c _
theorem z_fm {α β : Type} {g : α → Option β} : ∀ {is : List α} {wc : List β}, is.map g = wc.map some → is.filterMap g = wc
  | [], [], _ => rfl
  | [], b :: wc, h => by simp at h
  | a :: is, [], h => by simp at h
  | a :: is, b :: wc, h => by
    simp only [List.map_cons, List.cons.injEq] at h
    rw [List.filterMap_cons_some h.1, z_fm h.2]
theorem z_subP {D : va_G} {cl : List vw_C} {ws ws' : va_W} {H : Heap} (h : va_P D cl ws H) (is : List Nat) (hs : is.map (fun i => ws[i]?) = ws'.map some) : va_P D cl ws' H := h.sub is (z_fm hs)
theorem zB_of {D : va_G} {A : Nat → Prop} {ws ws' : va_W} {H : Heap} {t : State} (hP : va_P D vwCl ws H) (hD : va_D A ws) (is : List Nat) (hs : is.map (fun i => ws[i]?) = ws'.map some) (hn : va_nd is = true) (ht : t.heap = H) : zB D A ws' t := ⟨by rw [ht]; exact z_subP hP is hs, hD.sub is hn hs⟩
theorem zPre_blind {av : List Value} {E : (Nat → Prop) → State → Prop} {D : va_G} {cB cI : ClassId} {sz : Nat} {ws : va_W} (hE : zGood E) : FrameBlind (va_Pc av (zPre E D cB cI sz ws)) := by
  intro a U g mk q
  obtain ⟨q0, q1, q2, q3, q4, q5⟩ := q
  exact ⟨q0, q1, q2, va_K.moved (u := U) (U := U.calling g mk a) (Vm.Alike.refl U.vm) q3, q4, hE _ _ U (U.calling g mk a) (Vm.Alike.refl U.vm) (fun _ _ _ => rfl) (Nat.le_refl _) (fun _ h => h) q5⟩
section ZR
variable {p : Program} {l : Launch} {e : Env} {R : Room} {s : State} {m : MethodId} {args : Array Value} {below : List Frame} {meth : Method} {c : Code} {H : Heap} {locs : List Loc} {cells slots : Nat} {Q : State → Prop}
variable {cc : ByteArray} {pc : Nat} {ls : Array Slot} {rest st0 : List Value} {D : va_G} {A : Nat → Prop} {a : Nat} {cB cI : ClassId} {ws wc wr : va_W} {E E' : (Nat → Prop) → State → Prop}
variable {y : MethodName} {bytes : ByteArray} {maxL nL mc ms n index fr lo : Nat} {ret : Option FieldType} {own C : String} {b : Addr} {As : List Value}
theorem zPre_pass {av : List Value} (hE : zGood E' ∧ E' A s) (hS : va_S A s.heap H locs) (hK : va_K D vwCl (zTy cB cI) s) (hP : va_P D vwCl ws H) (hD : va_D A ws) (hA : ∀ q : Nat, s.heap.size ≤ q → A q) (isC : List Nat) (hC : isC.map (fun i => ws[i]?) = wc.map some) (hnC : va_nd isC = true) : ∀ U : State, U.heap = H → s.WarmedH U.vm → va_Pc av (zPre E' D cB cI H.size wc) av.toArray U := by
  intro U hU hW
  refine ⟨rfl, by rw [hU], by rw [hU]; exact z_subP hP isC hC, va_K.moved hW.alike hK, (hD.sub isC hnC hC).weaken (fun _ _ _ _ => trivial), hE.1 A _ s U hW.alike (fun q h1 h2 => ?_) ?_ (va_free hD hS hA isC hC) hE.2⟩
  · rw [hU]; exact hS.2.1 q h1 h2
  · rw [hU]; exact hS.1
theorem z_top {x y : Int32} (h : x = y) (k : W p l e R s m args below meth c H locs cells slots Q (F0 m pc ls (.int y :: rest))) : W p l e R s m args below meth c H locs cells slots Q (F0 m pc ls (.int x :: rest)) := h ▸ k
theorem z_bald (hexec : p.tables.exec = Jvm.exec) (hb : c.code = cc) {tys : List (ClassId × FieldType)} (hK : va_K D vwCl tys s) (hP : va_P D vwCl ws H) (q0 t0 : Nat) {cA : ClassId} {n k : Nat} {f : Nat → Int32} {v : Int32} (ha : ws[q0]? = some (a, .inl (cA, n, .inl f))) (ht : tys[t0]? = some (cA, .byte)) (hk : k < n) (hn : n < 2 ^ 31) (hv : f k = v) (hdg : decode cc pc = .ok (.baload, 1))
    (kk : W p l e R s m args below meth c H locs cells slots Q (F0 m (pc + 1) ls (.int v :: rest))) : W p l e R s m args below meth c H locs cells slots Q (F0 m pc ls (.int (nI k) :: .ref a :: rest)) := by
  refine va_bald hexec hb hK hP q0 t0 ha ht (vp_in_nI hk hn) hdg ?_
  rw [nI_clamp (Nat.lt_trans hk hn), hv]
  exact kk
theorem z_iald (hexec : p.tables.exec = Jvm.exec) (hb : c.code = cc) {tys : List (ClassId × FieldType)} (hK : va_K D vwCl tys s) (hP : va_P D vwCl ws H) (q0 t0 : Nat) {cA : ClassId} {n k : Nat} {f : Nat → Int32} {v : Int32} (ha : ws[q0]? = some (a, .inl (cA, n, .inl f))) (ht : tys[t0]? = some (cA, .int)) (hk : k < n) (hn : n < 2 ^ 31) (hv : f k = v) (hdg : decode cc pc = .ok (.iaload, 1))
    (kk : W p l e R s m args below meth c H locs cells slots Q (F0 m (pc + 1) ls (.int v :: rest))) : W p l e R s m args below meth c H locs cells slots Q (F0 m pc ls (.int (nI k) :: .ref a :: rest)) := by
  refine va_iald hexec hb hK hP q0 t0 ha ht (vp_in_nI hk hn) hdg ?_
  rw [nI_clamp (Nat.lt_trans hk hn), hv]
  exact kk
theorem z_bast (hexec : p.tables.exec = Jvm.exec) (hb : c.code = cc) {tys : List (ClassId × FieldType)} (hK : va_K D vwCl tys s) (hP : va_P D vwCl ws H) (hD : va_D A ws) (hS : va_S A s.heap H locs) (q0 t0 : Nat) {cA : ClassId} {n k : Nat} {f g : Nat → Int32} {x v : Int32} (ha : ws[q0]? = some (a, .inl (cA, n, .inl f))) (ht : tys[t0]? = some (cA, .byte)) (hk : k < n) (hn : n < 2 ^ 31) (hv : vp_nar .byte x = v) (hg : upd f k v = g) (hdg : decode cc pc = .ok (.bastore, 1))
    (kk : ∀ (H1 : Heap) (locs1 : List Loc), va_P D vwCl (ws.set q0 (a, .inl (cA, n, .inl g))) H1 → va_D A (ws.set q0 (a, .inl (cA, n, .inl g))) → va_S A s.heap H1 locs1 → W p l e R s m args below meth c H1 locs1 cells slots Q (F0 m (pc + 1) ls rest)) : W p l e R s m args below meth c H locs cells slots Q (F0 m pc ls (.int x :: .int (nI k) :: .ref a :: rest)) := by
  refine va_bast hexec hb hK hP hD hS q0 t0 ha ht (vp_in_nI hk hn) hdg ?_
  rw [nI_clamp (Nat.lt_trans hk hn), hv, hg]
  exact kk
theorem z_iast (hexec : p.tables.exec = Jvm.exec) (hb : c.code = cc) {tys : List (ClassId × FieldType)} (hK : va_K D vwCl tys s) (hP : va_P D vwCl ws H) (hD : va_D A ws) (hS : va_S A s.heap H locs) (q0 t0 : Nat) {cA : ClassId} {n k : Nat} {f g : Nat → Int32} {x : Int32} (ha : ws[q0]? = some (a, .inl (cA, n, .inl f))) (ht : tys[t0]? = some (cA, .int)) (hk : k < n) (hn : n < 2 ^ 31) (hg : upd f k x = g) (hdg : decode cc pc = .ok (.iastore, 1))
    (kk : ∀ (H1 : Heap) (locs1 : List Loc), va_P D vwCl (ws.set q0 (a, .inl (cA, n, .inl g))) H1 → va_D A (ws.set q0 (a, .inl (cA, n, .inl g))) → va_S A s.heap H1 locs1 → W p l e R s m args below meth c H1 locs1 cells slots Q (F0 m (pc + 1) ls rest)) : W p l e R s m args below meth c H locs cells slots Q (F0 m pc ls (.int x :: .int (nI k) :: .ref a :: rest)) := by
  refine va_iast hexec hb hK hP hD hS q0 t0 ha ht (vp_in_nI hk hn) hdg ?_
  rw [nI_clamp (Nat.lt_trans hk hn), hg]
  exact kk
theorem z_newb {N : Nat} (hexec : p.tables.exec = Jvm.exec) (hb : c.code = cc) (harr : (Cond.arrayClass .byte).before args s = true) (hK : va_K D vwCl (zTy cB cI) s) (hP : va_P D vwCl ws H) (hD : va_D A ws) (hS : va_S A s.heap H locs) (hA : ∀ q, s.heap.size ≤ q → A q) (hN : N ≤ 4096) (hcells : cells + 1 ≤ R.cells) (hslots : slots + N ≤ R.slots) (hdg : decode cc pc = .ok (.newarray .byte, 2))
    (kk : ∀ (q : Nat) (H1 : Heap), va_P D vwCl (ws ++ [(q, .inl (cB, N, .inl (fun _ => 0)))]) H1 → va_D A (ws ++ [(q, .inl (cB, N, .inl (fun _ => 0)))]) → va_S A s.heap H1 locs → W p l e R s m args below meth c H1 locs (cells + 1) (slots + N) Q (F0 m (pc + 2) ls (.ref q :: rest))) : W p l e R s m args below meth c H locs cells slots Q (F0 m pc ls (.int (nI N) :: rest)) := by
  have h31 : N < 2 ^ 31 := Nat.lt_of_le_of_lt hN (Nat.le_of_ble_eq_true rfl)
  refine va_newa (atype := .byte) (ty := .byte) (a0 := (N, .inl (fun _ => 0))) hexec hb harr rfl hK hP hD hS hA (fun _ => rfl) (nI_pos h31) (nI_clamp h31) ?_ hcells hslots hdg (fun q cA H1 hK1 hP1 hD1 hS1 => ?_)
  · show N * 1 ≤ 536870912
    exact Nat.le_trans (by rw [Nat.mul_one]; exact hN) (Nat.le_of_ble_eq_true rfl)
  · have h1 := (hK1.2 2 (cA, .byte) rfl).2
    have h2 := (hK1.2 0 (cB, .byte) rfl).2
    have h3 : s.vm.findClass ("[" ++ FieldType.byte.toString) = some cA := h1
    have h4 : s.vm.findClass ("[" ++ FieldType.byte.toString) = some cB := h2
    have h5 : cA = cB := Option.some.inj (h3.symm.trans h4)
    subst h5
    exact kk q H1 hP1 hD1 hS1
theorem z_newi {N : Nat} (hexec : p.tables.exec = Jvm.exec) (hb : c.code = cc) (harr : (Cond.arrayClass .int).before args s = true) (hK : va_K D vwCl (zTy cB cI) s) (hP : va_P D vwCl ws H) (hD : va_D A ws) (hS : va_S A s.heap H locs) (hA : ∀ q, s.heap.size ≤ q → A q) (hN : N ≤ 4096) (hcells : cells + 1 ≤ R.cells) (hslots : slots + N ≤ R.slots) (hdg : decode cc pc = .ok (.newarray .int, 2))
    (kk : ∀ (q : Nat) (H1 : Heap), va_P D vwCl (ws ++ [(q, .inl (cI, N, .inl (fun _ => 0)))]) H1 → va_D A (ws ++ [(q, .inl (cI, N, .inl (fun _ => 0)))]) → va_S A s.heap H1 locs → W p l e R s m args below meth c H1 locs (cells + 1) (slots + N) Q (F0 m (pc + 2) ls (.ref q :: rest))) : W p l e R s m args below meth c H locs cells slots Q (F0 m pc ls (.int (nI N) :: rest)) := by
  have h31 : N < 2 ^ 31 := Nat.lt_of_le_of_lt hN (Nat.le_of_ble_eq_true rfl)
  refine va_newa (atype := .int) (ty := .int) (a0 := (N, .inl (fun _ => 0))) hexec hb harr rfl hK hP hD hS hA (fun _ => rfl) (nI_pos h31) (nI_clamp h31) ?_ hcells hslots hdg (fun q cA H1 hK1 hP1 hD1 hS1 => ?_)
  · show N * 4 ≤ 536870912
    exact Nat.le_trans (Nat.mul_le_mul_right 4 hN) (Nat.le_of_ble_eq_true rfl)
  · have h1 := (hK1.2 2 (cA, .int) rfl).2
    have h2 := (hK1.2 1 (cI, .int) rfl).2
    have h3 : s.vm.findClass ("[" ++ FieldType.int.toString) = some cA := h1
    have h4 : s.vm.findClass ("[" ++ FieldType.int.toString) = some cI := h2
    have h5 : cA = cI := Option.some.inj (h3.symm.trans h4)
    subst h5
    exact kk q H1 hP1 hD1 hS1
-- returns
theorem z_vret {B : (Nat → Prop) → State → Prop} (hx : p.tables.exec = Jvm.exec) (hb : c.code = cc) (hr : meth.sig.returnType = none) (hlocks : meth.locks = false) (hS : va_S A s.heap H locs) (h1 : cells ≤ mc) (h2 : slots ≤ ms) (hdg : decode cc pc = .ok (.return_, 1)) (hB : ∀ t : State, t.heap = H → B A t) : W p l e R s m As.toArray below meth c H locs cells slots (zQv below B A As s mc ms) (F0 m pc ls []) :=
  W.widen h1 h2 (W.vret hx hb hr (fun t ht _ => ⟨⟨(), rfl, trivial, hB t ht⟩, hS.F ht⟩) hS.2.2 hdg hlocks)
theorem z_iret {B : (Nat → Prop) → State → Prop} {v w : Int32} {ty : FieldType} (hx : p.tables.exec = Jvm.exec) (hb : c.code = cc) (hr : meth.sig.returnType = some ty) (hlocks : meth.locks = false) (hn : narrow ty (.int w) = .int w) (hv : w = v) (hS : va_S A s.heap H locs) (h1 : cells ≤ mc) (h2 : slots ≤ ms) (hdg : decode cc pc = .ok (.ireturn, 1)) (hB : ∀ t : State, t.heap = H → B A t) : W p l e R s m As.toArray below meth c H locs cells slots (zQi below v B A As s mc ms) (F0 m pc ls [.int w]) :=
  W.widen h1 h2 (W.zret hx hb hr hn (fun t ht _ => ⟨⟨w, (), rfl, hv, hB t ht⟩, hS.F ht⟩) hS.2.2 hdg hlocks)
theorem z_rret {B : (Nat → Prop) → Nat → State → Prop} {w : Nat} {rt : FieldType} (hx : p.tables.exec = Jvm.exec) (hb : c.code = cc) (hr : meth.sig.returnType = some rt) (hrt : (∃ n, rt = .object n) ∨ ∃ t, rt = .array t) (hlocks : meth.locks = false) (hS : va_S A s.heap H locs) (h1 : cells ≤ mc) (h2 : slots ≤ ms) (hdg : decode cc pc = .ok (.areturn, 1)) (hB : ∀ t : State, t.heap = H → B A w t) : W p l e R s m As.toArray below meth c H locs cells slots (zQr below B A As s mc ms) (F0 m pc ls [.ref w]) :=
  W.widen h1 h2 (W.aret hx hb hr hrt (Or.inr ⟨w, rfl⟩) (fun t ht _ => ⟨⟨(), w, rfl, trivial, hB t ht⟩, hS.F ht⟩) hS.2.2 hdg hlocks)
theorem z_iretR {v w : Int32} {ty : FieldType} (hx : p.tables.exec = Jvm.exec) (hb : c.code = cc) (hr : meth.sig.returnType = some ty) (hlocks : meth.locks = false) (hn : narrow ty (.int w) = .int w) (hv : w = v) (hdg : decode cc pc = .ok (.ireturn, 1)) : W p l e R s m args below meth c s.heap [] 0 0 (MQ below (QcRead v) args s 0 0 (fun _ => False)) (F0 m pc ls [.int w]) :=
  W.zret hx hb hr hn (fun t ht _ => ⟨by rw [hv], ht⟩) (fun _ h => by cases h) hdg hlocks
theorem z_rretR {w : Nat} {rt : FieldType} (hx : p.tables.exec = Jvm.exec) (hb : c.code = cc) (hr : meth.sig.returnType = some rt) (hrt : (∃ n, rt = .object n) ∨ ∃ t, rt = .array t) (hlocks : meth.locks = false) (hdg : decode cc pc = .ok (.areturn, 1)) : W p l e R s m args below meth c s.heap [] 0 0 (MQ below (va_Sr (fun _ => True) (fun _ => .ref w)) args s 0 0 (fun _ => False)) (F0 m pc ls [.ref w]) :=
  W.aret hx hb hr hrt (Or.inr ⟨w, rfl⟩) (fun t ht _ => ⟨0, rfl, trivial, ht⟩) (fun _ h => by cases h) hdg hlocks
-- calls that read only
theorem z_readS {v : Int32} (S : CallFix p m c cc nL s args lw_all own) (hM : zRi l y bytes maxL ret fr lo As E' D cB cI H.size wc v) (cw : CallB R s args own index y bytes maxL ret (ws_ y bytes maxL ret) (zRm fr lo 0 0) 0 0 n ∧ (Cond.static y).before args s = true) (hE : zGood E' ∧ E' A s) (hn : As.length = n) (hsz : ls.size = nL) (hst : st0 = As.reverse ++ rest) (hW : (rest.map fun v => v.category).sum ≤ 8) (hdg : decode cc pc = .ok (.invokestatic index, 3)) (hf : cells ≤ R.cells ∧ slots ≤ R.slots) (hS : va_S A s.heap H locs) (hK : va_K D vwCl (zTy cB cI) s) (hP : va_P D vwCl ws H) (hD : va_D A ws) (hA : ∀ q : Nat, s.heap.size ≤ q → A q) (isC : List Nat) (hC : isC.map (fun i => ws[i]?) = wc.map some) (hnC : va_nd isC = true)
    (kk : W p l e R s m args below meth c H locs cells slots Q (F0 m (pc + 3) ls (.int v :: rest))) : W p l e R s m args below meth c H locs cells slots Q (F0 m pc ls st0) :=
  W.callR (W.runS S hM cw ⟨zPre_blind hE.1, zPre_pass hE hS hK hP hD hA isC hC hnC⟩ rfl hn hsz hst (lv_room hW) hdg hf) kk
theorem z_readV {v : Int32} (S : CallFix p m c cc nL s args lw_all own) (hM : zRi l y bytes maxL ret fr lo (.ref b :: As) E' D cB cI H.size wc v) (cw : CallW R s args own C index y bytes maxL ret (ws_ y bytes maxL ret) (zRm fr lo 0 0) 0 0 n) (hE : zGood E' ∧ E' A s) (hrv : ∃ cell : Cell, H[b]? = some cell ∧ cell.vm.isStatics = false ∧ s.vm.findClass C = some cell.cls) (hn : As.length = n) (hsz : ls.size = nL) (hst : st0 = As.reverse ++ .ref b :: rest) (hW : (rest.map fun v => v.category).sum ≤ 8) (hdg : decode cc pc = .ok (.invokevirtual index, 3)) (hf : cells ≤ R.cells ∧ slots ≤ R.slots) (hS : va_S A s.heap H locs) (hK : va_K D vwCl (zTy cB cI) s) (hP : va_P D vwCl ws H) (hD : va_D A ws) (hA : ∀ q : Nat, s.heap.size ≤ q → A q) (isC : List Nat) (hC : isC.map (fun i => ws[i]?) = wc.map some) (hnC : va_nd isC = true)
    (kk : W p l e R s m args below meth c H locs cells slots Q (F0 m (pc + 3) ls (.int v :: rest))) : W p l e R s m args below meth c H locs cells slots Q (F0 m pc ls st0) :=
  W.callR (W.runV S hM cw ⟨zPre_blind hE.1, hrv, zPre_pass hE hS hK hP hD hA isC hC hnC⟩ rfl hn hsz hst (lv_room hW) hdg hf) kk
theorem z_readrV {v : Nat} (S : CallFix p m c cc nL s args lw_all own) (hM : zRr l y bytes maxL ret fr lo (.ref b :: As) E' D cB cI H.size wc v) (cw : CallW R s args own C index y bytes maxL ret (ws_ y bytes maxL ret) (zRm fr lo 0 0) 0 0 n) (hE : zGood E' ∧ E' A s) (hrv : ∃ cell : Cell, H[b]? = some cell ∧ cell.vm.isStatics = false ∧ s.vm.findClass C = some cell.cls) (hn : As.length = n) (hsz : ls.size = nL) (hst : st0 = As.reverse ++ .ref b :: rest) (hW : (rest.map fun v => v.category).sum ≤ 8) (hdg : decode cc pc = .ok (.invokevirtual index, 3)) (hf : cells ≤ R.cells ∧ slots ≤ R.slots) (hS : va_S A s.heap H locs) (hK : va_K D vwCl (zTy cB cI) s) (hP : va_P D vwCl ws H) (hD : va_D A ws) (hA : ∀ q : Nat, s.heap.size ≤ q → A q) (isC : List Nat) (hC : isC.map (fun i => ws[i]?) = wc.map some) (hnC : va_nd isC = true)
    (kk : W p l e R s m args below meth c H locs cells slots Q (F0 m (pc + 3) ls (.ref v :: rest))) : W p l e R s m args below meth c H locs cells slots Q (F0 m pc ls st0) :=
  va_csr (W.runV S hM cw ⟨zPre_blind hE.1, hrv, zPre_pass hE hS hK hP hD hA isC hC hnC⟩ rfl hn hsz hst (lv_room hW) hdg hf) (fun _ _ => kk)
-- calls that write
theorem z_callvS {B : (Nat → Prop) → State → Prop} (S : CallFix p m c cc nL s args lw_all own) (hM : zMv l y bytes maxL ret fr lo mc ms As E' D cB cI H.size wc B) (cw : CallB R s args own index y bytes maxL ret (ws_ y bytes maxL ret) (zRm fr lo mc ms) mc ms n ∧ (Cond.static y).before args s = true) (hE : zGood E' ∧ E' A s) (hn : As.length = n) (hsz : ls.size = nL) (hst : st0 = As.reverse ++ rest) (hW : (rest.map fun v => v.category).sum ≤ 8) (hdg : decode cc pc = .ok (.invokestatic index, 3)) (hf : cells + mc ≤ R.cells ∧ slots + ms ≤ R.slots) (hS : va_S A s.heap H locs) (hK : va_K D vwCl (zTy cB cI) s) (hP : va_P D vwCl ws H) (hD : va_D A ws) (hA : ∀ q : Nat, s.heap.size ≤ q → A q) (isC isR : List Nat) (hC : isC.map (fun i => ws[i]?) = wc.map some) (hnC : va_nd isC = true) (hR : isR.map (fun i => ws[i]?) = wr.map some) (hnR : va_nd isR = true) (hdis : ∀ i ∈ isR, i ∉ isC)
    (kk : ∀ (A1 : Nat → Prop) (t : State) (H1 : Heap) (locs1 : List Loc), B A1 t → (∀ w1 : va_W, zB D A1 w1 t → va_P D vwCl (wr ++ w1) H1 ∧ va_D A (wr ++ w1)) → va_S A s.heap H1 locs1 → W p l e R s m args below meth c H1 locs1 (cells + mc) (slots + ms) Q (F0 m (pc + 3) ls rest)) : W p l e R s m args below meth c H locs cells slots Q (F0 m pc ls st0) :=
  have hF := va_free hD hS hA isC hC
  va_callv (va_runS S hM cw ⟨zPre_blind hE.1, zPre_pass hE hS hK hP hD hA isC hC hnC⟩ rfl hn hsz hst (lv_room hW) hdg hf) hS (fun q _ h => hF q h) hF (fun _ t H1 locs1 ht _ _ hB _ hk hS1 => kk _ t H1 locs1 hB (fun w1 h1 => va_join hP hD isC isR hC hR hnR hdis hk hF (ht ▸ h1.1) h1.2) hS1)
theorem z_calliS {v : Int32} {B : (Nat → Prop) → State → Prop} (S : CallFix p m c cc nL s args lw_all own) (hM : zMi l y bytes maxL ret fr lo mc ms As E' D cB cI H.size wc v B) (cw : CallB R s args own index y bytes maxL ret (ws_ y bytes maxL ret) (zRm fr lo mc ms) mc ms n ∧ (Cond.static y).before args s = true) (hE : zGood E' ∧ E' A s) (hn : As.length = n) (hsz : ls.size = nL) (hst : st0 = As.reverse ++ rest) (hW : (rest.map fun v => v.category).sum ≤ 8) (hdg : decode cc pc = .ok (.invokestatic index, 3)) (hf : cells + mc ≤ R.cells ∧ slots + ms ≤ R.slots) (hS : va_S A s.heap H locs) (hK : va_K D vwCl (zTy cB cI) s) (hP : va_P D vwCl ws H) (hD : va_D A ws) (hA : ∀ q : Nat, s.heap.size ≤ q → A q) (isC isR : List Nat) (hC : isC.map (fun i => ws[i]?) = wc.map some) (hnC : va_nd isC = true) (hR : isR.map (fun i => ws[i]?) = wr.map some) (hnR : va_nd isR = true) (hdis : ∀ i ∈ isR, i ∉ isC)
    (kk : ∀ (A1 : Nat → Prop) (t : State) (H1 : Heap) (locs1 : List Loc), B A1 t → (∀ w1 : va_W, zB D A1 w1 t → va_P D vwCl (wr ++ w1) H1 ∧ va_D A (wr ++ w1)) → va_S A s.heap H1 locs1 → W p l e R s m args below meth c H1 locs1 (cells + mc) (slots + ms) Q (F0 m (pc + 3) ls (.int v :: rest))) : W p l e R s m args below meth c H locs cells slots Q (F0 m pc ls st0) :=
  have hF := va_free hD hS hA isC hC
  va_calli (va_runS S hM cw ⟨zPre_blind hE.1, zPre_pass hE hS hK hP hD hA isC hC hnC⟩ rfl hn hsz hst (lv_room hW) hdg hf) hS (fun q _ h => hF q h) hF (fun r _ t H1 locs1 ht _ hr hB _ hk hS1 => (show r = v from hr) ▸ kk _ t H1 locs1 hB (fun w1 h1 => va_join hP hD isC isR hC hR hnR hdis hk hF (ht ▸ h1.1) h1.2) hS1)
theorem z_callrS {B : (Nat → Prop) → Nat → State → Prop} (S : CallFix p m c cc nL s args lw_all own) (hM : zMr l y bytes maxL ret fr lo mc ms As E' D cB cI H.size wc B) (cw : CallB R s args own index y bytes maxL ret (ws_ y bytes maxL ret) (zRm fr lo mc ms) mc ms n ∧ (Cond.static y).before args s = true) (hE : zGood E' ∧ E' A s) (hn : As.length = n) (hsz : ls.size = nL) (hst : st0 = As.reverse ++ rest) (hW : (rest.map fun v => v.category).sum ≤ 8) (hdg : decode cc pc = .ok (.invokestatic index, 3)) (hf : cells + mc ≤ R.cells ∧ slots + ms ≤ R.slots) (hS : va_S A s.heap H locs) (hK : va_K D vwCl (zTy cB cI) s) (hP : va_P D vwCl ws H) (hD : va_D A ws) (hA : ∀ q : Nat, s.heap.size ≤ q → A q) (isC isR : List Nat) (hC : isC.map (fun i => ws[i]?) = wc.map some) (hnC : va_nd isC = true) (hR : isR.map (fun i => ws[i]?) = wr.map some) (hnR : va_nd isR = true) (hdis : ∀ i ∈ isR, i ∉ isC)
    (kk : ∀ (ra : Nat) (A1 : Nat → Prop) (t : State) (H1 : Heap) (locs1 : List Loc), B A1 ra t → (∀ w1 : va_W, zB D A1 w1 t → va_P D vwCl (wr ++ w1) H1 ∧ va_D A (wr ++ w1)) → va_S A s.heap H1 locs1 → W p l e R s m args below meth c H1 locs1 (cells + mc) (slots + ms) Q (F0 m (pc + 3) ls (.ref ra :: rest))) : W p l e R s m args below meth c H locs cells slots Q (F0 m pc ls st0) :=
  have hF := va_free hD hS hA isC hC
  va_callr (va_runS S hM cw ⟨zPre_blind hE.1, zPre_pass hE hS hK hP hD hA isC hC hnC⟩ rfl hn hsz hst (lv_room hW) hdg hf) hS (fun q _ h => hF q h) hF (fun _ ra t H1 locs1 ht _ _ hB _ hk hS1 => kk ra _ t H1 locs1 hB (fun w1 h1 => va_join hP hD isC isR hC hR hnR hdis hk hF (ht ▸ h1.1) h1.2) hS1)
theorem z_callvV {B : (Nat → Prop) → State → Prop} (S : CallFix p m c cc nL s args lw_all own) (hM : zMv l y bytes maxL ret fr lo mc ms (.ref b :: As) E' D cB cI H.size wc B) (cw : CallW R s args own C index y bytes maxL ret (ws_ y bytes maxL ret) (zRm fr lo mc ms) mc ms n) (hE : zGood E' ∧ E' A s) (hrv : ∃ cell : Cell, H[b]? = some cell ∧ cell.vm.isStatics = false ∧ s.vm.findClass C = some cell.cls) (hn : As.length = n) (hsz : ls.size = nL) (hst : st0 = As.reverse ++ .ref b :: rest) (hW : (rest.map fun v => v.category).sum ≤ 8) (hdg : decode cc pc = .ok (.invokevirtual index, 3)) (hf : cells + mc ≤ R.cells ∧ slots + ms ≤ R.slots) (hS : va_S A s.heap H locs) (hK : va_K D vwCl (zTy cB cI) s) (hP : va_P D vwCl ws H) (hD : va_D A ws) (hA : ∀ q : Nat, s.heap.size ≤ q → A q) (isC isR : List Nat) (hC : isC.map (fun i => ws[i]?) = wc.map some) (hnC : va_nd isC = true) (hR : isR.map (fun i => ws[i]?) = wr.map some) (hnR : va_nd isR = true) (hdis : ∀ i ∈ isR, i ∉ isC)
    (kk : ∀ (A1 : Nat → Prop) (t : State) (H1 : Heap) (locs1 : List Loc), B A1 t → (∀ w1 : va_W, zB D A1 w1 t → va_P D vwCl (wr ++ w1) H1 ∧ va_D A (wr ++ w1)) → va_S A s.heap H1 locs1 → W p l e R s m args below meth c H1 locs1 (cells + mc) (slots + ms) Q (F0 m (pc + 3) ls rest)) : W p l e R s m args below meth c H locs cells slots Q (F0 m pc ls st0) :=
  have hF := va_free hD hS hA isC hC
  va_callv (va_runV S hM cw ⟨zPre_blind hE.1, hrv, zPre_pass hE hS hK hP hD hA isC hC hnC⟩ rfl hn hsz hst (lv_room hW) hdg hf) hS (fun q _ h => hF q h) hF (fun _ t H1 locs1 ht _ _ hB _ hk hS1 => kk _ t H1 locs1 hB (fun w1 h1 => va_join hP hD isC isR hC hR hnR hdis hk hF (ht ▸ h1.1) h1.2) hS1)
theorem z_calliV {v : Int32} {B : (Nat → Prop) → State → Prop} (S : CallFix p m c cc nL s args lw_all own) (hM : zMi l y bytes maxL ret fr lo mc ms (.ref b :: As) E' D cB cI H.size wc v B) (cw : CallW R s args own C index y bytes maxL ret (ws_ y bytes maxL ret) (zRm fr lo mc ms) mc ms n) (hE : zGood E' ∧ E' A s) (hrv : ∃ cell : Cell, H[b]? = some cell ∧ cell.vm.isStatics = false ∧ s.vm.findClass C = some cell.cls) (hn : As.length = n) (hsz : ls.size = nL) (hst : st0 = As.reverse ++ .ref b :: rest) (hW : (rest.map fun v => v.category).sum ≤ 8) (hdg : decode cc pc = .ok (.invokevirtual index, 3)) (hf : cells + mc ≤ R.cells ∧ slots + ms ≤ R.slots) (hS : va_S A s.heap H locs) (hK : va_K D vwCl (zTy cB cI) s) (hP : va_P D vwCl ws H) (hD : va_D A ws) (hA : ∀ q : Nat, s.heap.size ≤ q → A q) (isC isR : List Nat) (hC : isC.map (fun i => ws[i]?) = wc.map some) (hnC : va_nd isC = true) (hR : isR.map (fun i => ws[i]?) = wr.map some) (hnR : va_nd isR = true) (hdis : ∀ i ∈ isR, i ∉ isC)
    (kk : ∀ (A1 : Nat → Prop) (t : State) (H1 : Heap) (locs1 : List Loc), B A1 t → (∀ w1 : va_W, zB D A1 w1 t → va_P D vwCl (wr ++ w1) H1 ∧ va_D A (wr ++ w1)) → va_S A s.heap H1 locs1 → W p l e R s m args below meth c H1 locs1 (cells + mc) (slots + ms) Q (F0 m (pc + 3) ls (.int v :: rest))) : W p l e R s m args below meth c H locs cells slots Q (F0 m pc ls st0) :=
  have hF := va_free hD hS hA isC hC
  va_calli (va_runV S hM cw ⟨zPre_blind hE.1, hrv, zPre_pass hE hS hK hP hD hA isC hC hnC⟩ rfl hn hsz hst (lv_room hW) hdg hf) hS (fun q _ h => hF q h) hF (fun r _ t H1 locs1 ht _ hr hB _ hk hS1 => (show r = v from hr) ▸ kk _ t H1 locs1 hB (fun w1 h1 => va_join hP hD isC isR hC hR hnR hdis hk hF (ht ▸ h1.1) h1.2) hS1)
theorem z_callvI {B : (Nat → Prop) → State → Prop} (S : CallFix p m c cc nL s args lw_all own) (hM : zMv l y bytes maxL none fr lo mc ms (.ref b :: As) E' D cB cI H.size wc B) (cw : CallB R s args own index y bytes maxL none (ws_ y bytes maxL none) (zRm fr lo mc ms) mc ms n ∧ y.name = "<init>" ∧ (Cond.instanceMethod y).before args s = true) (hE : zGood E' ∧ E' A s) (hn : As.length = n) (hsz : ls.size = nL) (hst : st0 = As.reverse ++ .ref b :: rest) (hW : (rest.map fun v => v.category).sum ≤ 8) (hdg : decode cc pc = .ok (.invokespecial index, 3)) (hf : cells + mc ≤ R.cells ∧ slots + ms ≤ R.slots) (hS : va_S A s.heap H locs) (hK : va_K D vwCl (zTy cB cI) s) (hP : va_P D vwCl ws H) (hD : va_D A ws) (hA : ∀ q : Nat, s.heap.size ≤ q → A q) (isC isR : List Nat) (hC : isC.map (fun i => ws[i]?) = wc.map some) (hnC : va_nd isC = true) (hR : isR.map (fun i => ws[i]?) = wr.map some) (hnR : va_nd isR = true) (hdis : ∀ i ∈ isR, i ∉ isC)
    (kk : ∀ (A1 : Nat → Prop) (t : State) (H1 : Heap) (locs1 : List Loc), B A1 t → (∀ w1 : va_W, zB D A1 w1 t → va_P D vwCl (wr ++ w1) H1 ∧ va_D A (wr ++ w1)) → va_S A s.heap H1 locs1 → W p l e R s m args below meth c H1 locs1 (cells + mc) (slots + ms) Q (F0 m (pc + 3) ls rest)) : W p l e R s m args below meth c H locs cells slots Q (F0 m pc ls st0) :=
  have hF := va_free hD hS hA isC hC
  va_callv (va_runI S hM cw ⟨zPre_blind hE.1, zPre_pass hE hS hK hP hD hA isC hC hnC⟩ rfl hn hsz hst (lv_room hW) hdg hf) hS (fun q _ h => hF q h) hF (fun _ t H1 locs1 ht _ _ hB _ hk hS1 => kk _ t H1 locs1 hB (fun w1 h1 => va_join hP hD isC isR hC hR hnR hdis hk hF (ht ▸ h1.1) h1.2) hS1)
end ZR
theorem z_fsX1 : ∀ j, j < 8 → defaultValue (tyX1 j) = vp_V [.null, .int 0, .int 0, .null, .null, .null, .int 0, .null] j := fun j hj => by rcases (show j = 0 ∨ j = 1 ∨ j = 2 ∨ j = 3 ∨ j = 4 ∨ j = 5 ∨ j = 6 ∨ j = 7 by omega) with rfl | rfl | rfl | rfl | rfl | rfl | rfl | rfl <;> rfl
theorem z_fsX2 : ∀ j, j < 9 → defaultValue (tyX2 j) = vp_V [.int 0, .int 0, .null, .null, .null, .int 0, .int 0, .int 0, .int 0] j := fun j hj => by rcases (show j = 0 ∨ j = 1 ∨ j = 2 ∨ j = 3 ∨ j = 4 ∨ j = 5 ∨ j = 6 ∨ j = 7 ∨ j = 8 by omega) with rfl | rfl | rfl | rfl | rfl | rfl | rfl | rfl | rfl <;> rfl
theorem z_fsX3 : ∀ j, j < 2 → defaultValue (tyX3 j) = vp_V [.null, .null] j := fun j hj => by rcases (show j = 0 ∨ j = 1 by omega) with rfl | rfl <;> rfl
theorem z_fsX4 : ∀ j, j < 1 → defaultValue (tyX4 j) = vp_V [.null] j := fun j hj => by rcases (show j = 0 by omega) with rfl <;> rfl
/-- the table TAU_SIGMA, carried along -/
def zTau (j : Nat) : Int32 := match j with
  | 0 => 1634760805
  | 1 => 824206446
  | 2 => 2036477238
  | 3 => 1797285236
  | 4 => 1634760805
  | 5 => 857760878
  | 6 => 2036477234
  | _ => 1797285236
def zET (tt : Nat) : (Nat → Prop) → State → Prop := fun A U => va_Z "Salsa20Engine" "TAU_SIGMA" "[I" (.ref tt) A U U.heap ∧ va_T .int tt 8 (fun j => .int (zTau j)) A U U.heap
theorem zET_good (tt : Nat) : zGood (zET tt) := fun _ _ _ _ hvm hk _ hAB h => ⟨((h.1.kept hk).moved hvm).narrow hAB, ((h.2.kept hk).moved hvm).narrow hAB⟩
/-- the script, carried along -/
def zES (b L : Nat) (xs : Nat → Int32) : (Nat → Prop) → State → Prop := fun A U => va_X b L xs U U.heap ∧ b < U.heap.size ∧ ¬ A b
theorem zES_good (b L : Nat) (xs : Nat → Int32) : zGood (zES b L xs) := fun _ _ _ _ hvm hk hz hAB h => ⟨va_X.moved hvm (h.1.kept (hk b h.2.1 h.2.2)), Nat.lt_of_lt_of_le h.2.1 hz, fun q => h.2.2 (hAB b q)⟩
def zEB (tt b L : Nat) (xs : Nat → Int32) : (Nat → Prop) → State → Prop := fun A U => zET tt A U ∧ zES b L xs A U
theorem zEB_good (tt b L : Nat) (xs : Nat → Int32) : zGood (zEB tt b L xs) := fun A B u U hvm hk hz hAB h => ⟨zET_good tt A B u U hvm hk hz hAB h.1, zES_good b L xs A B u U hvm hk hz hAB h.2⟩
section ZR2
variable {p : Program} {l : Launch} {e : Env} {R : Room} {s : State} {m : MethodId} {args : Array Value} {below : List Frame} {meth : Method} {c : Code} {H : Heap} {locs : List Loc} {cells slots : Nat} {Q : State → Prop}
variable {cc : ByteArray} {pc : Nat} {ls : Array Slot} {rest : List Value} {A : Nat → Prop}
theorem z_tau {tt k : Nat} (hexec : p.tables.exec = Jvm.exec) (hb : c.code = cc) (hT : va_T .int tt 8 (fun j => .int (zTau j)) A s s.heap) (hS : va_S A s.heap H locs) (hk : k < 8) (hdg : decode cc pc = .ok (.iaload, 1))
    (kk : W p l e R s m args below meth c H locs cells slots Q (F0 m (pc + 1) ls (.int (zTau k) :: rest))) : W p l e R s m args below meth c H locs cells slots Q (F0 m pc ls (.int (nI k) :: .ref tt :: rest)) :=
  va_ti (v := .int (zTau k)) hexec hb hT hS (vp_in_nI hk (by decide)) (by rw [nI_clamp (by omega)]) hdg kk
theorem z_sld {b L k : Nat} {xs : Nat → Int32} (hexec : p.tables.exec = Jvm.exec) (hb : c.code = cc) (hE : zES b L xs A s) (hS : va_S A s.heap H locs) (hk : k < L) (hL : L < 2 ^ 31) (hdg : decode cc pc = .ok (.iaload, 1))
    (kk : W p l e R s m args below meth c H locs cells slots Q (F0 m (pc + 1) ls (.int (xs k) :: rest))) : W p l e R s m args below meth c H locs cells slots Q (F0 m pc ls (.int (nI k) :: .ref b :: rest)) := by
  refine va_sld hexec hb hE.1 hE.2.1 hE.2.2 hS (vp_in_nI hk hL) hdg ?_
  rw [nI_clamp (Nat.lt_trans hk hL)]
  exact kk
end ZR2
theorem z_inc (a k : Nat) : nI a + Int32.ofInt (k : Int) = nI (a + k) := nI_add a k
end
section
/-! THE PURE SIDE: bytes, words, the core, the stream -/
set_option maxRecDepth 100000
def bt8 (x : Int32) : Int32 := x.toInt8.toInt32
theorem vp_bt8 (x : Int32) : vp_nar .byte (bt8 x) = bt8 x := pk_vb x
def ushr (x y : Int32) : Int32 := (x.toUInt32 >>> (y.toUInt32 &&& Int32.toUInt32 31)).toInt32
def rotl (x d : Int32) : Int32 := (x <<< (d &&& 31)) ||| ushr x (-d)
def le4 (f : Nat → Int32) (o : Nat) : Int32 := (((f o &&& 255) ||| ((f (o + 1) &&& 255) <<< ((8 : Int32) &&& 31))) ||| ((f (o + 2) &&& 255) <<< ((16 : Int32) &&& 31))) ||| (f (o + 3) <<< ((24 : Int32) &&& 31))
def wr4 (f : Nat → Int32) (o : Nat) (w : Int32) : Nat → Int32 := upd (upd (upd (upd f o (bt8 (w >>> ((24 : Int32) &&& 31)))) (o + 1) (bt8 (w >>> ((16 : Int32) &&& 31)))) (o + 2) (bt8 (w >>> ((8 : Int32) &&& 31)))) (o + 3) (bt8 w)
def wrl (f : Nat → Int32) (o : Nat) (w : Int32) : Nat → Int32 := upd (upd (upd (upd f o (bt8 w)) (o + 1) (bt8 (ushr w 8))) (o + 2) (bt8 (ushr w 16))) (o + 3) (bt8 (ushr w 24))
def wrls (ns f : Nat → Int32) (o : Nat) : Nat → Nat → Int32
  | 0 => f
  | k + 1 => wrl (wrls ns f o k) (o + 4 * k) (ns k)
def rdls (f g : Nat → Int32) (o no : Nat) : Nat → Nat → Int32
  | 0 => g
  | k + 1 => upd (rdls f g o no k) (no + k) (le4 f (o + 4 * k))
def cpN (f : Nat → Int32) : Nat → Nat → Int32
  | 0 => fun _ => 0
  | k + 1 => upd (cpN f k) k (vp_nar .byte (f k))
def drnd (t : Nat → Int32) : Nat → Int32 :=
  let y1 := t 4 ^^^ rotl (t 0 + t 12) (nI 7)
  let y2 := t 8 ^^^ rotl (y1 + t 0) (nI 9)
  let y3 := t 12 ^^^ rotl (y2 + y1) (nI 13)
  let y4 := t 0 ^^^ rotl (y3 + y2) (nI 18)
  let y5 := t 9 ^^^ rotl (t 5 + t 1) (nI 7)
  let y6 := t 13 ^^^ rotl (y5 + t 5) (nI 9)
  let y7 := t 1 ^^^ rotl (y6 + y5) (nI 13)
  let y8 := t 5 ^^^ rotl (y7 + y6) (nI 18)
  let y9 := t 14 ^^^ rotl (t 10 + t 6) (nI 7)
  let y10 := t 2 ^^^ rotl (y9 + t 10) (nI 9)
  let y11 := t 6 ^^^ rotl (y10 + y9) (nI 13)
  let y12 := t 10 ^^^ rotl (y11 + y10) (nI 18)
  let y13 := t 3 ^^^ rotl (t 15 + t 11) (nI 7)
  let y14 := t 7 ^^^ rotl (y13 + t 15) (nI 9)
  let y15 := t 11 ^^^ rotl (y14 + y13) (nI 13)
  let y16 := t 15 ^^^ rotl (y15 + y14) (nI 18)
  let y17 := y7 ^^^ rotl (y4 + y13) (nI 7)
  let y18 := y10 ^^^ rotl (y17 + y4) (nI 9)
  let y19 := y13 ^^^ rotl (y18 + y17) (nI 13)
  let y20 := y4 ^^^ rotl (y19 + y18) (nI 18)
  let y21 := y11 ^^^ rotl (y8 + y1) (nI 7)
  let y22 := y14 ^^^ rotl (y21 + y8) (nI 9)
  let y23 := y1 ^^^ rotl (y22 + y21) (nI 13)
  let y24 := y8 ^^^ rotl (y23 + y22) (nI 18)
  let y25 := y15 ^^^ rotl (y12 + y5) (nI 7)
  let y26 := y2 ^^^ rotl (y25 + y12) (nI 9)
  let y27 := y5 ^^^ rotl (y26 + y25) (nI 13)
  let y28 := y12 ^^^ rotl (y27 + y26) (nI 18)
  let y29 := y3 ^^^ rotl (y16 + y9) (nI 7)
  let y30 := y6 ^^^ rotl (y29 + y16) (nI 9)
  let y31 := y9 ^^^ rotl (y30 + y29) (nI 13)
  let y32 := y16 ^^^ rotl (y31 + y30) (nI 18)
  fun j => match j with
    | 0 => y20
    | 1 => y17
    | 2 => y18
    | 3 => y19
    | 4 => y23
    | 5 => y24
    | 6 => y21
    | 7 => y22
    | 8 => y26
    | 9 => y27
    | 10 => y28
    | 11 => y25
    | 12 => y29
    | 13 => y30
    | 14 => y31
    | _ => y32
def drnds : Nat → (Nat → Int32) → Nat → Int32
  | 0, t => t
  | n + 1, t => drnds n (drnd t)
def addup (t es xs : Nat → Int32) : Nat → Nat → Int32
  | 0 => xs
  | k + 1 => upd (addup t es xs k) k (t k + es k)
def core (es xs : Nat → Int32) : Nat → Int32 := addup (drnds 10 es) es xs 16
def ksb (es : Nat → Int32) (j : Nat) : Int32 := wrls (core es (fun _ => 0)) (fun _ => 0) 0 16 j
def zKs (es ks : Nat → Int32) : Prop := ∀ j, j < 64 → ks j = ksb es j
def adv (es : Nat → Int32) : Nat → Int32 := if es 8 + nI 1 = 0 then upd (upd es 8 (es 8 + nI 1)) 9 (upd es 8 (es 8 + nI 1) 9 + nI 1) else upd es 8 (es 8 + nI 1)
def advs : Nat → (Nat → Int32) → Nat → Int32
  | 0, t => t
  | n + 1, t => adv (advs n t)
def rst (es : Nat → Int32) : Nat → Int32 := upd (upd es 9 (nI 0)) 8 (nI 0)
def strm (E : Nat → Int32) (p : Nat) : Int32 := ksb (advs (p / 64) E) (p % 64)
def setk (ts : Nat) (kf vf es : Nat → Int32) : Nat → Int32 := rdls vf (rdls kf (rdls kf (upd (upd (upd (upd es 0 (zTau ts)) 5 (zTau (ts + 1))) 10 (zTau (ts + 2))) 15 (zTau (ts + 3))) 0 1 4) (4 * ts) 11 4) 0 6 2
def initE (ts : Nat) (fk fn : Nat → Int32) : Nat → Int32 := rst (setk ts (va_cpy (cpN fk (16 + 4 * ts)) (fun _ => 0) 0 0 (16 + 4 * ts)) (va_cpy (cpN fn 8) (fun _ => 0) 0 0 8) (fun _ => 0))
def m31 (x : Int32) : Nat := x.toBitVec.toNat % 2 ^ 31
theorem m31_lt (x : Int32) : m31 x < 2 ^ 31 := Nat.mod_lt _ (by decide)
theorem m31_and (x : Int32) : x &&& 2147483647 = nI (m31 x) := pk_and x 31 (by decide)
theorem m31_nI {a : Nat} (h : a < 2 ^ 31) : m31 (nI a) = a := by
  unfold m31
  rw [pk_tn (by omega), Nat.mod_eq_of_lt h]
theorem z_dec2 (r : Nat) : nI (2 * (r + 1)) + Int32.ofInt (-2) = nI (2 * r) := by
  have h : nI (2 * (r + 1)) = nI (2 * r) + nI 2 := (nI_add (2 * r) 2).symm
  rw [h, Int32.add_assoc, show nI 2 + Int32.ofInt (-2) = 0 by decide, Int32.add_zero]
theorem z_nI0 {a : Nat} (h : nI a = 0) (ha : a < 2 ^ 31) : a = 0 := (nI_eq ha (by decide)).mp (h.trans nI_0.symm)
theorem z_and63 {p : Nat} (h : p < 2 ^ 30) : nI (p % 64 + 1) &&& 63 = nI ((p + 1) % 64) := by
  rw [pk_andN (by omega) 6 (by decide)]
  congr 1
  omega
theorem adv_f {es : Nat → Int32} (h : ¬ es 8 + nI 1 = 0) : upd es 8 (es 8 + nI 1) = adv es := (if_neg h).symm
theorem adv_t {es : Nat → Int32} (h : es 8 + nI 1 = 0) : upd (upd es 8 (es 8 + nI 1)) 9 (upd es 8 (es 8 + nI 1) 9 + nI 1) = adv es := (if_pos h).symm
theorem upd_eq {f : Nat → Int32} {k : Nat} {x : Int32} {j : Nat} : upd f k x j = if j = k then x else f j := rfl
theorem adv_ne (es : Nat → Int32) {j : Nat} (h8 : j ≠ 8) (h9 : j ≠ 9) : adv es j = es j := by
  unfold adv
  split <;> simp [upd_eq, h8, h9]
theorem rst_adv (es : Nat → Int32) : rst (adv es) = rst es := by
  funext j
  by_cases h8 : j = 8
  · subst h8; rfl
  · by_cases h9 : j = 9
    · subst h9; rfl
    · simp only [rst, upd_eq, h8, h9, if_false]
      exact adv_ne es h8 h9
theorem rst_advs (n : Nat) (es : Nat → Int32) : rst (advs n es) = rst es := by
  induction n with
  | zero => rfl
  | succ n ih => rw [show advs (n + 1) es = adv (advs n es) from rfl, rst_adv, ih]
theorem rst_rst (es : Nat → Int32) : rst (rst es) = rst es := by
  funext j
  by_cases h8 : j = 8
  · subst h8; rfl
  · by_cases h9 : j = 9
    · subst h9; rfl
    · simp only [rst, upd_eq, h8, h9, if_false]
theorem rst_advs_rst (n : Nat) (es : Nat → Int32) : rst (advs n (rst es)) = rst es := by rw [rst_advs, rst_rst]
theorem addup_at (t es xs : Nat → Int32) : ∀ (k j : Nat), j < k → addup t es xs k j = t j + es j
  | 0, j, h => absurd h (Nat.not_lt_zero j)
  | k + 1, j, h => by
    rw [show addup t es xs (k + 1) = upd (addup t es xs k) k (t k + es k) from rfl, upd_eq]
    by_cases e : j = k
    · rw [if_pos e, e]
    · rw [if_neg e]
      exact addup_at t es xs k j (by omega)
theorem core_at (es xs : Nat → Int32) {j : Nat} (h : j < 16) : core es xs j = core es (fun _ => 0) j := by
  unfold core
  rw [addup_at _ _ _ 16 j h, addup_at _ _ _ 16 j h]
theorem wrl_at {f g : Nat → Int32} {o : Nat} {w : Int32} {j : Nat} (h : j < o + 4) (hfg : j < o → f j = g j) : wrl f o w j = wrl g o w j := by
  simp only [wrl, upd_eq]
  by_cases h3 : j = o + 3
  · simp [h3]
  · by_cases h2 : j = o + 2
    · simp [h2]
    · by_cases h1 : j = o + 1
      · simp [h1]
      · by_cases h0 : j = o
        · simp [h0]
        · simp only [h3, h2, h1, h0, if_false]
          exact hfg (by omega)
theorem wrls_at (ns ns' f f' : Nat → Int32) : ∀ (k : Nat), (∀ i, i < k → ns i = ns' i) → ∀ j, j < 4 * k → wrls ns f 0 k j = wrls ns' f' 0 k j
  | 0, _, j, h => absurd h (Nat.not_lt_zero j)
  | k + 1, hn, j, h => by
    show wrl (wrls ns f 0 k) (0 + 4 * k) (ns k) j = wrl (wrls ns' f' 0 k) (0 + 4 * k) (ns' k) j
    rw [hn k (Nat.lt_succ_self k)]
    exact wrl_at (by omega) (fun hj => wrls_at ns ns' f f' k (fun i hi => hn i (Nat.lt_succ_of_lt hi)) j (by omega))
theorem zKs_gen (es xs ks : Nat → Int32) : zKs es (wrls (core es xs) ks 0 16) := fun j hj => wrls_at _ _ _ _ 16 (fun _ hi => core_at es xs hi) j hj
theorem z_fit8 (x : Int32) : fits .byte (.int (vp_nar .byte x)) = true := by rw [vp_nar_byte]; exact pk_fb x
theorem cpN_at (f : Nat → Int32) : ∀ (k j : Nat), j < k → cpN f k j = vp_nar .byte (f j)
  | 0, j, h => absurd h (Nat.not_lt_zero j)
  | k + 1, j, h => by
    rw [show cpN f (k + 1) = upd (cpN f k) k (vp_nar .byte (f k)) from rfl, upd_eq]
    by_cases e : j = k
    · rw [if_pos e, e]
    · rw [if_neg e]
      exact cpN_at f k j (by omega)
theorem cpN_fit (f : Nat → Int32) (k : Nat) : ∀ j, j < k → fits .byte (.int (cpN f k j)) = true := fun j h => by rw [cpN_at f k j h]; exact z_fit8 _
theorem z_updN {fo : Nat → Int32} {g : Nat → Int32} {i : Nat} (h : ∀ j, j < i → fo j = g j) : ∀ j, j < i + 1 → upd fo i (g i) j = g j := by
  intro j hj
  rw [upd_eq]
  by_cases e : j = i
  · rw [if_pos e, e]
  · rw [if_neg e]
    exact h j (by omega)
end
section
/-! THE LAW'S PLAIN SIDE -/
set_option maxRecDepth 100000
def bt (x : Int32) (i : Nat) : Bool := x.toBitVec.getLsbD i
theorem b_ext {x y : Int32} (h : ∀ i, i < 32 → bt x i = bt y i) : x = y := Int32.toBitVec_inj.mp (BitVec.eq_of_getLsbD_eq (fun i hi => h i hi))
theorem b_and (x y : Int32) (i : Nat) : bt (x &&& y) i = (bt x i && bt y i) := by unfold bt; rw [Int32.toBitVec_and, BitVec.getLsbD_and]
theorem b_xor (x y : Int32) (i : Nat) : bt (x ^^^ y) i = (bt x i ^^ bt y i) := by unfold bt; rw [Int32.toBitVec_xor, BitVec.getLsbD_xor]
theorem b_big {x : Int32} {i : Nat} (h : 32 ≤ i) : bt x i = false := BitVec.getLsbD_of_ge _ _ h
theorem b_255 (i : Nat) : bt 255 i = decide (i < 8) := by
  rcases Nat.lt_or_ge i 32 with h | h
  · exact (by decide +kernel : ∀ i, i < 32 → bt 255 i = decide (i < 8)) i h
  · rw [b_big h, decide_eq_false (by omega)]
theorem s_l : ∀ n, n < 32 → ((nI n &&& 31).toBitVec.smod 32).toNat = n := by decide +kernel
theorem s_u : ∀ n, n < 32 → (((nI n).toUInt32 &&& Int32.toUInt32 31).toBitVec % 32).toNat = n := by decide +kernel
theorem b_ushr (n : Nat) (hn : n < 32) (x : Int32) (i : Nat) : bt ((x.toUInt32 >>> ((nI n).toUInt32 &&& Int32.toUInt32 31)).toInt32) i = bt x (n + i) := by
  show (x.toUInt32 >>> ((nI n).toUInt32 &&& Int32.toUInt32 31)).toBitVec.getLsbD i = x.toUInt32.toBitVec.getLsbD (n + i)
  rw [UInt32.toBitVec_shiftRight]
  show (x.toUInt32.toBitVec >>> (((nI n).toUInt32 &&& Int32.toUInt32 31).toBitVec % 32).toNat).getLsbD i = _
  rw [s_u n hn, BitVec.getLsbD_ushiftRight]
theorem b_sshr (n : Nat) (hn : n < 32) (x : Int32) {i : Nat} (hi : i < 32) : bt (x >>> (nI n &&& 31)) i = if n + i < 32 then bt x (n + i) else bt x 31 := by
  unfold bt
  rw [Int32.toBitVec_shiftRight]
  show (x.toBitVec.sshiftRight ((nI n &&& 31).toBitVec.smod 32).toNat).getLsbD i = _
  rw [s_l n hn, BitVec.getLsbD_sshiftRight, BitVec.msb_eq_getLsbD_last]
  simp [hi]
theorem bp_b (x : Int32) : x.toInt8.toInt32 &&& 255 = x &&& 255 := by
  apply Int32.toBitVec_inj.mp
  rw [Int32.toBitVec_and, Int32.toBitVec_and, Int8.toBitVec_toInt32, Int32.toBitVec_toInt8]
  apply BitVec.eq_of_getLsbD_eq
  intro i hi
  rw [BitVec.getLsbD_and, BitVec.getLsbD_and]
  have hm : ∀ i < 32, 8 ≤ i → (255 : Int32).toBitVec.getLsbD i = false := by decide
  rcases Nat.lt_or_ge i 8 with z | z
  · rw [BitVec.getLsbD_signExtend, BitVec.getLsbD_signExtend, if_pos z, if_pos hi]
    simp only [z, hi, decide_true, Bool.true_and]
  · rw [hm i hi z]; simp
theorem bt8_lo (x : Int32) : bt8 x &&& 255 = x &&& 255 := bp_b x
theorem lo_lo (x : Int32) : x &&& 255 &&& 255 = x &&& 255 := b_ext (fun i _ => by rw [b_and, b_and]; cases bt x i <;> cases bt 255 i <;> rfl)
theorem lo_xor (x y : Int32) : (x ^^^ y) &&& 255 = (x &&& 255) ^^^ (y &&& 255) := b_ext (fun i _ => by rw [b_and, b_xor, b_xor, b_and, b_and]; cases bt x i <;> cases bt y i <;> cases bt 255 i <;> rfl)
theorem xor_back (x y : Int32) : x ^^^ (x ^^^ y) = y := b_ext (fun i _ => by rw [b_xor, b_xor]; cases bt x i <;> cases bt y i <;> rfl)
theorem lo_shr (w : Int32) {k : Nat} (hk : k ≤ 24) : (w >>> (nI k &&& 31)) &&& 255 = ushr w (nI k) &&& 255 := b_ext (fun i hi => by
  rw [b_and, b_and, b_255]
  by_cases h : i < 8
  · rw [b_sshr k (by omega) w hi, if_pos (by omega)]
    unfold ushr
    rw [b_ushr k (by omega)]
  · rw [decide_eq_false h, Bool.and_false, Bool.and_false])
/-- what goes in comes out, by the low eight bits -/
theorem enc_eq {S t b : Int32} (h : t &&& 255 = b) : bt8 (S ^^^ bt8 b) &&& 255 = bt8 (S ^^^ t) &&& 255 := by
  rw [bt8_lo, bt8_lo, lo_xor, lo_xor, bt8_lo, ← h, lo_lo]
theorem dec_eq {S t b : Int32} (h : t &&& 255 = b) : bt8 (S ^^^ bt8 (bt8 (S ^^^ t) &&& 255)) &&& 255 = b := by
  rw [bt8_lo, lo_xor, bt8_lo, lo_lo, bt8_lo, lo_xor, xor_back, h]
def cvf (L : Nat) (xs : Nat → Int32) (k : Nat) : Int32 := if k < L then xs k else nI 0
def wr16 (f : Nat → Int32) (o : Nat) (a b c d : Int32) : Nat → Int32 := wr4 (wr4 (wr4 (wr4 f o a) (o + 4) b) (o + 8) c) (o + 12) d
def txt (cv : Nat → Int32) : Nat → Nat → Int32
  | 0 => fun _ => 0
  | m + 1 => wr16 (txt cv m) (16 * m) (cv (20 + 4 * m)) (cv (20 + 4 * m + 1)) (cv (20 + 4 * m + 2)) (cv (20 + 4 * m + 3))
def tsOf (x : Int32) : Nat := if x &&& 1 = 0 then 0 else 4
theorem ts_ok (x : Int32) : (x &&& 1 = 0 ∧ tsOf x = 0) ∨ (¬ x &&& 1 = 0 ∧ tsOf x = 4) := by
  unfold tsOf
  by_cases h : x &&& 1 = 0
  · exact Or.inl ⟨h, if_pos h⟩
  · exact Or.inr ⟨h, if_neg h⟩
def fkOf (cv : Nat → Int32) : Nat → Int32 := wr16 (wr16 (fun _ => 0) (16 * 0) (cv 0) (cv 1) (cv 2) (cv 3)) (16 * 1) (cv 4) (cv 5) (cv 6) (cv 7)
def fnOf (cv : Nat → Int32) : Nat → Int32 := wr16 (wr16 (fun _ => 0) (16 * 0) (cv 8) (cv 9) (cv 10) (cv 11)) (16 * 1) (cv 52) (cv 53) (cv 54) (cv 55)
def madeE (cv : Nat → Int32) : Nat → Int32 := initE (tsOf (cv 12)) (fkOf cv) (fnOf cv)
theorem rst_madeE (cv : Nat → Int32) (n : Nat) : rst (advs n (madeE cv)) = madeE cv := rst_advs_rst n _
theorem wr4_at (f : Nat → Int32) (o : Nat) (w : Int32) {j d : Nat} (hd : d < 4) (h : j = o + d) : wr4 f o w j = bt8 (w >>> (nI (24 - 8 * d) &&& 31)) := by
  subst h
  unfold wr4
  rcases (show d = 0 ∨ d = 1 ∨ d = 2 ∨ d = 3 by omega) with rfl | rfl | rfl | rfl
  · rw [show o + 0 = o from rfl]
    simp only [upd_eq, show ¬ o = o + 3 by omega, show ¬ o = o + 2 by omega, show ¬ o = o + 1 by omega, if_false, if_true]
    rfl
  · simp only [upd_eq, show ¬ o + 1 = o + 3 by omega, show ¬ o + 1 = o + 2 by omega, if_false, if_true]
    rfl
  · simp only [upd_eq, show ¬ o + 2 = o + 3 by omega, if_false, if_true]
    rfl
  · simp only [upd_eq, if_true]
    show bt8 w = bt8 (w >>> ((0 : Int32) &&& 31))
    rw [sb_shr0]
theorem wr4_no (f : Nat → Int32) (o : Nat) (w : Int32) {j : Nat} (h : j < o ∨ o + 4 ≤ j) : wr4 f o w j = f j := by
  unfold wr4
  simp only [upd_eq, show ¬ j = o + 3 by omega, show ¬ j = o + 2 by omega, show ¬ j = o + 1 by omega, show ¬ j = o by omega, if_false]
theorem txt_at (cv : Nat → Int32) : ∀ (m j : Nat), j < 16 * m → txt cv m j = bt8 (cv (20 + j / 4) >>> (nI (24 - 8 * (j % 4)) &&& 31))
  | 0, j, h => absurd h (by omega)
  | m + 1, j, h => by
    show wr4 (wr4 (wr4 (wr4 (txt cv m) (16 * m) (cv (20 + 4 * m))) (16 * m + 4) (cv (20 + 4 * m + 1))) (16 * m + 8) (cv (20 + 4 * m + 2))) (16 * m + 12) (cv (20 + 4 * m + 3)) j = _
    by_cases h3 : 16 * m + 12 ≤ j
    · rw [wr4_at _ _ _ (show j % 4 < 4 by omega) (by omega), show 20 + j / 4 = 20 + 4 * m + 3 by omega]
    · rw [wr4_no _ _ _ (by omega)]
      by_cases h2 : 16 * m + 8 ≤ j
      · rw [wr4_at _ _ _ (show j % 4 < 4 by omega) (by omega), show 20 + j / 4 = 20 + 4 * m + 2 by omega]
      · rw [wr4_no _ _ _ (by omega)]
        by_cases h1 : 16 * m + 4 ≤ j
        · rw [wr4_at _ _ _ (show j % 4 < 4 by omega) (by omega), show 20 + j / 4 = 20 + 4 * m + 1 by omega]
        · rw [wr4_no _ _ _ (by omega)]
          by_cases h0 : 16 * m ≤ j
          · rw [wr4_at _ _ _ (show j % 4 < 4 by omega) (by omega), show 20 + j / 4 = 20 + 4 * m by omega]
          · rw [wr4_no _ _ _ (by omega)]
            exact txt_at cv m j (by omega)
/-- the text's byte, as the law reads it out of the script -/
theorem txt_lo (cv : Nat → Int32) {j : Nat} (h : j < 128) : txt cv 8 j &&& 255 = ushr (cv (20 + j / 4)) (nI (24 - 8 * (j % 4))) &&& 255 := by
  rw [txt_at cv 8 j (by omega), bt8_lo]
  exact lo_shr _ (by omega)
/-! the published beginning of the stream -/
def kL : Nat → List Int32
  | 0 => [1634760805, 128, 0, 0, 0, 824206446, 0, 0, 0, 0, 2036477238, 128, 0, 0, 0, 1797285236]
  | 1 => [-2022620947, -1134447539, 1622088782, -1977509481, -542938283, -1648357531, -498733112, -320516814, 1923496620, -1059286057, -1580374730, -1277932341, -1900203221, -1006489696, 1565520235, 106897966]
  | 2 => [503277539, 961775705, 1903245268, 194203666, -226885792, 638159703, 1287834728, 1966017180, -164630645, -1560113689, 1959208679, 1119595123, -2049462757, 921289105, 2031098289, -2111422870]
  | 3 => [-1130561604, 871341482, -2141719879, -1989457800, 117812875, -784193597, 1688286761, 288342412, -1075740499, -353150560, 1749450563, -1553614061, 112322633, -422805454, 1894171646, -888515141]
  | 4 => [663245124, 757749035, -201736421, 871099243, 273386362, 177606926, -1697962322, -1648731357, -1103605896, 1289698044, -284904035, -256268546, -1370446181, 113699457, -249568454, 1522315950]
  | 5 => [1834121311, 1564614456, -732997088, -1477690500, -962214197, -224162102, 205897390, 110368255, -1816409986, -892298373, -1000181631, 1428646247, 1041482968, -1437720332, 709385202, -1126433695]
  | 6 => [1577887895, 392064071, 2048824948, 101297498, -1406852453, 1239317422, 57730828, -121772569, 569907891, -434960384, -1641398641, 1894700529, -788811207, -678785370, -1237042934, 743976451]
  | 7 => [626465433, 832035822, 1352779735, -1846483117, 623412093, 1444233089, 679432226, 654907620, 1115049891, -22974885, -1631172098, -1528437143, -2026589223, 1874964106, -1214608892, -1357510011]
  | 8 => [1032303488, 1604159802, -965292649, -422398792, 2104271690, 499743353, 238938443, -1127545907, 316844059, 598740578, 1960063910, -1393707829, 1848966708, -188730140, -1288399303, -156498829]
  | 9 => [-369418797, -2132477843, 737338376, -780099981, 545729677, -650395370, -1877811188, 478231950, 1168769966, 1899416486, -1497866301, -1641216886, 1208041374, 522736595, 139772445, -1177683140]
  | _ => [-420576792, -1606508131, 537014682, 916030800, -285453606, -454747213, -1233377713, 2147310687, -526954709, 1251088127, 465875484, 118100117, -1134500615, -627708059, -1220479144, 1066432093]
def kS (n j : Nat) : Int32 := (kL n).getD j 0
def kW (j : Nat) : Int32 := ([1214184013, -1606508003, 537014682, 916030800] : List Int32).getD j 0
def kK : Nat → Int32 := wr16 (wr16 (fun _ => 0) (16 * 0) (-2147483648) (nI 0) (nI 0) (nI 0)) (16 * 1) (nI 0) (nI 0) (nI 0) (nI 0)
def kN : Nat → Int32 := wr16 (wr16 (fun _ => 0) (16 * 0) (nI 0) (nI 0) (nI 0) (nI 0)) (16 * 1) (nI 0) (nI 0) (nI 0) (nI 0)
def kE : Nat → Int32 := initE 0 kK kN
theorem kE_at : ∀ j, j < 16 → kE j = kS 0 j := by decide +kernel
theorem drnd_congr {t u : Nat → Int32} (h : ∀ j, j < 16 → t j = u j) : drnd t = drnd u := by
  unfold drnd
  rw [h 0 (by decide), h 1 (by decide), h 2 (by decide), h 3 (by decide), h 4 (by decide), h 5 (by decide), h 6 (by decide), h 7 (by decide), h 8 (by decide), h 9 (by decide), h 10 (by decide), h 11 (by decide), h 12 (by decide), h 13 (by decide), h 14 (by decide), h 15 (by decide)]
theorem drnds_step {t u : Nat → Int32} (n : Nat) (h : ∀ j, j < 16 → t j = u j) : drnds (n + 1) t = drnds n (drnd u) := by
  show drnds n (drnd t) = drnds n (drnd u)
  rw [drnd_congr h]
theorem kR_0 : ∀ j, j < 16 → drnd (kS 0) j = kS 1 j := by decide +kernel
theorem kR_1 : ∀ j, j < 16 → drnd (kS 1) j = kS 2 j := by decide +kernel
theorem kR_2 : ∀ j, j < 16 → drnd (kS 2) j = kS 3 j := by decide +kernel
theorem kR_3 : ∀ j, j < 16 → drnd (kS 3) j = kS 4 j := by decide +kernel
theorem kR_4 : ∀ j, j < 16 → drnd (kS 4) j = kS 5 j := by decide +kernel
theorem kR_5 : ∀ j, j < 16 → drnd (kS 5) j = kS 6 j := by decide +kernel
theorem kR_6 : ∀ j, j < 16 → drnd (kS 6) j = kS 7 j := by decide +kernel
theorem kR_7 : ∀ j, j < 16 → drnd (kS 7) j = kS 8 j := by decide +kernel
theorem kR_8 : ∀ j, j < 16 → drnd (kS 8) j = kS 9 j := by decide +kernel
theorem kR_9 : ∀ j, j < 16 → drnd (kS 9) j = kS 10 j := by decide +kernel
theorem kD : drnds 10 kE = drnd (kS 9) := by
  rw [drnds_step 9 kE_at, drnds_step 8 kR_0, drnds_step 7 kR_1, drnds_step 6 kR_2, drnds_step 5 kR_3, drnds_step 4 kR_4, drnds_step 3 kR_5, drnds_step 2 kR_6, drnds_step 1 kR_7, drnds_step 0 kR_8]
  rfl
theorem kC : ∀ i, i < 4 → core kE (fun _ => 0) i = kW i := by
  intro i hi
  rw [core, addup_at _ _ _ 16 i (by omega), kD, kR_9 i (by omega), kE_at i (by omega)]
  exact (by decide +kernel : ∀ i, i < 4 → kS 10 i + kS 0 i = kW i) i hi
theorem wrls_lo (ns f : Nat → Int32) (k : Nat) : ∀ (m j : Nat), j < 4 * k → wrls ns f 0 (k + m) j = wrls ns f 0 k j
  | 0, _, _ => rfl
  | m + 1, j, h => by
    show wrl (wrls ns f 0 (k + m)) (0 + 4 * (k + m)) (ns (k + m)) j = _
    rw [show wrl (wrls ns f 0 (k + m)) (0 + 4 * (k + m)) (ns (k + m)) j = wrls ns f 0 (k + m) j by
      unfold wrl
      simp only [upd_eq, show ¬ j = 0 + 4 * (k + m) + 3 by omega, show ¬ j = 0 + 4 * (k + m) + 2 by omega, show ¬ j = 0 + 4 * (k + m) + 1 by omega, show ¬ j = 0 + 4 * (k + m) by omega, if_false]]
    exact wrls_lo ns f k m j h
def xov : Nat → Int32
  | 0 => nI 77
  | 1 => nI 250
  | 2 => nI 94
  | 3 => nI 72
  | 4 => nI 29
  | 5 => nI 162
  | 6 => nI 62
  | 7 => nI 160
  | 8 => nI 154
  | 9 => nI 49
  | 10 => nI 2
  | 11 => nI 32
  | 12 => nI 80
  | 13 => nI 133
  | 14 => nI 153
  | _ => nI 54
def xoN : Nat → Nat → Int32
  | 0 => fun _ => 0
  | k + 1 => upd (xoN k) k (xov k)
theorem kKs : ∀ j, j < 16 → ksb kE j &&& 255 = xoN 16 j := by
  intro j hj
  have h : ksb kE j = wrls kW (fun _ => 0) 0 4 j := by
    show wrls (core kE (fun _ => 0)) (fun _ => 0) 0 (4 + 12) j = _
    rw [wrls_lo _ _ 4 12 j (by omega)]
    exact wrls_at _ _ _ _ 4 kC j (by omega)
  rw [h]
  exact (by decide +kernel : ∀ j, j < 16 → wrls kW (fun _ => 0) 0 4 j &&& 255 = xoN 16 j) j hj
theorem known_ok : ∀ i, i < 16 → bt8 (strm kE (0 + i) ^^^ txt (fun _ => nI 0) 2 (0 + i)) &&& 255 = xoN 16 i := by
  intro i hi
  have h0 : txt (fun _ => nI 0) 2 (0 + i) &&& 255 = 0 := (by decide +kernel : ∀ i, i < 16 → txt (fun _ => nI 0) 2 (0 + i) &&& 255 = 0) i hi
  have h1 : strm kE (0 + i) = ksb kE i := by
    unfold strm
    rw [show (0 + i) / 64 = 0 by omega, show (0 + i) % 64 = i by omega]
    rfl
  rw [bt8_lo, lo_xor, h0, h1, kKs i hi, Int32.xor_zero]
end
section
/-! Integer.rotateLeft, Integers.rotateLeft, Pack -/
set_option maxRecDepth 100000
theorem hd_J5_rotateLeft : yJ5_rotateLeft.cls ≠ "java/lang/invoke/MethodHandle" ∧ yJ5_rotateLeft.cls ≠ "java/lang/invoke/VarHandle" ∧ (parseMethodDescriptor yJ5_rotateLeft.desc).map (fun d => d.parameters.length) = some 2 := by decide +kernel
set_option maxHeartbeats 4000000 in
set_option maxRecDepth 100000 in
theorem m_J5_rotateLeft (l : Launch) (dC : Nat → ClassId) (dI : Nat → Nat → Nat) (cB cI : ClassId) (sz : Nat) (x d : Int32) : zRi l yJ5_rotateLeft cJ5_rotateLeft 2 (some .int) 0 0 [.int x, .int d] zNo (dC, dI) cB cI sz [] (rotl x d) := by
  refine z_ofR (C := RJ5) rfl (by decide +kernel) (Nat.le_of_ble_eq_true rfl) ?_
  intro pr ev s m below meth c A hx hb hr hlocks hml hown hname hts hK hP hD hA hE hS ls hl
  have hl : lv_has ls 2 [(0, .int x), (1, .int d)] := hl
  refine lv_iload_n hx hb dJ5_rotateLeft_0 rfl (lv_at hl 0 rfl) ?_
  refine lv_iload_n hx hb dJ5_rotateLeft_1 rfl (lv_at hl 1 rfl) ?_
  refine lv_ishl hx hb dJ5_rotateLeft_2 ?_
  refine lv_iload_n hx hb dJ5_rotateLeft_3 rfl (lv_at hl 0 rfl) ?_
  refine lv_iload_n hx hb dJ5_rotateLeft_4 rfl (lv_at hl 1 rfl) ?_
  refine lv_ineg hx hb dJ5_rotateLeft_5 ?_
  refine lv_iushr (v := ushr x (-d)) hx hb dJ5_rotateLeft_6 rfl ?_
  refine lv_ior hx hb dJ5_rotateLeft_7 ?_
  exact z_iretR hx hb hr hlocks rfl rfl dJ5_rotateLeft_8
theorem hd_X6_rotateLeft : yX6_rotateLeft.cls ≠ "java/lang/invoke/MethodHandle" ∧ yX6_rotateLeft.cls ≠ "java/lang/invoke/VarHandle" ∧ (parseMethodDescriptor yX6_rotateLeft.desc).map (fun d => d.parameters.length) = some 2 := by decide +kernel
set_option maxHeartbeats 4000000 in
set_option maxRecDepth 100000 in
theorem m_X6_rotateLeft (l : Launch) (dC : Nat → ClassId) (dI : Nat → Nat → Nat) (cB cI : ClassId) (sz : Nat) (x d : Int32) : zRi l yX6_rotateLeft cX6_rotateLeft 2 (some .int) 1 40 [.int x, .int d] zNo (dC, dI) cB cI sz [] (rotl x d) := by
  refine z_ofR (C := RX6) rfl (by decide +kernel) (Nat.le_of_ble_eq_true rfl) ?_
  intro pr ev s m below meth c A hx hb hr hlocks hml hown hname hts hK hP hD hA hE hS ls hl
  have hl : lv_has ls 2 [(0, .int x), (1, .int d)] := hl
  refine lv_iload_n hx hb dX6_rotateLeft_0 rfl (lv_at hl 0 rfl) ?_
  refine lv_iload_n hx hb dX6_rotateLeft_1 rfl (lv_at hl 1 rfl) ?_
  refine z_readS (As := [.int x, .int d]) (rest := []) ⟨hx, hb, hml, hown, hts⟩ (m_J5_rotateLeft l dC dI cB cI s.heap.size x d) (va_cwS 2 hts (lw_S q212 q213 q19 q214) rfl rfl rfl hd_J5_rotateLeft ⟨Nat.le_of_ble_eq_true rfl, Nat.le_of_ble_eq_true rfl⟩) ⟨zNo_good, trivial⟩ rfl hl.1 rfl (Nat.le_of_ble_eq_true rfl) dX6_rotateLeft_2 ⟨Nat.le_of_ble_eq_true rfl, Nat.le_of_ble_eq_true rfl⟩ hS hK hP hD hA [] rfl (by decide) ?_
  exact z_iretR hx hb hr hlocks rfl rfl dX6_rotateLeft_5
theorem hd_X5_littleEndianToInt_2 : yX5_littleEndianToInt_2.cls ≠ "java/lang/invoke/MethodHandle" ∧ yX5_littleEndianToInt_2.cls ≠ "java/lang/invoke/VarHandle" ∧ (parseMethodDescriptor yX5_littleEndianToInt_2.desc).map (fun d => d.parameters.length) = some 2 := by decide +kernel
set_option maxHeartbeats 4000000 in
set_option maxRecDepth 100000 in
theorem m_X5_littleEndianToInt_2 (l : Launch) (dC : Nat → ClassId) (dI : Nat → Nat → Nat) (cB cI : ClassId) (sz : Nat) (a n o : Nat) (f : Nat → Int32) (ho : o + 3 < n) (hn : n ≤ 4096) : zRi l yX5_littleEndianToInt_2 cX5_littleEndianToInt_2 3 (some .int) 0 0 [.ref a, .int (nI o)] zNo (dC, dI) cB cI sz [(a, .inl (cB, n, .inl f))] (le4 f o) := by
  refine z_ofR (C := RX5) rfl (by decide +kernel) (Nat.le_of_ble_eq_true rfl) ?_
  intro pr ev s m below meth c A hx hb hr hlocks hml hown hname hts hK hP hD hA hE hS ls hl
  have hl : lv_has ls 3 [(0, .ref a), (1, .int (nI o))] := hl
  refine lv_aload_n hx hb dX5_littleEndianToInt_2_0 rfl (lv_at hl 0 rfl) ?_
  refine lv_iload_n hx hb dX5_littleEndianToInt_2_1 rfl (lv_at hl 1 rfl) ?_
  refine z_bald (k := o) (v := f o) hx hb hK hP 0 0 rfl rfl (by omega) (by omega) rfl dX5_littleEndianToInt_2_2 ?_
  refine lv_sipush (v := 255) hx hb dX5_littleEndianToInt_2_3 (by decide) ?_
  refine lv_iand hx hb dX5_littleEndianToInt_2_6 ?_
  refine lv_istore_n (lv' := [(2, .int ((f o) &&& 255)), (0, .ref a), (1, .int (nI o))]) hx hb dX5_littleEndianToInt_2_7 rfl hl (by decide) rfl (fun ls hl => ?_)
  refine lv_iload_n hx hb dX5_littleEndianToInt_2_8 rfl (lv_at hl 0 rfl) ?_
  refine lv_aload_n hx hb dX5_littleEndianToInt_2_9 rfl (lv_at hl 1 rfl) ?_
  refine lv_iinc (v := nI (o + 1)) (lv' := [(1, .int (nI (o + 1))), (2, .int ((f o) &&& 255)), (0, .ref a)]) hx hb dX5_littleEndianToInt_2_10 hl (k := 2) rfl (z_inc _ 1) (by decide) rfl (fun ls hl => ?_)
  refine lv_iload_n hx hb dX5_littleEndianToInt_2_13 rfl (lv_at hl 0 rfl) ?_
  refine z_bald (k := (o + 1)) (v := f (o + 1)) hx hb hK hP 0 0 rfl rfl (by omega) (by omega) rfl dX5_littleEndianToInt_2_14 ?_
  refine lv_sipush (v := 255) hx hb dX5_littleEndianToInt_2_15 (by decide) ?_
  refine lv_iand hx hb dX5_littleEndianToInt_2_18 ?_
  refine lv_bipush (v := 8) hx hb dX5_littleEndianToInt_2_19 (by decide) ?_
  refine lv_ishl hx hb dX5_littleEndianToInt_2_21 ?_
  refine lv_ior hx hb dX5_littleEndianToInt_2_22 ?_
  refine lv_istore_n (lv' := [(2, .int (((f o) &&& 255) ||| (((f (o + 1)) &&& 255) <<< ((8 : Int32) &&& 31)))), (1, .int (nI (o + 1))), (0, .ref a)]) hx hb dX5_littleEndianToInt_2_23 rfl hl (by decide) rfl (fun ls hl => ?_)
  refine lv_iload_n hx hb dX5_littleEndianToInt_2_24 rfl (lv_at hl 0 rfl) ?_
  refine lv_aload_n hx hb dX5_littleEndianToInt_2_25 rfl (lv_at hl 2 rfl) ?_
  refine lv_iinc (v := nI (o + 1 + 1)) (lv' := [(1, .int (nI (o + 1 + 1))), (2, .int (((f o) &&& 255) ||| (((f (o + 1)) &&& 255) <<< ((8 : Int32) &&& 31)))), (0, .ref a)]) hx hb dX5_littleEndianToInt_2_26 hl (k := 1) rfl (z_inc _ 1) (by decide) rfl (fun ls hl => ?_)
  refine lv_iload_n hx hb dX5_littleEndianToInt_2_29 rfl (lv_at hl 0 rfl) ?_
  refine z_bald (k := (o + 1 + 1)) (v := f (o + 1 + 1)) hx hb hK hP 0 0 rfl rfl (by omega) (by omega) rfl dX5_littleEndianToInt_2_30 ?_
  refine lv_sipush (v := 255) hx hb dX5_littleEndianToInt_2_31 (by decide) ?_
  refine lv_iand hx hb dX5_littleEndianToInt_2_34 ?_
  refine lv_bipush (v := 16) hx hb dX5_littleEndianToInt_2_35 (by decide) ?_
  refine lv_ishl hx hb dX5_littleEndianToInt_2_37 ?_
  refine lv_ior hx hb dX5_littleEndianToInt_2_38 ?_
  refine lv_istore_n (lv' := [(2, .int ((((f o) &&& 255) ||| (((f (o + 1)) &&& 255) <<< ((8 : Int32) &&& 31))) ||| (((f (o + 1 + 1)) &&& 255) <<< ((16 : Int32) &&& 31)))), (1, .int (nI (o + 1 + 1))), (0, .ref a)]) hx hb dX5_littleEndianToInt_2_39 rfl hl (by decide) rfl (fun ls hl => ?_)
  refine lv_iload_n hx hb dX5_littleEndianToInt_2_40 rfl (lv_at hl 0 rfl) ?_
  refine lv_aload_n hx hb dX5_littleEndianToInt_2_41 rfl (lv_at hl 2 rfl) ?_
  refine lv_iinc (v := nI (o + 1 + 1 + 1)) (lv' := [(1, .int (nI (o + 1 + 1 + 1))), (2, .int ((((f o) &&& 255) ||| (((f (o + 1)) &&& 255) <<< ((8 : Int32) &&& 31))) ||| (((f (o + 1 + 1)) &&& 255) <<< ((16 : Int32) &&& 31)))), (0, .ref a)]) hx hb dX5_littleEndianToInt_2_42 hl (k := 1) rfl (z_inc _ 1) (by decide) rfl (fun ls hl => ?_)
  refine lv_iload_n hx hb dX5_littleEndianToInt_2_45 rfl (lv_at hl 0 rfl) ?_
  refine z_bald (k := (o + 1 + 1 + 1)) (v := f (o + 1 + 1 + 1)) hx hb hK hP 0 0 rfl rfl (by omega) (by omega) rfl dX5_littleEndianToInt_2_46 ?_
  refine lv_bipush (v := 24) hx hb dX5_littleEndianToInt_2_47 (by decide) ?_
  refine lv_ishl hx hb dX5_littleEndianToInt_2_49 ?_
  refine lv_ior hx hb dX5_littleEndianToInt_2_50 ?_
  refine lv_istore_n (lv' := [(2, .int (((((f o) &&& 255) ||| (((f (o + 1)) &&& 255) <<< ((8 : Int32) &&& 31))) ||| (((f (o + 1 + 1)) &&& 255) <<< ((16 : Int32) &&& 31))) ||| ((f (o + 1 + 1 + 1)) <<< ((24 : Int32) &&& 31)))), (1, .int (nI (o + 1 + 1 + 1))), (0, .ref a)]) hx hb dX5_littleEndianToInt_2_51 rfl hl (by decide) rfl (fun ls hl => ?_)
  refine lv_iload_n hx hb dX5_littleEndianToInt_2_52 rfl (lv_at hl 0 rfl) ?_
  exact z_iretR hx hb hr hlocks rfl rfl dX5_littleEndianToInt_2_53
theorem hd_X5_intToLittleEndian_2 : yX5_intToLittleEndian_2.cls ≠ "java/lang/invoke/MethodHandle" ∧ yX5_intToLittleEndian_2.cls ≠ "java/lang/invoke/VarHandle" ∧ (parseMethodDescriptor yX5_intToLittleEndian_2.desc).map (fun d => d.parameters.length) = some 3 := by decide +kernel
set_option maxHeartbeats 4000000 in
set_option maxRecDepth 100000 in
theorem m_X5_intToLittleEndian_2 (l : Launch) (dC : Nat → ClassId) (dI : Nat → Nat → Nat) (cB cI : ClassId) (sz : Nat) (a n o : Nat) (f : Nat → Int32) (x : Int32) (ho : o + 3 < n) (hn : n ≤ 4096) : zMv l yX5_intToLittleEndian_2 cX5_intToLittleEndian_2 3 none 0 0 0 0 [.int x, .ref a, .int (nI o)] zNo (dC, dI) cB cI sz [(a, .inl (cB, n, .inl f))] (fun A t => zB (dC, dI) A [(a, .inl (cB, n, .inl (wrl f o x)))] t) := by
  refine z_ofv (C := RX5) rfl (by decide +kernel) (Nat.le_of_ble_eq_true rfl) ?_
  intro pr ev s m below meth c A hx hb hr hlocks hml hown hname hts hK hP hD hA hE hS ls hl
  have hl : lv_has ls 3 [(0, .int x), (1, .ref a), (2, .int (nI o))] := hl
  refine lv_aload_n hx hb dX5_intToLittleEndian_2_0 rfl (lv_at hl 1 rfl) ?_
  refine lv_iload_n hx hb dX5_intToLittleEndian_2_1 rfl (lv_at hl 2 rfl) ?_
  refine lv_iload_n hx hb dX5_intToLittleEndian_2_2 rfl (lv_at hl 0 rfl) ?_
  refine lv_i2b (v := bt8 x) hx hb dX5_intToLittleEndian_2_3 rfl ?_
  refine z_bast (k := o) (v := bt8 x) (g := upd f o (bt8 x)) hx hb hK hP hD hS 0 0 rfl rfl (by omega) (by omega) (vp_bt8 _) rfl dX5_intToLittleEndian_2_4 (fun H locs hP hD hS => ?_)
  have hP : va_P (dC, dI) vwCl [(a, .inl (cB, n, .inl (upd f o (bt8 x))))] H := hP
  have hD : va_D A [(a, .inl (cB, n, .inl (upd f o (bt8 x))))] := hD
  refine lv_aload_n hx hb dX5_intToLittleEndian_2_5 rfl (lv_at hl 1 rfl) ?_
  refine lv_iinc (v := nI (o + 1)) (lv' := [(2, .int (nI (o + 1))), (0, .int x), (1, .ref a)]) hx hb dX5_intToLittleEndian_2_6 hl (k := 2) rfl (z_inc _ 1) (by decide) rfl (fun ls hl => ?_)
  refine lv_iload_n hx hb dX5_intToLittleEndian_2_9 rfl (lv_at hl 0 rfl) ?_
  refine lv_iload_n hx hb dX5_intToLittleEndian_2_10 rfl (lv_at hl 1 rfl) ?_
  refine lv_bipush (v := 8) hx hb dX5_intToLittleEndian_2_11 (by decide) ?_
  refine lv_iushr (v := ushr x 8) hx hb dX5_intToLittleEndian_2_13 rfl ?_
  refine lv_i2b (v := bt8 (ushr x 8)) hx hb dX5_intToLittleEndian_2_14 rfl ?_
  refine z_bast (k := (o + 1)) (v := bt8 (ushr x 8)) (g := upd (upd f o (bt8 x)) (o + 1) (bt8 (ushr x 8))) hx hb hK hP hD hS 0 0 rfl rfl (by omega) (by omega) (vp_bt8 _) rfl dX5_intToLittleEndian_2_15 (fun H locs hP hD hS => ?_)
  have hP : va_P (dC, dI) vwCl [(a, .inl (cB, n, .inl (upd (upd f o (bt8 x)) (o + 1) (bt8 (ushr x 8)))))] H := hP
  have hD : va_D A [(a, .inl (cB, n, .inl (upd (upd f o (bt8 x)) (o + 1) (bt8 (ushr x 8)))))] := hD
  refine lv_aload_n hx hb dX5_intToLittleEndian_2_16 rfl (lv_at hl 2 rfl) ?_
  refine lv_iinc (v := nI (o + 1 + 1)) (lv' := [(2, .int (nI (o + 1 + 1))), (0, .int x), (1, .ref a)]) hx hb dX5_intToLittleEndian_2_17 hl (k := 0) rfl (z_inc _ 1) (by decide) rfl (fun ls hl => ?_)
  refine lv_iload_n hx hb dX5_intToLittleEndian_2_20 rfl (lv_at hl 0 rfl) ?_
  refine lv_iload_n hx hb dX5_intToLittleEndian_2_21 rfl (lv_at hl 1 rfl) ?_
  refine lv_bipush (v := 16) hx hb dX5_intToLittleEndian_2_22 (by decide) ?_
  refine lv_iushr (v := ushr x 16) hx hb dX5_intToLittleEndian_2_24 rfl ?_
  refine lv_i2b (v := bt8 (ushr x 16)) hx hb dX5_intToLittleEndian_2_25 rfl ?_
  refine z_bast (k := (o + 1 + 1)) (v := bt8 (ushr x 16)) (g := upd (upd (upd f o (bt8 x)) (o + 1) (bt8 (ushr x 8))) (o + 1 + 1) (bt8 (ushr x 16))) hx hb hK hP hD hS 0 0 rfl rfl (by omega) (by omega) (vp_bt8 _) rfl dX5_intToLittleEndian_2_26 (fun H locs hP hD hS => ?_)
  have hP : va_P (dC, dI) vwCl [(a, .inl (cB, n, .inl (upd (upd (upd f o (bt8 x)) (o + 1) (bt8 (ushr x 8))) (o + 1 + 1) (bt8 (ushr x 16)))))] H := hP
  have hD : va_D A [(a, .inl (cB, n, .inl (upd (upd (upd f o (bt8 x)) (o + 1) (bt8 (ushr x 8))) (o + 1 + 1) (bt8 (ushr x 16)))))] := hD
  refine lv_aload_n hx hb dX5_intToLittleEndian_2_27 rfl (lv_at hl 2 rfl) ?_
  refine lv_iinc (v := nI (o + 1 + 1 + 1)) (lv' := [(2, .int (nI (o + 1 + 1 + 1))), (0, .int x), (1, .ref a)]) hx hb dX5_intToLittleEndian_2_28 hl (k := 0) rfl (z_inc _ 1) (by decide) rfl (fun ls hl => ?_)
  refine lv_iload_n hx hb dX5_intToLittleEndian_2_31 rfl (lv_at hl 0 rfl) ?_
  refine lv_iload_n hx hb dX5_intToLittleEndian_2_32 rfl (lv_at hl 1 rfl) ?_
  refine lv_bipush (v := 24) hx hb dX5_intToLittleEndian_2_33 (by decide) ?_
  refine lv_iushr (v := ushr x 24) hx hb dX5_intToLittleEndian_2_35 rfl ?_
  refine lv_i2b (v := bt8 (ushr x 24)) hx hb dX5_intToLittleEndian_2_36 rfl ?_
  refine z_bast (k := (o + 1 + 1 + 1)) (v := bt8 (ushr x 24)) (g := upd (upd (upd (upd f o (bt8 x)) (o + 1) (bt8 (ushr x 8))) (o + 1 + 1) (bt8 (ushr x 16))) (o + 1 + 1 + 1) (bt8 (ushr x 24))) hx hb hK hP hD hS 0 0 rfl rfl (by omega) (by omega) (vp_bt8 _) rfl dX5_intToLittleEndian_2_37 (fun H locs hP hD hS => ?_)
  have hP : va_P (dC, dI) vwCl [(a, .inl (cB, n, .inl (upd (upd (upd (upd f o (bt8 x)) (o + 1) (bt8 (ushr x 8))) (o + 1 + 1) (bt8 (ushr x 16))) (o + 1 + 1 + 1) (bt8 (ushr x 24)))))] H := hP
  have hD : va_D A [(a, .inl (cB, n, .inl (upd (upd (upd (upd f o (bt8 x)) (o + 1) (bt8 (ushr x 8))) (o + 1 + 1) (bt8 (ushr x 16))) (o + 1 + 1 + 1) (bt8 (ushr x 24)))))] := hD
  exact z_vret hx hb hr hlocks hS (Nat.le_of_ble_eq_true rfl) (Nat.le_of_ble_eq_true rfl) dX5_intToLittleEndian_2_38 (fun t ht => zB_of hP hD [0] rfl (by decide) ht)
theorem hd_X5_littleEndianToInt : yX5_littleEndianToInt.cls ≠ "java/lang/invoke/MethodHandle" ∧ yX5_littleEndianToInt.cls ≠ "java/lang/invoke/VarHandle" ∧ (parseMethodDescriptor yX5_littleEndianToInt.desc).map (fun d => d.parameters.length) = some 5 := by decide +kernel
set_option maxHeartbeats 4000000 in
set_option maxRecDepth 100000 in
theorem m_X5_littleEndianToInt (l : Launch) (dC : Nat → ClassId) (dI : Nat → Nat → Nat) (cB cI : ClassId) (sz : Nat) (a g n ng o no cnt : Nat) (f h : Nat → Int32) (h1 : o + 4 * cnt ≤ n) (h2 : no + cnt ≤ ng) (h3 : n ≤ 4096) (h4 : ng ≤ 4096) : zMv l yX5_littleEndianToInt cX5_littleEndianToInt 6 none 1 40 0 0 [.ref a, .int (nI o), .ref g, .int (nI no), .int (nI cnt)] zNo (dC, dI) cB cI sz [(a, .inl (cB, n, .inl f)), (g, .inl (cI, ng, .inl h))] (fun A t => zB (dC, dI) A [(a, .inl (cB, n, .inl f)), (g, .inl (cI, ng, .inl (rdls f h o no cnt)))] t) := by
  refine z_ofv (C := RX5) rfl (by decide +kernel) (Nat.le_of_ble_eq_true rfl) ?_
  intro pr ev s m below meth c A hx hb hr hlocks hml hown hname hts hK hP hD hA hE hS ls hl
  have hl : lv_has ls 6 [(0, .ref a), (1, .int (nI o)), (2, .ref g), (3, .int (nI no)), (4, .int (nI cnt))] := hl
  refine lv_iconst (v := nI 0) hx hb dX5_littleEndianToInt_0 (by decide) ?_
  refine lv_istore (lv' := [(5, .int (nI 0)), (0, .ref a), (1, .int (nI o)), (2, .ref g), (3, .int (nI no)), (4, .int (nI cnt))]) hx hb dX5_littleEndianToInt_1 hl (by decide) rfl (fun ls hl => ?_)
  have loop : ∀ (r i : Nat), i + r = cnt → ∀ (H : Heap) (locs : List Loc) (ls : Array Slot), va_P (dC, dI) vwCl [(a, .inl (cB, n, .inl f)), (g, .inl (cI, ng, .inl (rdls f h o no i)))] H → va_D A [(a, .inl (cB, n, .inl f)), (g, .inl (cI, ng, .inl (rdls f h o no i)))] → va_S A s.heap H locs → lv_has ls 6 [(0, .ref a), (1, .int (nI (o + 4 * i))), (2, .ref g), (3, .int (nI no)), (4, .int (nI cnt)), (5, .int (nI i))] → W pr l ev (zRm 1 40 0 0) s m ([.ref a, .int (nI o), .ref g, .int (nI no), .int (nI cnt)] : List Value).toArray below meth c H locs (0) (0) (zQv below (fun A t => zB (dC, dI) A [(a, .inl (cB, n, .inl f)), (g, .inl (cI, ng, .inl (rdls f h o no cnt)))] t) A [.ref a, .int (nI o), .ref g, .int (nI no), .int (nI cnt)] s 0 0) (F0 m 3 ls []) := by
    intro r
    induction r with
    | zero =>
      intro i hi H locs ls hP hD hS hl
      obtain rfl : i = cnt := by omega
      refine lv_iload hx hb dX5_littleEndianToInt_3 (lv_at hl 5 rfl) ?_
      refine lv_iload hx hb dX5_littleEndianToInt_5 (lv_at hl 4 rfl) ?_
      refine lv_icmp_ge (tgt := 30) hx hb dX5_littleEndianToInt_7 (by decide) (fun _ => ?_) (fun hc => absurd (nI_le (Nat.le_refl _) (by omega)) hc)
      exact z_vret hx hb hr hlocks hS (Nat.le_of_ble_eq_true rfl) (Nat.le_of_ble_eq_true rfl) dX5_littleEndianToInt_30 (fun t ht => zB_of hP hD [0, 1] rfl (by decide) ht)
    | succ r ih =>
      intro i hi H locs ls hP hD hS hl
      refine lv_iload hx hb dX5_littleEndianToInt_3 (lv_at hl 5 rfl) ?_
      refine lv_iload hx hb dX5_littleEndianToInt_5 (lv_at hl 4 rfl) ?_
      refine lv_icmp_ge (tgt := 30) hx hb dX5_littleEndianToInt_7 (by decide) (fun hc => absurd hc (nI_ge (by omega) (by omega))) (fun _ => ?_)
      refine lv_aload_n hx hb dX5_littleEndianToInt_10 rfl (lv_at hl 2 rfl) ?_
      refine lv_iload_n hx hb dX5_littleEndianToInt_11 rfl (lv_at hl 3 rfl) ?_
      refine lv_iload hx hb dX5_littleEndianToInt_12 (lv_at hl 5 rfl) ?_
      refine lv_iadd hx hb dX5_littleEndianToInt_14 ?_
      refine z_top (y := nI (no + i)) (nI_add no i) ?_
      refine lv_aload_n hx hb dX5_littleEndianToInt_15 rfl (lv_at hl 0 rfl) ?_
      refine lv_iload_n hx hb dX5_littleEndianToInt_16 rfl (lv_at hl 1 rfl) ?_
      refine z_readS (As := [.ref a, .int (nI (o + 4 * i))]) (rest := [.int (nI (no + i)), .ref g]) ⟨hx, hb, hml, hown, hts⟩ (m_X5_littleEndianToInt_2 l dC dI cB cI H.size a n (o + 4 * i) f (by omega) (by omega)) (va_cwS 2 hts (lw_S q413 q414 q17 q415) rfl rfl rfl hd_X5_littleEndianToInt_2 ⟨Nat.le_of_ble_eq_true rfl, Nat.le_of_ble_eq_true rfl⟩) ⟨zNo_good, trivial⟩ rfl hl.1 rfl (Nat.le_of_ble_eq_true rfl) dX5_littleEndianToInt_17 ⟨Nat.le_of_ble_eq_true rfl, Nat.le_of_ble_eq_true rfl⟩ hS hK hP hD hA [0] rfl (by decide) ?_
      refine z_iast (k := (no + i)) (g := rdls f h o no (i + 1)) hx hb hK hP hD hS 1 1 rfl rfl (by omega) (by omega) rfl dX5_littleEndianToInt_20 (fun H locs hP hD hS => ?_)
      have hP : va_P (dC, dI) vwCl [(a, .inl (cB, n, .inl f)), (g, .inl (cI, ng, .inl (rdls f h o no (i + 1))))] H := hP
      have hD : va_D A [(a, .inl (cB, n, .inl f)), (g, .inl (cI, ng, .inl (rdls f h o no (i + 1))))] := hD
      refine lv_iinc (v := nI (o + 4 * (i + 1))) (lv' := [(1, .int (nI (o + 4 * (i + 1)))), (0, .ref a), (2, .ref g), (3, .int (nI no)), (4, .int (nI cnt)), (5, .int (nI i))]) hx hb dX5_littleEndianToInt_21 hl (k := 1) rfl ((z_inc _ 4).trans (congrArg nI (by omega))) (by decide) rfl (fun ls hl => ?_)
      refine lv_iinc (v := nI (i + 1)) (lv' := [(5, .int (nI (i + 1))), (1, .int (nI (o + 4 * (i + 1)))), (0, .ref a), (2, .ref g), (3, .int (nI no)), (4, .int (nI cnt))]) hx hb dX5_littleEndianToInt_24 hl (k := 5) rfl (z_inc _ 1) (by decide) rfl (fun ls hl => ?_)
      refine lv_goto (tgt := 3) hx hb dX5_littleEndianToInt_27 (by decide) ?_
      exact ih (i + 1) (by omega) H locs ls hP hD hS (lv_sub hl [2, 1, 3, 4, 5, 0] rfl)
  exact loop cnt 0 (by omega) s.heap [] ls hP hD hS (lv_sub hl [1, 2, 3, 4, 5, 0] rfl)
theorem hd_X5_intToLittleEndian : yX5_intToLittleEndian.cls ≠ "java/lang/invoke/MethodHandle" ∧ yX5_intToLittleEndian.cls ≠ "java/lang/invoke/VarHandle" ∧ (parseMethodDescriptor yX5_intToLittleEndian.desc).map (fun d => d.parameters.length) = some 3 := by decide +kernel
set_option maxHeartbeats 4000000 in
set_option maxRecDepth 100000 in
theorem m_X5_intToLittleEndian (l : Launch) (dC : Nat → ClassId) (dI : Nat → Nat → Nat) (cB cI : ClassId) (sz : Nat) (g a cnt n o : Nat) (ns f : Nat → Int32) (h1 : o + 4 * cnt ≤ n) (h3 : n ≤ 4096) : zMv l yX5_intToLittleEndian cX5_intToLittleEndian 4 none 1 40 0 0 [.ref g, .ref a, .int (nI o)] zNo (dC, dI) cB cI sz [(g, .inl (cI, cnt, .inl ns)), (a, .inl (cB, n, .inl f))] (fun A t => zB (dC, dI) A [(g, .inl (cI, cnt, .inl ns)), (a, .inl (cB, n, .inl (wrls ns f o cnt)))] t) := by
  refine z_ofv (C := RX5) rfl (by decide +kernel) (Nat.le_of_ble_eq_true rfl) ?_
  intro pr ev s m below meth c A hx hb hr hlocks hml hown hname hts hK hP hD hA hE hS ls hl
  have hl : lv_has ls 4 [(0, .ref g), (1, .ref a), (2, .int (nI o))] := hl
  refine lv_iconst (v := nI 0) hx hb dX5_intToLittleEndian_0 (by decide) ?_
  refine lv_istore_n (lv' := [(3, .int (nI 0)), (0, .ref g), (1, .ref a), (2, .int (nI o))]) hx hb dX5_intToLittleEndian_1 rfl hl (by decide) rfl (fun ls hl => ?_)
  have loop : ∀ (r i : Nat), i + r = cnt → ∀ (H : Heap) (locs : List Loc) (ls : Array Slot), va_P (dC, dI) vwCl [(g, .inl (cI, cnt, .inl ns)), (a, .inl (cB, n, .inl (wrls ns f o i)))] H → va_D A [(g, .inl (cI, cnt, .inl ns)), (a, .inl (cB, n, .inl (wrls ns f o i)))] → va_S A s.heap H locs → lv_has ls 4 [(0, .ref g), (1, .ref a), (2, .int (nI (o + 4 * i))), (3, .int (nI i))] → W pr l ev (zRm 1 40 0 0) s m ([.ref g, .ref a, .int (nI o)] : List Value).toArray below meth c H locs (0) (0) (zQv below (fun A t => zB (dC, dI) A [(g, .inl (cI, cnt, .inl ns)), (a, .inl (cB, n, .inl (wrls ns f o cnt)))] t) A [.ref g, .ref a, .int (nI o)] s 0 0) (F0 m 2 ls []) := by
    intro r
    induction r with
    | zero =>
      intro i hi H locs ls hP hD hS hl
      obtain rfl : i = cnt := by omega
      refine lv_iload_n hx hb dX5_intToLittleEndian_2 rfl (lv_at hl 3 rfl) ?_
      refine lv_aload_n hx hb dX5_intToLittleEndian_3 rfl (lv_at hl 0 rfl) ?_
      refine va_alen (v := nI i) hx hb hK hP 0 1 rfl rfl rfl dX5_intToLittleEndian_4 ?_
      refine lv_icmp_ge (tgt := 25) hx hb dX5_intToLittleEndian_5 (by decide) (fun _ => ?_) (fun hc => absurd (nI_le (Nat.le_refl _) (by omega)) hc)
      exact z_vret hx hb hr hlocks hS (Nat.le_of_ble_eq_true rfl) (Nat.le_of_ble_eq_true rfl) dX5_intToLittleEndian_25 (fun t ht => zB_of hP hD [0, 1] rfl (by decide) ht)
    | succ r ih =>
      intro i hi H locs ls hP hD hS hl
      refine lv_iload_n hx hb dX5_intToLittleEndian_2 rfl (lv_at hl 3 rfl) ?_
      refine lv_aload_n hx hb dX5_intToLittleEndian_3 rfl (lv_at hl 0 rfl) ?_
      refine va_alen (v := nI cnt) hx hb hK hP 0 1 rfl rfl rfl dX5_intToLittleEndian_4 ?_
      refine lv_icmp_ge (tgt := 25) hx hb dX5_intToLittleEndian_5 (by decide) (fun hc => absurd hc (nI_ge (by omega) (by omega))) (fun _ => ?_)
      refine lv_aload_n hx hb dX5_intToLittleEndian_8 rfl (lv_at hl 0 rfl) ?_
      refine lv_iload_n hx hb dX5_intToLittleEndian_9 rfl (lv_at hl 3 rfl) ?_
      refine z_iald (k := i) (v := ns i) hx hb hK hP 0 1 rfl rfl (by omega) (by omega) rfl dX5_intToLittleEndian_10 ?_
      refine lv_aload_n hx hb dX5_intToLittleEndian_11 rfl (lv_at hl 1 rfl) ?_
      refine lv_iload_n hx hb dX5_intToLittleEndian_12 rfl (lv_at hl 2 rfl) ?_
      refine z_callvS (wr := [(g, .inl (cI, cnt, .inl ns))]) (As := [.int (ns i), .ref a, .int (nI (o + 4 * i))]) (rest := []) ⟨hx, hb, hml, hown, hts⟩ (m_X5_intToLittleEndian_2 l dC dI cB cI H.size a n (o + 4 * i) (wrls ns f o i) (ns i) (by omega) (by omega)) (va_cwS 3 hts (lw_S q218 q219 q17 q220) rfl rfl rfl hd_X5_intToLittleEndian_2 ⟨Nat.le_of_ble_eq_true rfl, Nat.le_of_ble_eq_true rfl⟩) ⟨zNo_good, trivial⟩ rfl hl.1 rfl (Nat.le_of_ble_eq_true rfl) dX5_intToLittleEndian_13 ⟨Nat.le_of_ble_eq_true rfl, Nat.le_of_ble_eq_true rfl⟩ hS hK hP hD hA [1] [0] rfl (by decide) rfl (by decide) (by decide) (fun A1 t H locs hB J hS => ?_)
      skip
      obtain ⟨hP, hD⟩ := J _ hB
      clear hB J
      have hP : va_P (dC, dI) vwCl [(g, .inl (cI, cnt, .inl ns)), (a, .inl (cB, n, .inl (wrls ns f o (i + 1))))] H := hP
      have hD : va_D A [(g, .inl (cI, cnt, .inl ns)), (a, .inl (cB, n, .inl (wrls ns f o (i + 1))))] := hD
      refine lv_iinc (v := nI (o + 4 * (i + 1))) (lv' := [(2, .int (nI (o + 4 * (i + 1)))), (0, .ref g), (1, .ref a), (3, .int (nI i))]) hx hb dX5_intToLittleEndian_16 hl (k := 2) rfl ((z_inc _ 4).trans (congrArg nI (by omega))) (by decide) rfl (fun ls hl => ?_)
      refine lv_iinc (v := nI (i + 1)) (lv' := [(3, .int (nI (i + 1))), (2, .int (nI (o + 4 * (i + 1)))), (0, .ref g), (1, .ref a)]) hx hb dX5_intToLittleEndian_19 hl (k := 3) rfl (z_inc _ 1) (by decide) rfl (fun ls hl => ?_)
      refine lv_goto (tgt := 2) hx hb dX5_intToLittleEndian_22 (by decide) ?_
      exact ih (i + 1) (by omega) H locs ls hP hD hS (lv_sub hl [2, 3, 1, 0] rfl)
  exact loop cnt 0 (by omega) s.heap [] ls hP hD hS (lv_sub hl [1, 2, 3, 0] rfl)
end
section
/-! Salsa20Engine.salsaCore -/
set_option maxRecDepth 100000
theorem hd_X2_salsaCore : yX2_salsaCore.cls ≠ "java/lang/invoke/MethodHandle" ∧ yX2_salsaCore.cls ≠ "java/lang/invoke/VarHandle" ∧ (parseMethodDescriptor yX2_salsaCore.desc).map (fun d => d.parameters.length) = some 3 := by decide +kernel
set_option maxHeartbeats 4000000 in
set_option maxRecDepth 100000 in
theorem m_X2_salsaCore (l : Launch) (dC : Nat → ClassId) (dI : Nat → Nat → Nat) (cB cI : ClassId) (sz : Nat) (e x : Nat) (es xs : Nat → Int32) : zMv l yX2_salsaCore cX2_salsaCore 20 none 2 80 0 0 [.int (nI 20), .ref e, .ref x] zNo (dC, dI) cB cI sz [(e, .inl (cI, 16, .inl es)), (x, .inl (cI, 16, .inl xs))] (fun A t => zB (dC, dI) A [(e, .inl (cI, 16, .inl es)), (x, .inl (cI, 16, .inl (core es xs)))] t) := by
  refine z_ofv (C := RX2) rfl (by decide +kernel) (Nat.le_of_ble_eq_true rfl) ?_
  intro pr ev s m below meth c A hx hb hr hlocks hml hown hname hts hK hP hD hA hE hS ls hl
  have hl : lv_has ls 20 [(0, .int (nI 20)), (1, .ref e), (2, .ref x)] := hl
  refine lv_aload_n hx hb dX2_salsaCore_0 rfl (lv_at hl 1 rfl) ?_
  refine va_alen (v := nI 16) hx hb hK hP 0 1 rfl rfl rfl dX2_salsaCore_1 ?_
  refine lv_bipush (v := nI 16) hx hb dX2_salsaCore_2 (by decide) ?_
  refine lv_icmp_eq (tgt := 15) hx hb dX2_salsaCore_4 (by decide) (fun _ => ?_) (fun hc => absurd rfl hc)
  refine lv_aload_n hx hb dX2_salsaCore_15 rfl (lv_at hl 2 rfl) ?_
  refine va_alen (v := nI 16) hx hb hK hP 1 1 rfl rfl rfl dX2_salsaCore_16 ?_
  refine lv_bipush (v := nI 16) hx hb dX2_salsaCore_17 (by decide) ?_
  refine lv_icmp_eq (tgt := 30) hx hb dX2_salsaCore_19 (by decide) (fun _ => ?_) (fun hc => absurd rfl hc)
  refine lv_iload_n hx hb dX2_salsaCore_30 rfl (lv_at hl 0 rfl) ?_
  refine lv_iconst (v := nI 2) hx hb dX2_salsaCore_31 (by decide) ?_
  refine lv_irem hx hb dX2_salsaCore_32 (by decide) ?_
  refine z_top (y := nI 0) (by decide) ?_
  refine lv_if_eq (tgt := 46) hx hb dX2_salsaCore_33 (by decide) (fun _ => ?_) (fun hc => absurd nI_0 hc)
  refine lv_aload_n hx hb dX2_salsaCore_46 rfl (lv_at hl 1 rfl) ?_
  refine lv_iconst (v := nI 0) hx hb dX2_salsaCore_47 (by decide) ?_
  refine z_iald (k := 0) (v := es 0) hx hb hK hP 0 1 rfl rfl (by omega) (by omega) rfl dX2_salsaCore_48 ?_
  refine lv_istore_n (lv' := [(3, .int (es 0)), (0, .int (nI 20)), (1, .ref e), (2, .ref x)]) hx hb dX2_salsaCore_49 rfl hl (by decide) rfl (fun ls hl => ?_)
  refine lv_aload_n hx hb dX2_salsaCore_50 rfl (lv_at hl 2 rfl) ?_
  refine lv_iconst (v := nI 1) hx hb dX2_salsaCore_51 (by decide) ?_
  refine z_iald (k := 1) (v := es 1) hx hb hK hP 0 1 rfl rfl (by omega) (by omega) rfl dX2_salsaCore_52 ?_
  refine lv_istore (lv' := [(4, .int (es 1)), (3, .int (es 0)), (0, .int (nI 20)), (1, .ref e), (2, .ref x)]) hx hb dX2_salsaCore_53 hl (by decide) rfl (fun ls hl => ?_)
  refine lv_aload_n hx hb dX2_salsaCore_55 rfl (lv_at hl 3 rfl) ?_
  refine lv_iconst (v := nI 2) hx hb dX2_salsaCore_56 (by decide) ?_
  refine z_iald (k := 2) (v := es 2) hx hb hK hP 0 1 rfl rfl (by omega) (by omega) rfl dX2_salsaCore_57 ?_
  refine lv_istore (lv' := [(5, .int (es 2)), (4, .int (es 1)), (3, .int (es 0)), (0, .int (nI 20)), (1, .ref e), (2, .ref x)]) hx hb dX2_salsaCore_58 hl (by decide) rfl (fun ls hl => ?_)
  refine lv_aload_n hx hb dX2_salsaCore_60 rfl (lv_at hl 4 rfl) ?_
  refine lv_iconst (v := nI 3) hx hb dX2_salsaCore_61 (by decide) ?_
  refine z_iald (k := 3) (v := es 3) hx hb hK hP 0 1 rfl rfl (by omega) (by omega) rfl dX2_salsaCore_62 ?_
  refine lv_istore (lv' := [(6, .int (es 3)), (5, .int (es 2)), (4, .int (es 1)), (3, .int (es 0)), (0, .int (nI 20)), (1, .ref e), (2, .ref x)]) hx hb dX2_salsaCore_63 hl (by decide) rfl (fun ls hl => ?_)
  refine lv_aload_n hx hb dX2_salsaCore_65 rfl (lv_at hl 5 rfl) ?_
  refine lv_iconst (v := nI 4) hx hb dX2_salsaCore_66 (by decide) ?_
  refine z_iald (k := 4) (v := es 4) hx hb hK hP 0 1 rfl rfl (by omega) (by omega) rfl dX2_salsaCore_67 ?_
  refine lv_istore (lv' := [(7, .int (es 4)), (6, .int (es 3)), (5, .int (es 2)), (4, .int (es 1)), (3, .int (es 0)), (0, .int (nI 20)), (1, .ref e), (2, .ref x)]) hx hb dX2_salsaCore_68 hl (by decide) rfl (fun ls hl => ?_)
  refine lv_aload_n hx hb dX2_salsaCore_70 rfl (lv_at hl 6 rfl) ?_
  refine lv_iconst (v := nI 5) hx hb dX2_salsaCore_71 (by decide) ?_
  refine z_iald (k := 5) (v := es 5) hx hb hK hP 0 1 rfl rfl (by omega) (by omega) rfl dX2_salsaCore_72 ?_
  refine lv_istore (lv' := [(8, .int (es 5)), (7, .int (es 4)), (6, .int (es 3)), (5, .int (es 2)), (4, .int (es 1)), (3, .int (es 0)), (0, .int (nI 20)), (1, .ref e), (2, .ref x)]) hx hb dX2_salsaCore_73 hl (by decide) rfl (fun ls hl => ?_)
  refine lv_aload_n hx hb dX2_salsaCore_75 rfl (lv_at hl 7 rfl) ?_
  refine lv_bipush (v := nI 6) hx hb dX2_salsaCore_76 (by decide) ?_
  refine z_iald (k := 6) (v := es 6) hx hb hK hP 0 1 rfl rfl (by omega) (by omega) rfl dX2_salsaCore_78 ?_
  refine lv_istore (lv' := [(9, .int (es 6)), (8, .int (es 5)), (7, .int (es 4)), (6, .int (es 3)), (5, .int (es 2)), (4, .int (es 1)), (3, .int (es 0)), (0, .int (nI 20)), (1, .ref e), (2, .ref x)]) hx hb dX2_salsaCore_79 hl (by decide) rfl (fun ls hl => ?_)
  refine lv_aload_n hx hb dX2_salsaCore_81 rfl (lv_at hl 8 rfl) ?_
  refine lv_bipush (v := nI 7) hx hb dX2_salsaCore_82 (by decide) ?_
  refine z_iald (k := 7) (v := es 7) hx hb hK hP 0 1 rfl rfl (by omega) (by omega) rfl dX2_salsaCore_84 ?_
  refine lv_istore (lv' := [(10, .int (es 7)), (9, .int (es 6)), (8, .int (es 5)), (7, .int (es 4)), (6, .int (es 3)), (5, .int (es 2)), (4, .int (es 1)), (3, .int (es 0)), (0, .int (nI 20)), (1, .ref e), (2, .ref x)]) hx hb dX2_salsaCore_85 hl (by decide) rfl (fun ls hl => ?_)
  refine lv_aload_n hx hb dX2_salsaCore_87 rfl (lv_at hl 9 rfl) ?_
  refine lv_bipush (v := nI 8) hx hb dX2_salsaCore_88 (by decide) ?_
  refine z_iald (k := 8) (v := es 8) hx hb hK hP 0 1 rfl rfl (by omega) (by omega) rfl dX2_salsaCore_90 ?_
  refine lv_istore (lv' := [(11, .int (es 8)), (10, .int (es 7)), (9, .int (es 6)), (8, .int (es 5)), (7, .int (es 4)), (6, .int (es 3)), (5, .int (es 2)), (4, .int (es 1)), (3, .int (es 0)), (0, .int (nI 20)), (1, .ref e), (2, .ref x)]) hx hb dX2_salsaCore_91 hl (by decide) rfl (fun ls hl => ?_)
  refine lv_aload_n hx hb dX2_salsaCore_93 rfl (lv_at hl 10 rfl) ?_
  refine lv_bipush (v := nI 9) hx hb dX2_salsaCore_94 (by decide) ?_
  refine z_iald (k := 9) (v := es 9) hx hb hK hP 0 1 rfl rfl (by omega) (by omega) rfl dX2_salsaCore_96 ?_
  refine lv_istore (lv' := [(12, .int (es 9)), (11, .int (es 8)), (10, .int (es 7)), (9, .int (es 6)), (8, .int (es 5)), (7, .int (es 4)), (6, .int (es 3)), (5, .int (es 2)), (4, .int (es 1)), (3, .int (es 0)), (0, .int (nI 20)), (1, .ref e), (2, .ref x)]) hx hb dX2_salsaCore_97 hl (by decide) rfl (fun ls hl => ?_)
  refine lv_aload_n hx hb dX2_salsaCore_99 rfl (lv_at hl 11 rfl) ?_
  refine lv_bipush (v := nI 10) hx hb dX2_salsaCore_100 (by decide) ?_
  refine z_iald (k := 10) (v := es 10) hx hb hK hP 0 1 rfl rfl (by omega) (by omega) rfl dX2_salsaCore_102 ?_
  refine lv_istore (lv' := [(13, .int (es 10)), (12, .int (es 9)), (11, .int (es 8)), (10, .int (es 7)), (9, .int (es 6)), (8, .int (es 5)), (7, .int (es 4)), (6, .int (es 3)), (5, .int (es 2)), (4, .int (es 1)), (3, .int (es 0)), (0, .int (nI 20)), (1, .ref e), (2, .ref x)]) hx hb dX2_salsaCore_103 hl (by decide) rfl (fun ls hl => ?_)
  refine lv_aload_n hx hb dX2_salsaCore_105 rfl (lv_at hl 12 rfl) ?_
  refine lv_bipush (v := nI 11) hx hb dX2_salsaCore_106 (by decide) ?_
  refine z_iald (k := 11) (v := es 11) hx hb hK hP 0 1 rfl rfl (by omega) (by omega) rfl dX2_salsaCore_108 ?_
  refine lv_istore (lv' := [(14, .int (es 11)), (13, .int (es 10)), (12, .int (es 9)), (11, .int (es 8)), (10, .int (es 7)), (9, .int (es 6)), (8, .int (es 5)), (7, .int (es 4)), (6, .int (es 3)), (5, .int (es 2)), (4, .int (es 1)), (3, .int (es 0)), (0, .int (nI 20)), (1, .ref e), (2, .ref x)]) hx hb dX2_salsaCore_109 hl (by decide) rfl (fun ls hl => ?_)
  refine lv_aload_n hx hb dX2_salsaCore_111 rfl (lv_at hl 13 rfl) ?_
  refine lv_bipush (v := nI 12) hx hb dX2_salsaCore_112 (by decide) ?_
  refine z_iald (k := 12) (v := es 12) hx hb hK hP 0 1 rfl rfl (by omega) (by omega) rfl dX2_salsaCore_114 ?_
  refine lv_istore (lv' := [(15, .int (es 12)), (14, .int (es 11)), (13, .int (es 10)), (12, .int (es 9)), (11, .int (es 8)), (10, .int (es 7)), (9, .int (es 6)), (8, .int (es 5)), (7, .int (es 4)), (6, .int (es 3)), (5, .int (es 2)), (4, .int (es 1)), (3, .int (es 0)), (0, .int (nI 20)), (1, .ref e), (2, .ref x)]) hx hb dX2_salsaCore_115 hl (by decide) rfl (fun ls hl => ?_)
  refine lv_aload_n hx hb dX2_salsaCore_117 rfl (lv_at hl 14 rfl) ?_
  refine lv_bipush (v := nI 13) hx hb dX2_salsaCore_118 (by decide) ?_
  refine z_iald (k := 13) (v := es 13) hx hb hK hP 0 1 rfl rfl (by omega) (by omega) rfl dX2_salsaCore_120 ?_
  refine lv_istore (lv' := [(16, .int (es 13)), (15, .int (es 12)), (14, .int (es 11)), (13, .int (es 10)), (12, .int (es 9)), (11, .int (es 8)), (10, .int (es 7)), (9, .int (es 6)), (8, .int (es 5)), (7, .int (es 4)), (6, .int (es 3)), (5, .int (es 2)), (4, .int (es 1)), (3, .int (es 0)), (0, .int (nI 20)), (1, .ref e), (2, .ref x)]) hx hb dX2_salsaCore_121 hl (by decide) rfl (fun ls hl => ?_)
  refine lv_aload_n hx hb dX2_salsaCore_123 rfl (lv_at hl 15 rfl) ?_
  refine lv_bipush (v := nI 14) hx hb dX2_salsaCore_124 (by decide) ?_
  refine z_iald (k := 14) (v := es 14) hx hb hK hP 0 1 rfl rfl (by omega) (by omega) rfl dX2_salsaCore_126 ?_
  refine lv_istore (lv' := [(17, .int (es 14)), (16, .int (es 13)), (15, .int (es 12)), (14, .int (es 11)), (13, .int (es 10)), (12, .int (es 9)), (11, .int (es 8)), (10, .int (es 7)), (9, .int (es 6)), (8, .int (es 5)), (7, .int (es 4)), (6, .int (es 3)), (5, .int (es 2)), (4, .int (es 1)), (3, .int (es 0)), (0, .int (nI 20)), (1, .ref e), (2, .ref x)]) hx hb dX2_salsaCore_127 hl (by decide) rfl (fun ls hl => ?_)
  refine lv_aload_n hx hb dX2_salsaCore_129 rfl (lv_at hl 16 rfl) ?_
  refine lv_bipush (v := nI 15) hx hb dX2_salsaCore_130 (by decide) ?_
  refine z_iald (k := 15) (v := es 15) hx hb hK hP 0 1 rfl rfl (by omega) (by omega) rfl dX2_salsaCore_132 ?_
  refine lv_istore (lv' := [(18, .int (es 15)), (17, .int (es 14)), (16, .int (es 13)), (15, .int (es 12)), (14, .int (es 11)), (13, .int (es 10)), (12, .int (es 9)), (11, .int (es 8)), (10, .int (es 7)), (9, .int (es 6)), (8, .int (es 5)), (7, .int (es 4)), (6, .int (es 3)), (5, .int (es 2)), (4, .int (es 1)), (3, .int (es 0)), (0, .int (nI 20)), (1, .ref e), (2, .ref x)]) hx hb dX2_salsaCore_133 hl (by decide) rfl (fun ls hl => ?_)
  refine lv_iload_n hx hb dX2_salsaCore_135 rfl (lv_at hl 16 rfl) ?_
  refine lv_istore (lv' := [(19, .int (nI 20)), (18, .int (es 15)), (17, .int (es 14)), (16, .int (es 13)), (15, .int (es 12)), (14, .int (es 11)), (13, .int (es 10)), (12, .int (es 9)), (11, .int (es 8)), (10, .int (es 7)), (9, .int (es 6)), (8, .int (es 5)), (7, .int (es 4)), (6, .int (es 3)), (5, .int (es 2)), (4, .int (es 1)), (3, .int (es 0)), (0, .int (nI 20)), (1, .ref e), (2, .ref x)]) hx hb dX2_salsaCore_136 hl (by decide) rfl (fun ls hl => ?_)
  have loop : ∀ (r : Nat) (t : Nat → Int32), drnds r t = drnds 10 es → r ≤ 10 → ∀ (ls : Array Slot), lv_has ls 20 [(1, .ref e), (2, .ref x), (3, .int (t 0)), (4, .int (t 1)), (5, .int (t 2)), (6, .int (t 3)), (7, .int (t 4)), (8, .int (t 5)), (9, .int (t 6)), (10, .int (t 7)), (11, .int (t 8)), (12, .int (t 9)), (13, .int (t 10)), (14, .int (t 11)), (15, .int (t 12)), (16, .int (t 13)), (17, .int (t 14)), (18, .int (t 15)), (19, .int (nI (2 * r)))] → W pr l ev (zRm 2 80 0 0) s m ([.int (nI 20), .ref e, .ref x] : List Value).toArray below meth c s.heap [] (0) (0) (zQv below (fun A t => zB (dC, dI) A [(e, .inl (cI, 16, .inl es)), (x, .inl (cI, 16, .inl (core es xs)))] t) A [.int (nI 20), .ref e, .ref x] s 0 0) (F0 m 138 ls []) := by
    intro r
    induction r with
    | zero =>
      intro t ht h10 ls hl
      obtain rfl : t = drnds 10 es := ht
      refine lv_iload hx hb dX2_salsaCore_138 (lv_at hl 18 rfl) ?_
      refine lv_if_le (tgt := 621) hx hb dX2_salsaCore_140 (by decide) (fun _ => ?_) (fun hc => absurd (by decide) hc)
      refine lv_aload_n hx hb dX2_salsaCore_621 rfl (lv_at hl 1 rfl) ?_
      refine lv_iconst (v := nI 0) hx hb dX2_salsaCore_622 (by decide) ?_
      refine lv_iload_n hx hb dX2_salsaCore_623 rfl (lv_at hl 2 rfl) ?_
      refine lv_aload_n hx hb dX2_salsaCore_624 rfl (lv_at hl 0 rfl) ?_
      refine lv_iconst (v := nI 0) hx hb dX2_salsaCore_625 (by decide) ?_
      refine z_iald (k := 0) (v := es 0) hx hb hK hP 0 1 rfl rfl (by decide) (by decide) rfl dX2_salsaCore_626 ?_
      refine lv_iadd hx hb dX2_salsaCore_627 ?_
      refine z_iast (k := 0) (g := addup (drnds 10 es) es xs 1) hx hb hK hP hD hS 1 1 rfl rfl (by decide) (by decide) rfl dX2_salsaCore_628 (fun H locs hP hD hS => ?_)
      have hP : va_P (dC, dI) vwCl [(e, .inl (cI, 16, .inl es)), (x, .inl (cI, 16, .inl (addup (drnds 10 es) es xs 1)))] H := hP
      have hD : va_D A [(e, .inl (cI, 16, .inl es)), (x, .inl (cI, 16, .inl (addup (drnds 10 es) es xs 1)))] := hD
      refine lv_aload_n hx hb dX2_salsaCore_629 rfl (lv_at hl 1 rfl) ?_
      refine lv_iconst (v := nI 1) hx hb dX2_salsaCore_630 (by decide) ?_
      refine lv_iload hx hb dX2_salsaCore_631 (lv_at hl 3 rfl) ?_
      refine lv_aload_n hx hb dX2_salsaCore_633 rfl (lv_at hl 0 rfl) ?_
      refine lv_iconst (v := nI 1) hx hb dX2_salsaCore_634 (by decide) ?_
      refine z_iald (k := 1) (v := es 1) hx hb hK hP 0 1 rfl rfl (by decide) (by decide) rfl dX2_salsaCore_635 ?_
      refine lv_iadd hx hb dX2_salsaCore_636 ?_
      refine z_iast (k := 1) (g := addup (drnds 10 es) es xs 2) hx hb hK hP hD hS 1 1 rfl rfl (by decide) (by decide) rfl dX2_salsaCore_637 (fun H locs hP hD hS => ?_)
      have hP : va_P (dC, dI) vwCl [(e, .inl (cI, 16, .inl es)), (x, .inl (cI, 16, .inl (addup (drnds 10 es) es xs 2)))] H := hP
      have hD : va_D A [(e, .inl (cI, 16, .inl es)), (x, .inl (cI, 16, .inl (addup (drnds 10 es) es xs 2)))] := hD
      refine lv_aload_n hx hb dX2_salsaCore_638 rfl (lv_at hl 1 rfl) ?_
      refine lv_iconst (v := nI 2) hx hb dX2_salsaCore_639 (by decide) ?_
      refine lv_iload hx hb dX2_salsaCore_640 (lv_at hl 4 rfl) ?_
      refine lv_aload_n hx hb dX2_salsaCore_642 rfl (lv_at hl 0 rfl) ?_
      refine lv_iconst (v := nI 2) hx hb dX2_salsaCore_643 (by decide) ?_
      refine z_iald (k := 2) (v := es 2) hx hb hK hP 0 1 rfl rfl (by decide) (by decide) rfl dX2_salsaCore_644 ?_
      refine lv_iadd hx hb dX2_salsaCore_645 ?_
      refine z_iast (k := 2) (g := addup (drnds 10 es) es xs 3) hx hb hK hP hD hS 1 1 rfl rfl (by decide) (by decide) rfl dX2_salsaCore_646 (fun H locs hP hD hS => ?_)
      have hP : va_P (dC, dI) vwCl [(e, .inl (cI, 16, .inl es)), (x, .inl (cI, 16, .inl (addup (drnds 10 es) es xs 3)))] H := hP
      have hD : va_D A [(e, .inl (cI, 16, .inl es)), (x, .inl (cI, 16, .inl (addup (drnds 10 es) es xs 3)))] := hD
      refine lv_aload_n hx hb dX2_salsaCore_647 rfl (lv_at hl 1 rfl) ?_
      refine lv_iconst (v := nI 3) hx hb dX2_salsaCore_648 (by decide) ?_
      refine lv_iload hx hb dX2_salsaCore_649 (lv_at hl 5 rfl) ?_
      refine lv_aload_n hx hb dX2_salsaCore_651 rfl (lv_at hl 0 rfl) ?_
      refine lv_iconst (v := nI 3) hx hb dX2_salsaCore_652 (by decide) ?_
      refine z_iald (k := 3) (v := es 3) hx hb hK hP 0 1 rfl rfl (by decide) (by decide) rfl dX2_salsaCore_653 ?_
      refine lv_iadd hx hb dX2_salsaCore_654 ?_
      refine z_iast (k := 3) (g := addup (drnds 10 es) es xs 4) hx hb hK hP hD hS 1 1 rfl rfl (by decide) (by decide) rfl dX2_salsaCore_655 (fun H locs hP hD hS => ?_)
      have hP : va_P (dC, dI) vwCl [(e, .inl (cI, 16, .inl es)), (x, .inl (cI, 16, .inl (addup (drnds 10 es) es xs 4)))] H := hP
      have hD : va_D A [(e, .inl (cI, 16, .inl es)), (x, .inl (cI, 16, .inl (addup (drnds 10 es) es xs 4)))] := hD
      refine lv_aload_n hx hb dX2_salsaCore_656 rfl (lv_at hl 1 rfl) ?_
      refine lv_iconst (v := nI 4) hx hb dX2_salsaCore_657 (by decide) ?_
      refine lv_iload hx hb dX2_salsaCore_658 (lv_at hl 6 rfl) ?_
      refine lv_aload_n hx hb dX2_salsaCore_660 rfl (lv_at hl 0 rfl) ?_
      refine lv_iconst (v := nI 4) hx hb dX2_salsaCore_661 (by decide) ?_
      refine z_iald (k := 4) (v := es 4) hx hb hK hP 0 1 rfl rfl (by decide) (by decide) rfl dX2_salsaCore_662 ?_
      refine lv_iadd hx hb dX2_salsaCore_663 ?_
      refine z_iast (k := 4) (g := addup (drnds 10 es) es xs 5) hx hb hK hP hD hS 1 1 rfl rfl (by decide) (by decide) rfl dX2_salsaCore_664 (fun H locs hP hD hS => ?_)
      have hP : va_P (dC, dI) vwCl [(e, .inl (cI, 16, .inl es)), (x, .inl (cI, 16, .inl (addup (drnds 10 es) es xs 5)))] H := hP
      have hD : va_D A [(e, .inl (cI, 16, .inl es)), (x, .inl (cI, 16, .inl (addup (drnds 10 es) es xs 5)))] := hD
      refine lv_aload_n hx hb dX2_salsaCore_665 rfl (lv_at hl 1 rfl) ?_
      refine lv_iconst (v := nI 5) hx hb dX2_salsaCore_666 (by decide) ?_
      refine lv_iload hx hb dX2_salsaCore_667 (lv_at hl 7 rfl) ?_
      refine lv_aload_n hx hb dX2_salsaCore_669 rfl (lv_at hl 0 rfl) ?_
      refine lv_iconst (v := nI 5) hx hb dX2_salsaCore_670 (by decide) ?_
      refine z_iald (k := 5) (v := es 5) hx hb hK hP 0 1 rfl rfl (by decide) (by decide) rfl dX2_salsaCore_671 ?_
      refine lv_iadd hx hb dX2_salsaCore_672 ?_
      refine z_iast (k := 5) (g := addup (drnds 10 es) es xs 6) hx hb hK hP hD hS 1 1 rfl rfl (by decide) (by decide) rfl dX2_salsaCore_673 (fun H locs hP hD hS => ?_)
      have hP : va_P (dC, dI) vwCl [(e, .inl (cI, 16, .inl es)), (x, .inl (cI, 16, .inl (addup (drnds 10 es) es xs 6)))] H := hP
      have hD : va_D A [(e, .inl (cI, 16, .inl es)), (x, .inl (cI, 16, .inl (addup (drnds 10 es) es xs 6)))] := hD
      refine lv_aload_n hx hb dX2_salsaCore_674 rfl (lv_at hl 1 rfl) ?_
      refine lv_bipush (v := nI 6) hx hb dX2_salsaCore_675 (by decide) ?_
      refine lv_iload hx hb dX2_salsaCore_677 (lv_at hl 8 rfl) ?_
      refine lv_aload_n hx hb dX2_salsaCore_679 rfl (lv_at hl 0 rfl) ?_
      refine lv_bipush (v := nI 6) hx hb dX2_salsaCore_680 (by decide) ?_
      refine z_iald (k := 6) (v := es 6) hx hb hK hP 0 1 rfl rfl (by decide) (by decide) rfl dX2_salsaCore_682 ?_
      refine lv_iadd hx hb dX2_salsaCore_683 ?_
      refine z_iast (k := 6) (g := addup (drnds 10 es) es xs 7) hx hb hK hP hD hS 1 1 rfl rfl (by decide) (by decide) rfl dX2_salsaCore_684 (fun H locs hP hD hS => ?_)
      have hP : va_P (dC, dI) vwCl [(e, .inl (cI, 16, .inl es)), (x, .inl (cI, 16, .inl (addup (drnds 10 es) es xs 7)))] H := hP
      have hD : va_D A [(e, .inl (cI, 16, .inl es)), (x, .inl (cI, 16, .inl (addup (drnds 10 es) es xs 7)))] := hD
      refine lv_aload_n hx hb dX2_salsaCore_685 rfl (lv_at hl 1 rfl) ?_
      refine lv_bipush (v := nI 7) hx hb dX2_salsaCore_686 (by decide) ?_
      refine lv_iload hx hb dX2_salsaCore_688 (lv_at hl 9 rfl) ?_
      refine lv_aload_n hx hb dX2_salsaCore_690 rfl (lv_at hl 0 rfl) ?_
      refine lv_bipush (v := nI 7) hx hb dX2_salsaCore_691 (by decide) ?_
      refine z_iald (k := 7) (v := es 7) hx hb hK hP 0 1 rfl rfl (by decide) (by decide) rfl dX2_salsaCore_693 ?_
      refine lv_iadd hx hb dX2_salsaCore_694 ?_
      refine z_iast (k := 7) (g := addup (drnds 10 es) es xs 8) hx hb hK hP hD hS 1 1 rfl rfl (by decide) (by decide) rfl dX2_salsaCore_695 (fun H locs hP hD hS => ?_)
      have hP : va_P (dC, dI) vwCl [(e, .inl (cI, 16, .inl es)), (x, .inl (cI, 16, .inl (addup (drnds 10 es) es xs 8)))] H := hP
      have hD : va_D A [(e, .inl (cI, 16, .inl es)), (x, .inl (cI, 16, .inl (addup (drnds 10 es) es xs 8)))] := hD
      refine lv_aload_n hx hb dX2_salsaCore_696 rfl (lv_at hl 1 rfl) ?_
      refine lv_bipush (v := nI 8) hx hb dX2_salsaCore_697 (by decide) ?_
      refine lv_iload hx hb dX2_salsaCore_699 (lv_at hl 10 rfl) ?_
      refine lv_aload_n hx hb dX2_salsaCore_701 rfl (lv_at hl 0 rfl) ?_
      refine lv_bipush (v := nI 8) hx hb dX2_salsaCore_702 (by decide) ?_
      refine z_iald (k := 8) (v := es 8) hx hb hK hP 0 1 rfl rfl (by decide) (by decide) rfl dX2_salsaCore_704 ?_
      refine lv_iadd hx hb dX2_salsaCore_705 ?_
      refine z_iast (k := 8) (g := addup (drnds 10 es) es xs 9) hx hb hK hP hD hS 1 1 rfl rfl (by decide) (by decide) rfl dX2_salsaCore_706 (fun H locs hP hD hS => ?_)
      have hP : va_P (dC, dI) vwCl [(e, .inl (cI, 16, .inl es)), (x, .inl (cI, 16, .inl (addup (drnds 10 es) es xs 9)))] H := hP
      have hD : va_D A [(e, .inl (cI, 16, .inl es)), (x, .inl (cI, 16, .inl (addup (drnds 10 es) es xs 9)))] := hD
      refine lv_aload_n hx hb dX2_salsaCore_707 rfl (lv_at hl 1 rfl) ?_
      refine lv_bipush (v := nI 9) hx hb dX2_salsaCore_708 (by decide) ?_
      refine lv_iload hx hb dX2_salsaCore_710 (lv_at hl 11 rfl) ?_
      refine lv_aload_n hx hb dX2_salsaCore_712 rfl (lv_at hl 0 rfl) ?_
      refine lv_bipush (v := nI 9) hx hb dX2_salsaCore_713 (by decide) ?_
      refine z_iald (k := 9) (v := es 9) hx hb hK hP 0 1 rfl rfl (by decide) (by decide) rfl dX2_salsaCore_715 ?_
      refine lv_iadd hx hb dX2_salsaCore_716 ?_
      refine z_iast (k := 9) (g := addup (drnds 10 es) es xs 10) hx hb hK hP hD hS 1 1 rfl rfl (by decide) (by decide) rfl dX2_salsaCore_717 (fun H locs hP hD hS => ?_)
      have hP : va_P (dC, dI) vwCl [(e, .inl (cI, 16, .inl es)), (x, .inl (cI, 16, .inl (addup (drnds 10 es) es xs 10)))] H := hP
      have hD : va_D A [(e, .inl (cI, 16, .inl es)), (x, .inl (cI, 16, .inl (addup (drnds 10 es) es xs 10)))] := hD
      refine lv_aload_n hx hb dX2_salsaCore_718 rfl (lv_at hl 1 rfl) ?_
      refine lv_bipush (v := nI 10) hx hb dX2_salsaCore_719 (by decide) ?_
      refine lv_iload hx hb dX2_salsaCore_721 (lv_at hl 12 rfl) ?_
      refine lv_aload_n hx hb dX2_salsaCore_723 rfl (lv_at hl 0 rfl) ?_
      refine lv_bipush (v := nI 10) hx hb dX2_salsaCore_724 (by decide) ?_
      refine z_iald (k := 10) (v := es 10) hx hb hK hP 0 1 rfl rfl (by decide) (by decide) rfl dX2_salsaCore_726 ?_
      refine lv_iadd hx hb dX2_salsaCore_727 ?_
      refine z_iast (k := 10) (g := addup (drnds 10 es) es xs 11) hx hb hK hP hD hS 1 1 rfl rfl (by decide) (by decide) rfl dX2_salsaCore_728 (fun H locs hP hD hS => ?_)
      have hP : va_P (dC, dI) vwCl [(e, .inl (cI, 16, .inl es)), (x, .inl (cI, 16, .inl (addup (drnds 10 es) es xs 11)))] H := hP
      have hD : va_D A [(e, .inl (cI, 16, .inl es)), (x, .inl (cI, 16, .inl (addup (drnds 10 es) es xs 11)))] := hD
      refine lv_aload_n hx hb dX2_salsaCore_729 rfl (lv_at hl 1 rfl) ?_
      refine lv_bipush (v := nI 11) hx hb dX2_salsaCore_730 (by decide) ?_
      refine lv_iload hx hb dX2_salsaCore_732 (lv_at hl 13 rfl) ?_
      refine lv_aload_n hx hb dX2_salsaCore_734 rfl (lv_at hl 0 rfl) ?_
      refine lv_bipush (v := nI 11) hx hb dX2_salsaCore_735 (by decide) ?_
      refine z_iald (k := 11) (v := es 11) hx hb hK hP 0 1 rfl rfl (by decide) (by decide) rfl dX2_salsaCore_737 ?_
      refine lv_iadd hx hb dX2_salsaCore_738 ?_
      refine z_iast (k := 11) (g := addup (drnds 10 es) es xs 12) hx hb hK hP hD hS 1 1 rfl rfl (by decide) (by decide) rfl dX2_salsaCore_739 (fun H locs hP hD hS => ?_)
      have hP : va_P (dC, dI) vwCl [(e, .inl (cI, 16, .inl es)), (x, .inl (cI, 16, .inl (addup (drnds 10 es) es xs 12)))] H := hP
      have hD : va_D A [(e, .inl (cI, 16, .inl es)), (x, .inl (cI, 16, .inl (addup (drnds 10 es) es xs 12)))] := hD
      refine lv_aload_n hx hb dX2_salsaCore_740 rfl (lv_at hl 1 rfl) ?_
      refine lv_bipush (v := nI 12) hx hb dX2_salsaCore_741 (by decide) ?_
      refine lv_iload hx hb dX2_salsaCore_743 (lv_at hl 14 rfl) ?_
      refine lv_aload_n hx hb dX2_salsaCore_745 rfl (lv_at hl 0 rfl) ?_
      refine lv_bipush (v := nI 12) hx hb dX2_salsaCore_746 (by decide) ?_
      refine z_iald (k := 12) (v := es 12) hx hb hK hP 0 1 rfl rfl (by decide) (by decide) rfl dX2_salsaCore_748 ?_
      refine lv_iadd hx hb dX2_salsaCore_749 ?_
      refine z_iast (k := 12) (g := addup (drnds 10 es) es xs 13) hx hb hK hP hD hS 1 1 rfl rfl (by decide) (by decide) rfl dX2_salsaCore_750 (fun H locs hP hD hS => ?_)
      have hP : va_P (dC, dI) vwCl [(e, .inl (cI, 16, .inl es)), (x, .inl (cI, 16, .inl (addup (drnds 10 es) es xs 13)))] H := hP
      have hD : va_D A [(e, .inl (cI, 16, .inl es)), (x, .inl (cI, 16, .inl (addup (drnds 10 es) es xs 13)))] := hD
      refine lv_aload_n hx hb dX2_salsaCore_751 rfl (lv_at hl 1 rfl) ?_
      refine lv_bipush (v := nI 13) hx hb dX2_salsaCore_752 (by decide) ?_
      refine lv_iload hx hb dX2_salsaCore_754 (lv_at hl 15 rfl) ?_
      refine lv_aload_n hx hb dX2_salsaCore_756 rfl (lv_at hl 0 rfl) ?_
      refine lv_bipush (v := nI 13) hx hb dX2_salsaCore_757 (by decide) ?_
      refine z_iald (k := 13) (v := es 13) hx hb hK hP 0 1 rfl rfl (by decide) (by decide) rfl dX2_salsaCore_759 ?_
      refine lv_iadd hx hb dX2_salsaCore_760 ?_
      refine z_iast (k := 13) (g := addup (drnds 10 es) es xs 14) hx hb hK hP hD hS 1 1 rfl rfl (by decide) (by decide) rfl dX2_salsaCore_761 (fun H locs hP hD hS => ?_)
      have hP : va_P (dC, dI) vwCl [(e, .inl (cI, 16, .inl es)), (x, .inl (cI, 16, .inl (addup (drnds 10 es) es xs 14)))] H := hP
      have hD : va_D A [(e, .inl (cI, 16, .inl es)), (x, .inl (cI, 16, .inl (addup (drnds 10 es) es xs 14)))] := hD
      refine lv_aload_n hx hb dX2_salsaCore_762 rfl (lv_at hl 1 rfl) ?_
      refine lv_bipush (v := nI 14) hx hb dX2_salsaCore_763 (by decide) ?_
      refine lv_iload hx hb dX2_salsaCore_765 (lv_at hl 16 rfl) ?_
      refine lv_aload_n hx hb dX2_salsaCore_767 rfl (lv_at hl 0 rfl) ?_
      refine lv_bipush (v := nI 14) hx hb dX2_salsaCore_768 (by decide) ?_
      refine z_iald (k := 14) (v := es 14) hx hb hK hP 0 1 rfl rfl (by decide) (by decide) rfl dX2_salsaCore_770 ?_
      refine lv_iadd hx hb dX2_salsaCore_771 ?_
      refine z_iast (k := 14) (g := addup (drnds 10 es) es xs 15) hx hb hK hP hD hS 1 1 rfl rfl (by decide) (by decide) rfl dX2_salsaCore_772 (fun H locs hP hD hS => ?_)
      have hP : va_P (dC, dI) vwCl [(e, .inl (cI, 16, .inl es)), (x, .inl (cI, 16, .inl (addup (drnds 10 es) es xs 15)))] H := hP
      have hD : va_D A [(e, .inl (cI, 16, .inl es)), (x, .inl (cI, 16, .inl (addup (drnds 10 es) es xs 15)))] := hD
      refine lv_aload_n hx hb dX2_salsaCore_773 rfl (lv_at hl 1 rfl) ?_
      refine lv_bipush (v := nI 15) hx hb dX2_salsaCore_774 (by decide) ?_
      refine lv_iload hx hb dX2_salsaCore_776 (lv_at hl 17 rfl) ?_
      refine lv_aload_n hx hb dX2_salsaCore_778 rfl (lv_at hl 0 rfl) ?_
      refine lv_bipush (v := nI 15) hx hb dX2_salsaCore_779 (by decide) ?_
      refine z_iald (k := 15) (v := es 15) hx hb hK hP 0 1 rfl rfl (by decide) (by decide) rfl dX2_salsaCore_781 ?_
      refine lv_iadd hx hb dX2_salsaCore_782 ?_
      refine z_iast (k := 15) (g := addup (drnds 10 es) es xs 16) hx hb hK hP hD hS 1 1 rfl rfl (by decide) (by decide) rfl dX2_salsaCore_783 (fun H locs hP hD hS => ?_)
      have hP : va_P (dC, dI) vwCl [(e, .inl (cI, 16, .inl es)), (x, .inl (cI, 16, .inl (addup (drnds 10 es) es xs 16)))] H := hP
      have hD : va_D A [(e, .inl (cI, 16, .inl es)), (x, .inl (cI, 16, .inl (addup (drnds 10 es) es xs 16)))] := hD
      exact z_vret hx hb hr hlocks hS (Nat.le_of_ble_eq_true rfl) (Nat.le_of_ble_eq_true rfl) dX2_salsaCore_784 (fun t ht => zB_of hP hD [0, 1] rfl (by decide) ht)
    | succ r ih =>
      intro t ht h10 ls hl
      refine lv_iload hx hb dX2_salsaCore_138 (lv_at hl 18 rfl) ?_
      refine lv_if_le (tgt := 621) hx hb dX2_salsaCore_140 (by decide) (fun hc => absurd hc (nI_nle (by omega) (by omega))) (fun _ => ?_)
      refine lv_iload hx hb dX2_salsaCore_143 (lv_at hl 6 rfl) ?_
      refine lv_iload_n hx hb dX2_salsaCore_145 rfl (lv_at hl 2 rfl) ?_
      refine lv_iload hx hb dX2_salsaCore_146 (lv_at hl 14 rfl) ?_
      refine lv_iadd hx hb dX2_salsaCore_148 ?_
      refine lv_bipush (v := nI 7) hx hb dX2_salsaCore_149 (by decide) ?_
      refine z_readS (As := [.int ((t 0) + (t 12)), .int (nI 7)]) (rest := [.int (t 4)]) ⟨hx, hb, hml, hown, hts⟩ (m_X6_rotateLeft l dC dI cB cI s.heap.size ((t 0) + (t 12)) (nI 7)) (va_cwS 2 hts (lw_S q209 q210 q18 q211) rfl rfl rfl hd_X6_rotateLeft ⟨Nat.le_of_ble_eq_true rfl, Nat.le_of_ble_eq_true rfl⟩) ⟨zNo_good, trivial⟩ rfl hl.1 rfl (Nat.le_of_ble_eq_true rfl) dX2_salsaCore_151 ⟨Nat.le_of_ble_eq_true rfl, Nat.le_of_ble_eq_true rfl⟩ hS hK hP hD hA [] rfl (by decide) ?_
      refine lv_ixor hx hb dX2_salsaCore_154 ?_
      refine lv_topi (fun y1 ey1 => ?_)
      refine lv_istore (lv' := [(7, .int y1), (1, .ref e), (2, .ref x), (3, .int (t 0)), (4, .int (t 1)), (5, .int (t 2)), (6, .int (t 3)), (8, .int (t 5)), (9, .int (t 6)), (10, .int (t 7)), (11, .int (t 8)), (12, .int (t 9)), (13, .int (t 10)), (14, .int (t 11)), (15, .int (t 12)), (16, .int (t 13)), (17, .int (t 14)), (18, .int (t 15)), (19, .int (nI (2 * (r + 1))))]) hx hb dX2_salsaCore_155 hl (by decide) rfl (fun ls hl => ?_)
      refine lv_iload hx hb dX2_salsaCore_157 (lv_at hl 10 rfl) ?_
      refine lv_iload hx hb dX2_salsaCore_159 (lv_at hl 0 rfl) ?_
      refine lv_iload_n hx hb dX2_salsaCore_161 rfl (lv_at hl 3 rfl) ?_
      refine lv_iadd hx hb dX2_salsaCore_162 ?_
      refine lv_bipush (v := nI 9) hx hb dX2_salsaCore_163 (by decide) ?_
      refine z_readS (As := [.int (y1 + (t 0)), .int (nI 9)]) (rest := [.int (t 8)]) ⟨hx, hb, hml, hown, hts⟩ (m_X6_rotateLeft l dC dI cB cI s.heap.size (y1 + (t 0)) (nI 9)) (va_cwS 2 hts (lw_S q209 q210 q18 q211) rfl rfl rfl hd_X6_rotateLeft ⟨Nat.le_of_ble_eq_true rfl, Nat.le_of_ble_eq_true rfl⟩) ⟨zNo_good, trivial⟩ rfl hl.1 rfl (Nat.le_of_ble_eq_true rfl) dX2_salsaCore_165 ⟨Nat.le_of_ble_eq_true rfl, Nat.le_of_ble_eq_true rfl⟩ hS hK hP hD hA [] rfl (by decide) ?_
      refine lv_ixor hx hb dX2_salsaCore_168 ?_
      refine lv_topi (fun y2 ey2 => ?_)
      refine lv_istore (lv' := [(11, .int y2), (7, .int y1), (1, .ref e), (2, .ref x), (3, .int (t 0)), (4, .int (t 1)), (5, .int (t 2)), (6, .int (t 3)), (8, .int (t 5)), (9, .int (t 6)), (10, .int (t 7)), (12, .int (t 9)), (13, .int (t 10)), (14, .int (t 11)), (15, .int (t 12)), (16, .int (t 13)), (17, .int (t 14)), (18, .int (t 15)), (19, .int (nI (2 * (r + 1))))]) hx hb dX2_salsaCore_169 hl (by decide) rfl (fun ls hl => ?_)
      refine lv_iload hx hb dX2_salsaCore_171 (lv_at hl 14 rfl) ?_
      refine lv_iload hx hb dX2_salsaCore_173 (lv_at hl 0 rfl) ?_
      refine lv_iload hx hb dX2_salsaCore_175 (lv_at hl 1 rfl) ?_
      refine lv_iadd hx hb dX2_salsaCore_177 ?_
      refine lv_bipush (v := nI 13) hx hb dX2_salsaCore_178 (by decide) ?_
      refine z_readS (As := [.int (y2 + y1), .int (nI 13)]) (rest := [.int (t 12)]) ⟨hx, hb, hml, hown, hts⟩ (m_X6_rotateLeft l dC dI cB cI s.heap.size (y2 + y1) (nI 13)) (va_cwS 2 hts (lw_S q209 q210 q18 q211) rfl rfl rfl hd_X6_rotateLeft ⟨Nat.le_of_ble_eq_true rfl, Nat.le_of_ble_eq_true rfl⟩) ⟨zNo_good, trivial⟩ rfl hl.1 rfl (Nat.le_of_ble_eq_true rfl) dX2_salsaCore_180 ⟨Nat.le_of_ble_eq_true rfl, Nat.le_of_ble_eq_true rfl⟩ hS hK hP hD hA [] rfl (by decide) ?_
      refine lv_ixor hx hb dX2_salsaCore_183 ?_
      refine lv_topi (fun y3 ey3 => ?_)
      refine lv_istore (lv' := [(15, .int y3), (11, .int y2), (7, .int y1), (1, .ref e), (2, .ref x), (3, .int (t 0)), (4, .int (t 1)), (5, .int (t 2)), (6, .int (t 3)), (8, .int (t 5)), (9, .int (t 6)), (10, .int (t 7)), (12, .int (t 9)), (13, .int (t 10)), (14, .int (t 11)), (16, .int (t 13)), (17, .int (t 14)), (18, .int (t 15)), (19, .int (nI (2 * (r + 1))))]) hx hb dX2_salsaCore_184 hl (by decide) rfl (fun ls hl => ?_)
      refine lv_iload_n hx hb dX2_salsaCore_186 rfl (lv_at hl 5 rfl) ?_
      refine lv_iload hx hb dX2_salsaCore_187 (lv_at hl 0 rfl) ?_
      refine lv_iload hx hb dX2_salsaCore_189 (lv_at hl 1 rfl) ?_
      refine lv_iadd hx hb dX2_salsaCore_191 ?_
      refine lv_bipush (v := nI 18) hx hb dX2_salsaCore_192 (by decide) ?_
      refine z_readS (As := [.int (y3 + y2), .int (nI 18)]) (rest := [.int (t 0)]) ⟨hx, hb, hml, hown, hts⟩ (m_X6_rotateLeft l dC dI cB cI s.heap.size (y3 + y2) (nI 18)) (va_cwS 2 hts (lw_S q209 q210 q18 q211) rfl rfl rfl hd_X6_rotateLeft ⟨Nat.le_of_ble_eq_true rfl, Nat.le_of_ble_eq_true rfl⟩) ⟨zNo_good, trivial⟩ rfl hl.1 rfl (Nat.le_of_ble_eq_true rfl) dX2_salsaCore_194 ⟨Nat.le_of_ble_eq_true rfl, Nat.le_of_ble_eq_true rfl⟩ hS hK hP hD hA [] rfl (by decide) ?_
      refine lv_ixor hx hb dX2_salsaCore_197 ?_
      refine lv_topi (fun y4 ey4 => ?_)
      refine lv_istore_n (lv' := [(3, .int y4), (15, .int y3), (11, .int y2), (7, .int y1), (1, .ref e), (2, .ref x), (4, .int (t 1)), (5, .int (t 2)), (6, .int (t 3)), (8, .int (t 5)), (9, .int (t 6)), (10, .int (t 7)), (12, .int (t 9)), (13, .int (t 10)), (14, .int (t 11)), (16, .int (t 13)), (17, .int (t 14)), (18, .int (t 15)), (19, .int (nI (2 * (r + 1))))]) hx hb dX2_salsaCore_198 rfl hl (by decide) rfl (fun ls hl => ?_)
      refine lv_iload hx hb dX2_salsaCore_199 (lv_at hl 12 rfl) ?_
      refine lv_iload hx hb dX2_salsaCore_201 (lv_at hl 9 rfl) ?_
      refine lv_iload hx hb dX2_salsaCore_203 (lv_at hl 6 rfl) ?_
      refine lv_iadd hx hb dX2_salsaCore_205 ?_
      refine lv_bipush (v := nI 7) hx hb dX2_salsaCore_206 (by decide) ?_
      refine z_readS (As := [.int ((t 5) + (t 1)), .int (nI 7)]) (rest := [.int (t 9)]) ⟨hx, hb, hml, hown, hts⟩ (m_X6_rotateLeft l dC dI cB cI s.heap.size ((t 5) + (t 1)) (nI 7)) (va_cwS 2 hts (lw_S q209 q210 q18 q211) rfl rfl rfl hd_X6_rotateLeft ⟨Nat.le_of_ble_eq_true rfl, Nat.le_of_ble_eq_true rfl⟩) ⟨zNo_good, trivial⟩ rfl hl.1 rfl (Nat.le_of_ble_eq_true rfl) dX2_salsaCore_208 ⟨Nat.le_of_ble_eq_true rfl, Nat.le_of_ble_eq_true rfl⟩ hS hK hP hD hA [] rfl (by decide) ?_
      refine lv_ixor hx hb dX2_salsaCore_211 ?_
      refine lv_topi (fun y5 ey5 => ?_)
      refine lv_istore (lv' := [(12, .int y5), (3, .int y4), (15, .int y3), (11, .int y2), (7, .int y1), (1, .ref e), (2, .ref x), (4, .int (t 1)), (5, .int (t 2)), (6, .int (t 3)), (8, .int (t 5)), (9, .int (t 6)), (10, .int (t 7)), (13, .int (t 10)), (14, .int (t 11)), (16, .int (t 13)), (17, .int (t 14)), (18, .int (t 15)), (19, .int (nI (2 * (r + 1))))]) hx hb dX2_salsaCore_212 hl (by decide) rfl (fun ls hl => ?_)
      refine lv_iload hx hb dX2_salsaCore_214 (lv_at hl 15 rfl) ?_
      refine lv_iload hx hb dX2_salsaCore_216 (lv_at hl 0 rfl) ?_
      refine lv_iload hx hb dX2_salsaCore_218 (lv_at hl 10 rfl) ?_
      refine lv_iadd hx hb dX2_salsaCore_220 ?_
      refine lv_bipush (v := nI 9) hx hb dX2_salsaCore_221 (by decide) ?_
      refine z_readS (As := [.int (y5 + (t 5)), .int (nI 9)]) (rest := [.int (t 13)]) ⟨hx, hb, hml, hown, hts⟩ (m_X6_rotateLeft l dC dI cB cI s.heap.size (y5 + (t 5)) (nI 9)) (va_cwS 2 hts (lw_S q209 q210 q18 q211) rfl rfl rfl hd_X6_rotateLeft ⟨Nat.le_of_ble_eq_true rfl, Nat.le_of_ble_eq_true rfl⟩) ⟨zNo_good, trivial⟩ rfl hl.1 rfl (Nat.le_of_ble_eq_true rfl) dX2_salsaCore_223 ⟨Nat.le_of_ble_eq_true rfl, Nat.le_of_ble_eq_true rfl⟩ hS hK hP hD hA [] rfl (by decide) ?_
      refine lv_ixor hx hb dX2_salsaCore_226 ?_
      refine lv_topi (fun y6 ey6 => ?_)
      refine lv_istore (lv' := [(16, .int y6), (12, .int y5), (3, .int y4), (15, .int y3), (11, .int y2), (7, .int y1), (1, .ref e), (2, .ref x), (4, .int (t 1)), (5, .int (t 2)), (6, .int (t 3)), (8, .int (t 5)), (9, .int (t 6)), (10, .int (t 7)), (13, .int (t 10)), (14, .int (t 11)), (17, .int (t 14)), (18, .int (t 15)), (19, .int (nI (2 * (r + 1))))]) hx hb dX2_salsaCore_227 hl (by decide) rfl (fun ls hl => ?_)
      refine lv_iload hx hb dX2_salsaCore_229 (lv_at hl 8 rfl) ?_
      refine lv_iload hx hb dX2_salsaCore_231 (lv_at hl 0 rfl) ?_
      refine lv_iload hx hb dX2_salsaCore_233 (lv_at hl 1 rfl) ?_
      refine lv_iadd hx hb dX2_salsaCore_235 ?_
      refine lv_bipush (v := nI 13) hx hb dX2_salsaCore_236 (by decide) ?_
      refine z_readS (As := [.int (y6 + y5), .int (nI 13)]) (rest := [.int (t 1)]) ⟨hx, hb, hml, hown, hts⟩ (m_X6_rotateLeft l dC dI cB cI s.heap.size (y6 + y5) (nI 13)) (va_cwS 2 hts (lw_S q209 q210 q18 q211) rfl rfl rfl hd_X6_rotateLeft ⟨Nat.le_of_ble_eq_true rfl, Nat.le_of_ble_eq_true rfl⟩) ⟨zNo_good, trivial⟩ rfl hl.1 rfl (Nat.le_of_ble_eq_true rfl) dX2_salsaCore_238 ⟨Nat.le_of_ble_eq_true rfl, Nat.le_of_ble_eq_true rfl⟩ hS hK hP hD hA [] rfl (by decide) ?_
      refine lv_ixor hx hb dX2_salsaCore_241 ?_
      refine lv_topi (fun y7 ey7 => ?_)
      refine lv_istore (lv' := [(4, .int y7), (16, .int y6), (12, .int y5), (3, .int y4), (15, .int y3), (11, .int y2), (7, .int y1), (1, .ref e), (2, .ref x), (5, .int (t 2)), (6, .int (t 3)), (8, .int (t 5)), (9, .int (t 6)), (10, .int (t 7)), (13, .int (t 10)), (14, .int (t 11)), (17, .int (t 14)), (18, .int (t 15)), (19, .int (nI (2 * (r + 1))))]) hx hb dX2_salsaCore_242 hl (by decide) rfl (fun ls hl => ?_)
      refine lv_iload hx hb dX2_salsaCore_244 (lv_at hl 11 rfl) ?_
      refine lv_iload hx hb dX2_salsaCore_246 (lv_at hl 0 rfl) ?_
      refine lv_iload hx hb dX2_salsaCore_248 (lv_at hl 1 rfl) ?_
      refine lv_iadd hx hb dX2_salsaCore_250 ?_
      refine lv_bipush (v := nI 18) hx hb dX2_salsaCore_251 (by decide) ?_
      refine z_readS (As := [.int (y7 + y6), .int (nI 18)]) (rest := [.int (t 5)]) ⟨hx, hb, hml, hown, hts⟩ (m_X6_rotateLeft l dC dI cB cI s.heap.size (y7 + y6) (nI 18)) (va_cwS 2 hts (lw_S q209 q210 q18 q211) rfl rfl rfl hd_X6_rotateLeft ⟨Nat.le_of_ble_eq_true rfl, Nat.le_of_ble_eq_true rfl⟩) ⟨zNo_good, trivial⟩ rfl hl.1 rfl (Nat.le_of_ble_eq_true rfl) dX2_salsaCore_253 ⟨Nat.le_of_ble_eq_true rfl, Nat.le_of_ble_eq_true rfl⟩ hS hK hP hD hA [] rfl (by decide) ?_
      refine lv_ixor hx hb dX2_salsaCore_256 ?_
      refine lv_topi (fun y8 ey8 => ?_)
      refine lv_istore (lv' := [(8, .int y8), (4, .int y7), (16, .int y6), (12, .int y5), (3, .int y4), (15, .int y3), (11, .int y2), (7, .int y1), (1, .ref e), (2, .ref x), (5, .int (t 2)), (6, .int (t 3)), (9, .int (t 6)), (10, .int (t 7)), (13, .int (t 10)), (14, .int (t 11)), (17, .int (t 14)), (18, .int (t 15)), (19, .int (nI (2 * (r + 1))))]) hx hb dX2_salsaCore_257 hl (by decide) rfl (fun ls hl => ?_)
      refine lv_iload hx hb dX2_salsaCore_259 (lv_at hl 16 rfl) ?_
      refine lv_iload hx hb dX2_salsaCore_261 (lv_at hl 14 rfl) ?_
      refine lv_iload hx hb dX2_salsaCore_263 (lv_at hl 12 rfl) ?_
      refine lv_iadd hx hb dX2_salsaCore_265 ?_
      refine lv_bipush (v := nI 7) hx hb dX2_salsaCore_266 (by decide) ?_
      refine z_readS (As := [.int ((t 10) + (t 6)), .int (nI 7)]) (rest := [.int (t 14)]) ⟨hx, hb, hml, hown, hts⟩ (m_X6_rotateLeft l dC dI cB cI s.heap.size ((t 10) + (t 6)) (nI 7)) (va_cwS 2 hts (lw_S q209 q210 q18 q211) rfl rfl rfl hd_X6_rotateLeft ⟨Nat.le_of_ble_eq_true rfl, Nat.le_of_ble_eq_true rfl⟩) ⟨zNo_good, trivial⟩ rfl hl.1 rfl (Nat.le_of_ble_eq_true rfl) dX2_salsaCore_268 ⟨Nat.le_of_ble_eq_true rfl, Nat.le_of_ble_eq_true rfl⟩ hS hK hP hD hA [] rfl (by decide) ?_
      refine lv_ixor hx hb dX2_salsaCore_271 ?_
      refine lv_topi (fun y9 ey9 => ?_)
      refine lv_istore (lv' := [(17, .int y9), (8, .int y8), (4, .int y7), (16, .int y6), (12, .int y5), (3, .int y4), (15, .int y3), (11, .int y2), (7, .int y1), (1, .ref e), (2, .ref x), (5, .int (t 2)), (6, .int (t 3)), (9, .int (t 6)), (10, .int (t 7)), (13, .int (t 10)), (14, .int (t 11)), (18, .int (t 15)), (19, .int (nI (2 * (r + 1))))]) hx hb dX2_salsaCore_272 hl (by decide) rfl (fun ls hl => ?_)
      refine lv_iload hx hb dX2_salsaCore_274 (lv_at hl 11 rfl) ?_
      refine lv_iload hx hb dX2_salsaCore_276 (lv_at hl 0 rfl) ?_
      refine lv_iload hx hb dX2_salsaCore_278 (lv_at hl 15 rfl) ?_
      refine lv_iadd hx hb dX2_salsaCore_280 ?_
      refine lv_bipush (v := nI 9) hx hb dX2_salsaCore_281 (by decide) ?_
      refine z_readS (As := [.int (y9 + (t 10)), .int (nI 9)]) (rest := [.int (t 2)]) ⟨hx, hb, hml, hown, hts⟩ (m_X6_rotateLeft l dC dI cB cI s.heap.size (y9 + (t 10)) (nI 9)) (va_cwS 2 hts (lw_S q209 q210 q18 q211) rfl rfl rfl hd_X6_rotateLeft ⟨Nat.le_of_ble_eq_true rfl, Nat.le_of_ble_eq_true rfl⟩) ⟨zNo_good, trivial⟩ rfl hl.1 rfl (Nat.le_of_ble_eq_true rfl) dX2_salsaCore_283 ⟨Nat.le_of_ble_eq_true rfl, Nat.le_of_ble_eq_true rfl⟩ hS hK hP hD hA [] rfl (by decide) ?_
      refine lv_ixor hx hb dX2_salsaCore_286 ?_
      refine lv_topi (fun y10 ey10 => ?_)
      refine lv_istore (lv' := [(5, .int y10), (17, .int y9), (8, .int y8), (4, .int y7), (16, .int y6), (12, .int y5), (3, .int y4), (15, .int y3), (11, .int y2), (7, .int y1), (1, .ref e), (2, .ref x), (6, .int (t 3)), (9, .int (t 6)), (10, .int (t 7)), (13, .int (t 10)), (14, .int (t 11)), (18, .int (t 15)), (19, .int (nI (2 * (r + 1))))]) hx hb dX2_salsaCore_287 hl (by decide) rfl (fun ls hl => ?_)
      refine lv_iload hx hb dX2_salsaCore_289 (lv_at hl 13 rfl) ?_
      refine lv_iload hx hb dX2_salsaCore_291 (lv_at hl 0 rfl) ?_
      refine lv_iload hx hb dX2_salsaCore_293 (lv_at hl 1 rfl) ?_
      refine lv_iadd hx hb dX2_salsaCore_295 ?_
      refine lv_bipush (v := nI 13) hx hb dX2_salsaCore_296 (by decide) ?_
      refine z_readS (As := [.int (y10 + y9), .int (nI 13)]) (rest := [.int (t 6)]) ⟨hx, hb, hml, hown, hts⟩ (m_X6_rotateLeft l dC dI cB cI s.heap.size (y10 + y9) (nI 13)) (va_cwS 2 hts (lw_S q209 q210 q18 q211) rfl rfl rfl hd_X6_rotateLeft ⟨Nat.le_of_ble_eq_true rfl, Nat.le_of_ble_eq_true rfl⟩) ⟨zNo_good, trivial⟩ rfl hl.1 rfl (Nat.le_of_ble_eq_true rfl) dX2_salsaCore_298 ⟨Nat.le_of_ble_eq_true rfl, Nat.le_of_ble_eq_true rfl⟩ hS hK hP hD hA [] rfl (by decide) ?_
      refine lv_ixor hx hb dX2_salsaCore_301 ?_
      refine lv_topi (fun y11 ey11 => ?_)
      refine lv_istore (lv' := [(9, .int y11), (5, .int y10), (17, .int y9), (8, .int y8), (4, .int y7), (16, .int y6), (12, .int y5), (3, .int y4), (15, .int y3), (11, .int y2), (7, .int y1), (1, .ref e), (2, .ref x), (6, .int (t 3)), (10, .int (t 7)), (13, .int (t 10)), (14, .int (t 11)), (18, .int (t 15)), (19, .int (nI (2 * (r + 1))))]) hx hb dX2_salsaCore_302 hl (by decide) rfl (fun ls hl => ?_)
      refine lv_iload hx hb dX2_salsaCore_304 (lv_at hl 15 rfl) ?_
      refine lv_iload hx hb dX2_salsaCore_306 (lv_at hl 0 rfl) ?_
      refine lv_iload hx hb dX2_salsaCore_308 (lv_at hl 1 rfl) ?_
      refine lv_iadd hx hb dX2_salsaCore_310 ?_
      refine lv_bipush (v := nI 18) hx hb dX2_salsaCore_311 (by decide) ?_
      refine z_readS (As := [.int (y11 + y10), .int (nI 18)]) (rest := [.int (t 10)]) ⟨hx, hb, hml, hown, hts⟩ (m_X6_rotateLeft l dC dI cB cI s.heap.size (y11 + y10) (nI 18)) (va_cwS 2 hts (lw_S q209 q210 q18 q211) rfl rfl rfl hd_X6_rotateLeft ⟨Nat.le_of_ble_eq_true rfl, Nat.le_of_ble_eq_true rfl⟩) ⟨zNo_good, trivial⟩ rfl hl.1 rfl (Nat.le_of_ble_eq_true rfl) dX2_salsaCore_313 ⟨Nat.le_of_ble_eq_true rfl, Nat.le_of_ble_eq_true rfl⟩ hS hK hP hD hA [] rfl (by decide) ?_
      refine lv_ixor hx hb dX2_salsaCore_316 ?_
      refine lv_topi (fun y12 ey12 => ?_)
      refine lv_istore (lv' := [(13, .int y12), (9, .int y11), (5, .int y10), (17, .int y9), (8, .int y8), (4, .int y7), (16, .int y6), (12, .int y5), (3, .int y4), (15, .int y3), (11, .int y2), (7, .int y1), (1, .ref e), (2, .ref x), (6, .int (t 3)), (10, .int (t 7)), (14, .int (t 11)), (18, .int (t 15)), (19, .int (nI (2 * (r + 1))))]) hx hb dX2_salsaCore_317 hl (by decide) rfl (fun ls hl => ?_)
      refine lv_iload hx hb dX2_salsaCore_319 (lv_at hl 14 rfl) ?_
      refine lv_iload hx hb dX2_salsaCore_321 (lv_at hl 17 rfl) ?_
      refine lv_iload hx hb dX2_salsaCore_323 (lv_at hl 16 rfl) ?_
      refine lv_iadd hx hb dX2_salsaCore_325 ?_
      refine lv_bipush (v := nI 7) hx hb dX2_salsaCore_326 (by decide) ?_
      refine z_readS (As := [.int ((t 15) + (t 11)), .int (nI 7)]) (rest := [.int (t 3)]) ⟨hx, hb, hml, hown, hts⟩ (m_X6_rotateLeft l dC dI cB cI s.heap.size ((t 15) + (t 11)) (nI 7)) (va_cwS 2 hts (lw_S q209 q210 q18 q211) rfl rfl rfl hd_X6_rotateLeft ⟨Nat.le_of_ble_eq_true rfl, Nat.le_of_ble_eq_true rfl⟩) ⟨zNo_good, trivial⟩ rfl hl.1 rfl (Nat.le_of_ble_eq_true rfl) dX2_salsaCore_328 ⟨Nat.le_of_ble_eq_true rfl, Nat.le_of_ble_eq_true rfl⟩ hS hK hP hD hA [] rfl (by decide) ?_
      refine lv_ixor hx hb dX2_salsaCore_331 ?_
      refine lv_topi (fun y13 ey13 => ?_)
      refine lv_istore (lv' := [(6, .int y13), (13, .int y12), (9, .int y11), (5, .int y10), (17, .int y9), (8, .int y8), (4, .int y7), (16, .int y6), (12, .int y5), (3, .int y4), (15, .int y3), (11, .int y2), (7, .int y1), (1, .ref e), (2, .ref x), (10, .int (t 7)), (14, .int (t 11)), (18, .int (t 15)), (19, .int (nI (2 * (r + 1))))]) hx hb dX2_salsaCore_332 hl (by decide) rfl (fun ls hl => ?_)
      refine lv_iload hx hb dX2_salsaCore_334 (lv_at hl 15 rfl) ?_
      refine lv_iload hx hb dX2_salsaCore_336 (lv_at hl 0 rfl) ?_
      refine lv_iload hx hb dX2_salsaCore_338 (lv_at hl 17 rfl) ?_
      refine lv_iadd hx hb dX2_salsaCore_340 ?_
      refine lv_bipush (v := nI 9) hx hb dX2_salsaCore_341 (by decide) ?_
      refine z_readS (As := [.int (y13 + (t 15)), .int (nI 9)]) (rest := [.int (t 7)]) ⟨hx, hb, hml, hown, hts⟩ (m_X6_rotateLeft l dC dI cB cI s.heap.size (y13 + (t 15)) (nI 9)) (va_cwS 2 hts (lw_S q209 q210 q18 q211) rfl rfl rfl hd_X6_rotateLeft ⟨Nat.le_of_ble_eq_true rfl, Nat.le_of_ble_eq_true rfl⟩) ⟨zNo_good, trivial⟩ rfl hl.1 rfl (Nat.le_of_ble_eq_true rfl) dX2_salsaCore_343 ⟨Nat.le_of_ble_eq_true rfl, Nat.le_of_ble_eq_true rfl⟩ hS hK hP hD hA [] rfl (by decide) ?_
      refine lv_ixor hx hb dX2_salsaCore_346 ?_
      refine lv_topi (fun y14 ey14 => ?_)
      refine lv_istore (lv' := [(10, .int y14), (6, .int y13), (13, .int y12), (9, .int y11), (5, .int y10), (17, .int y9), (8, .int y8), (4, .int y7), (16, .int y6), (12, .int y5), (3, .int y4), (15, .int y3), (11, .int y2), (7, .int y1), (1, .ref e), (2, .ref x), (14, .int (t 11)), (18, .int (t 15)), (19, .int (nI (2 * (r + 1))))]) hx hb dX2_salsaCore_347 hl (by decide) rfl (fun ls hl => ?_)
      refine lv_iload hx hb dX2_salsaCore_349 (lv_at hl 16 rfl) ?_
      refine lv_iload hx hb dX2_salsaCore_351 (lv_at hl 0 rfl) ?_
      refine lv_iload hx hb dX2_salsaCore_353 (lv_at hl 1 rfl) ?_
      refine lv_iadd hx hb dX2_salsaCore_355 ?_
      refine lv_bipush (v := nI 13) hx hb dX2_salsaCore_356 (by decide) ?_
      refine z_readS (As := [.int (y14 + y13), .int (nI 13)]) (rest := [.int (t 11)]) ⟨hx, hb, hml, hown, hts⟩ (m_X6_rotateLeft l dC dI cB cI s.heap.size (y14 + y13) (nI 13)) (va_cwS 2 hts (lw_S q209 q210 q18 q211) rfl rfl rfl hd_X6_rotateLeft ⟨Nat.le_of_ble_eq_true rfl, Nat.le_of_ble_eq_true rfl⟩) ⟨zNo_good, trivial⟩ rfl hl.1 rfl (Nat.le_of_ble_eq_true rfl) dX2_salsaCore_358 ⟨Nat.le_of_ble_eq_true rfl, Nat.le_of_ble_eq_true rfl⟩ hS hK hP hD hA [] rfl (by decide) ?_
      refine lv_ixor hx hb dX2_salsaCore_361 ?_
      refine lv_topi (fun y15 ey15 => ?_)
      refine lv_istore (lv' := [(14, .int y15), (10, .int y14), (6, .int y13), (13, .int y12), (9, .int y11), (5, .int y10), (17, .int y9), (8, .int y8), (4, .int y7), (16, .int y6), (12, .int y5), (3, .int y4), (15, .int y3), (11, .int y2), (7, .int y1), (1, .ref e), (2, .ref x), (18, .int (t 15)), (19, .int (nI (2 * (r + 1))))]) hx hb dX2_salsaCore_362 hl (by decide) rfl (fun ls hl => ?_)
      refine lv_iload hx hb dX2_salsaCore_364 (lv_at hl 17 rfl) ?_
      refine lv_iload hx hb dX2_salsaCore_366 (lv_at hl 0 rfl) ?_
      refine lv_iload hx hb dX2_salsaCore_368 (lv_at hl 1 rfl) ?_
      refine lv_iadd hx hb dX2_salsaCore_370 ?_
      refine lv_bipush (v := nI 18) hx hb dX2_salsaCore_371 (by decide) ?_
      refine z_readS (As := [.int (y15 + y14), .int (nI 18)]) (rest := [.int (t 15)]) ⟨hx, hb, hml, hown, hts⟩ (m_X6_rotateLeft l dC dI cB cI s.heap.size (y15 + y14) (nI 18)) (va_cwS 2 hts (lw_S q209 q210 q18 q211) rfl rfl rfl hd_X6_rotateLeft ⟨Nat.le_of_ble_eq_true rfl, Nat.le_of_ble_eq_true rfl⟩) ⟨zNo_good, trivial⟩ rfl hl.1 rfl (Nat.le_of_ble_eq_true rfl) dX2_salsaCore_373 ⟨Nat.le_of_ble_eq_true rfl, Nat.le_of_ble_eq_true rfl⟩ hS hK hP hD hA [] rfl (by decide) ?_
      refine lv_ixor hx hb dX2_salsaCore_376 ?_
      refine lv_topi (fun y16 ey16 => ?_)
      refine lv_istore (lv' := [(18, .int y16), (14, .int y15), (10, .int y14), (6, .int y13), (13, .int y12), (9, .int y11), (5, .int y10), (17, .int y9), (8, .int y8), (4, .int y7), (16, .int y6), (12, .int y5), (3, .int y4), (15, .int y3), (11, .int y2), (7, .int y1), (1, .ref e), (2, .ref x), (19, .int (nI (2 * (r + 1))))]) hx hb dX2_salsaCore_377 hl (by decide) rfl (fun ls hl => ?_)
      refine lv_iload hx hb dX2_salsaCore_379 (lv_at hl 9 rfl) ?_
      refine lv_iload_n hx hb dX2_salsaCore_381 rfl (lv_at hl 12 rfl) ?_
      refine lv_iload hx hb dX2_salsaCore_382 (lv_at hl 3 rfl) ?_
      refine lv_iadd hx hb dX2_salsaCore_384 ?_
      refine lv_bipush (v := nI 7) hx hb dX2_salsaCore_385 (by decide) ?_
      refine z_readS (As := [.int (y4 + y13), .int (nI 7)]) (rest := [.int y7]) ⟨hx, hb, hml, hown, hts⟩ (m_X6_rotateLeft l dC dI cB cI s.heap.size (y4 + y13) (nI 7)) (va_cwS 2 hts (lw_S q209 q210 q18 q211) rfl rfl rfl hd_X6_rotateLeft ⟨Nat.le_of_ble_eq_true rfl, Nat.le_of_ble_eq_true rfl⟩) ⟨zNo_good, trivial⟩ rfl hl.1 rfl (Nat.le_of_ble_eq_true rfl) dX2_salsaCore_387 ⟨Nat.le_of_ble_eq_true rfl, Nat.le_of_ble_eq_true rfl⟩ hS hK hP hD hA [] rfl (by decide) ?_
      refine lv_ixor hx hb dX2_salsaCore_390 ?_
      refine lv_topi (fun y17 ey17 => ?_)
      refine lv_istore (lv' := [(4, .int y17), (18, .int y16), (14, .int y15), (10, .int y14), (6, .int y13), (13, .int y12), (9, .int y11), (5, .int y10), (17, .int y9), (8, .int y8), (16, .int y6), (12, .int y5), (3, .int y4), (15, .int y3), (11, .int y2), (7, .int y1), (1, .ref e), (2, .ref x), (19, .int (nI (2 * (r + 1))))]) hx hb dX2_salsaCore_391 hl (by decide) rfl (fun ls hl => ?_)
      refine lv_iload hx hb dX2_salsaCore_393 (lv_at hl 7 rfl) ?_
      refine lv_iload hx hb dX2_salsaCore_395 (lv_at hl 0 rfl) ?_
      refine lv_iload_n hx hb dX2_salsaCore_397 rfl (lv_at hl 12 rfl) ?_
      refine lv_iadd hx hb dX2_salsaCore_398 ?_
      refine lv_bipush (v := nI 9) hx hb dX2_salsaCore_399 (by decide) ?_
      refine z_readS (As := [.int (y17 + y4), .int (nI 9)]) (rest := [.int y10]) ⟨hx, hb, hml, hown, hts⟩ (m_X6_rotateLeft l dC dI cB cI s.heap.size (y17 + y4) (nI 9)) (va_cwS 2 hts (lw_S q209 q210 q18 q211) rfl rfl rfl hd_X6_rotateLeft ⟨Nat.le_of_ble_eq_true rfl, Nat.le_of_ble_eq_true rfl⟩) ⟨zNo_good, trivial⟩ rfl hl.1 rfl (Nat.le_of_ble_eq_true rfl) dX2_salsaCore_401 ⟨Nat.le_of_ble_eq_true rfl, Nat.le_of_ble_eq_true rfl⟩ hS hK hP hD hA [] rfl (by decide) ?_
      refine lv_ixor hx hb dX2_salsaCore_404 ?_
      refine lv_topi (fun y18 ey18 => ?_)
      refine lv_istore (lv' := [(5, .int y18), (4, .int y17), (18, .int y16), (14, .int y15), (10, .int y14), (6, .int y13), (13, .int y12), (9, .int y11), (17, .int y9), (8, .int y8), (16, .int y6), (12, .int y5), (3, .int y4), (15, .int y3), (11, .int y2), (7, .int y1), (1, .ref e), (2, .ref x), (19, .int (nI (2 * (r + 1))))]) hx hb dX2_salsaCore_405 hl (by decide) rfl (fun ls hl => ?_)
      refine lv_iload hx hb dX2_salsaCore_407 (lv_at hl 5 rfl) ?_
      refine lv_iload hx hb dX2_salsaCore_409 (lv_at hl 0 rfl) ?_
      refine lv_iload hx hb dX2_salsaCore_411 (lv_at hl 1 rfl) ?_
      refine lv_iadd hx hb dX2_salsaCore_413 ?_
      refine lv_bipush (v := nI 13) hx hb dX2_salsaCore_414 (by decide) ?_
      refine z_readS (As := [.int (y18 + y17), .int (nI 13)]) (rest := [.int y13]) ⟨hx, hb, hml, hown, hts⟩ (m_X6_rotateLeft l dC dI cB cI s.heap.size (y18 + y17) (nI 13)) (va_cwS 2 hts (lw_S q209 q210 q18 q211) rfl rfl rfl hd_X6_rotateLeft ⟨Nat.le_of_ble_eq_true rfl, Nat.le_of_ble_eq_true rfl⟩) ⟨zNo_good, trivial⟩ rfl hl.1 rfl (Nat.le_of_ble_eq_true rfl) dX2_salsaCore_416 ⟨Nat.le_of_ble_eq_true rfl, Nat.le_of_ble_eq_true rfl⟩ hS hK hP hD hA [] rfl (by decide) ?_
      refine lv_ixor hx hb dX2_salsaCore_419 ?_
      refine lv_topi (fun y19 ey19 => ?_)
      refine lv_istore (lv' := [(6, .int y19), (5, .int y18), (4, .int y17), (18, .int y16), (14, .int y15), (10, .int y14), (13, .int y12), (9, .int y11), (17, .int y9), (8, .int y8), (16, .int y6), (12, .int y5), (3, .int y4), (15, .int y3), (11, .int y2), (7, .int y1), (1, .ref e), (2, .ref x), (19, .int (nI (2 * (r + 1))))]) hx hb dX2_salsaCore_420 hl (by decide) rfl (fun ls hl => ?_)
      refine lv_iload_n hx hb dX2_salsaCore_422 rfl (lv_at hl 12 rfl) ?_
      refine lv_iload hx hb dX2_salsaCore_423 (lv_at hl 0 rfl) ?_
      refine lv_iload hx hb dX2_salsaCore_425 (lv_at hl 1 rfl) ?_
      refine lv_iadd hx hb dX2_salsaCore_427 ?_
      refine lv_bipush (v := nI 18) hx hb dX2_salsaCore_428 (by decide) ?_
      refine z_readS (As := [.int (y19 + y18), .int (nI 18)]) (rest := [.int y4]) ⟨hx, hb, hml, hown, hts⟩ (m_X6_rotateLeft l dC dI cB cI s.heap.size (y19 + y18) (nI 18)) (va_cwS 2 hts (lw_S q209 q210 q18 q211) rfl rfl rfl hd_X6_rotateLeft ⟨Nat.le_of_ble_eq_true rfl, Nat.le_of_ble_eq_true rfl⟩) ⟨zNo_good, trivial⟩ rfl hl.1 rfl (Nat.le_of_ble_eq_true rfl) dX2_salsaCore_430 ⟨Nat.le_of_ble_eq_true rfl, Nat.le_of_ble_eq_true rfl⟩ hS hK hP hD hA [] rfl (by decide) ?_
      refine lv_ixor hx hb dX2_salsaCore_433 ?_
      refine lv_topi (fun y20 ey20 => ?_)
      refine lv_istore_n (lv' := [(3, .int y20), (6, .int y19), (5, .int y18), (4, .int y17), (18, .int y16), (14, .int y15), (10, .int y14), (13, .int y12), (9, .int y11), (17, .int y9), (8, .int y8), (16, .int y6), (12, .int y5), (15, .int y3), (11, .int y2), (7, .int y1), (1, .ref e), (2, .ref x), (19, .int (nI (2 * (r + 1))))]) hx hb dX2_salsaCore_434 rfl hl (by decide) rfl (fun ls hl => ?_)
      refine lv_iload hx hb dX2_salsaCore_435 (lv_at hl 8 rfl) ?_
      refine lv_iload hx hb dX2_salsaCore_437 (lv_at hl 10 rfl) ?_
      refine lv_iload hx hb dX2_salsaCore_439 (lv_at hl 15 rfl) ?_
      refine lv_iadd hx hb dX2_salsaCore_441 ?_
      refine lv_bipush (v := nI 7) hx hb dX2_salsaCore_442 (by decide) ?_
      refine z_readS (As := [.int (y8 + y1), .int (nI 7)]) (rest := [.int y11]) ⟨hx, hb, hml, hown, hts⟩ (m_X6_rotateLeft l dC dI cB cI s.heap.size (y8 + y1) (nI 7)) (va_cwS 2 hts (lw_S q209 q210 q18 q211) rfl rfl rfl hd_X6_rotateLeft ⟨Nat.le_of_ble_eq_true rfl, Nat.le_of_ble_eq_true rfl⟩) ⟨zNo_good, trivial⟩ rfl hl.1 rfl (Nat.le_of_ble_eq_true rfl) dX2_salsaCore_444 ⟨Nat.le_of_ble_eq_true rfl, Nat.le_of_ble_eq_true rfl⟩ hS hK hP hD hA [] rfl (by decide) ?_
      refine lv_ixor hx hb dX2_salsaCore_447 ?_
      refine lv_topi (fun y21 ey21 => ?_)
      refine lv_istore (lv' := [(9, .int y21), (3, .int y20), (6, .int y19), (5, .int y18), (4, .int y17), (18, .int y16), (14, .int y15), (10, .int y14), (13, .int y12), (17, .int y9), (8, .int y8), (16, .int y6), (12, .int y5), (15, .int y3), (11, .int y2), (7, .int y1), (1, .ref e), (2, .ref x), (19, .int (nI (2 * (r + 1))))]) hx hb dX2_salsaCore_448 hl (by decide) rfl (fun ls hl => ?_)
      refine lv_iload hx hb dX2_salsaCore_450 (lv_at hl 7 rfl) ?_
      refine lv_iload hx hb dX2_salsaCore_452 (lv_at hl 0 rfl) ?_
      refine lv_iload hx hb dX2_salsaCore_454 (lv_at hl 10 rfl) ?_
      refine lv_iadd hx hb dX2_salsaCore_456 ?_
      refine lv_bipush (v := nI 9) hx hb dX2_salsaCore_457 (by decide) ?_
      refine z_readS (As := [.int (y21 + y8), .int (nI 9)]) (rest := [.int y14]) ⟨hx, hb, hml, hown, hts⟩ (m_X6_rotateLeft l dC dI cB cI s.heap.size (y21 + y8) (nI 9)) (va_cwS 2 hts (lw_S q209 q210 q18 q211) rfl rfl rfl hd_X6_rotateLeft ⟨Nat.le_of_ble_eq_true rfl, Nat.le_of_ble_eq_true rfl⟩) ⟨zNo_good, trivial⟩ rfl hl.1 rfl (Nat.le_of_ble_eq_true rfl) dX2_salsaCore_459 ⟨Nat.le_of_ble_eq_true rfl, Nat.le_of_ble_eq_true rfl⟩ hS hK hP hD hA [] rfl (by decide) ?_
      refine lv_ixor hx hb dX2_salsaCore_462 ?_
      refine lv_topi (fun y22 ey22 => ?_)
      refine lv_istore (lv' := [(10, .int y22), (9, .int y21), (3, .int y20), (6, .int y19), (5, .int y18), (4, .int y17), (18, .int y16), (14, .int y15), (13, .int y12), (17, .int y9), (8, .int y8), (16, .int y6), (12, .int y5), (15, .int y3), (11, .int y2), (7, .int y1), (1, .ref e), (2, .ref x), (19, .int (nI (2 * (r + 1))))]) hx hb dX2_salsaCore_463 hl (by decide) rfl (fun ls hl => ?_)
      refine lv_iload hx hb dX2_salsaCore_465 (lv_at hl 15 rfl) ?_
      refine lv_iload hx hb dX2_salsaCore_467 (lv_at hl 0 rfl) ?_
      refine lv_iload hx hb dX2_salsaCore_469 (lv_at hl 1 rfl) ?_
      refine lv_iadd hx hb dX2_salsaCore_471 ?_
      refine lv_bipush (v := nI 13) hx hb dX2_salsaCore_472 (by decide) ?_
      refine z_readS (As := [.int (y22 + y21), .int (nI 13)]) (rest := [.int y1]) ⟨hx, hb, hml, hown, hts⟩ (m_X6_rotateLeft l dC dI cB cI s.heap.size (y22 + y21) (nI 13)) (va_cwS 2 hts (lw_S q209 q210 q18 q211) rfl rfl rfl hd_X6_rotateLeft ⟨Nat.le_of_ble_eq_true rfl, Nat.le_of_ble_eq_true rfl⟩) ⟨zNo_good, trivial⟩ rfl hl.1 rfl (Nat.le_of_ble_eq_true rfl) dX2_salsaCore_474 ⟨Nat.le_of_ble_eq_true rfl, Nat.le_of_ble_eq_true rfl⟩ hS hK hP hD hA [] rfl (by decide) ?_
      refine lv_ixor hx hb dX2_salsaCore_477 ?_
      refine lv_topi (fun y23 ey23 => ?_)
      refine lv_istore (lv' := [(7, .int y23), (10, .int y22), (9, .int y21), (3, .int y20), (6, .int y19), (5, .int y18), (4, .int y17), (18, .int y16), (14, .int y15), (13, .int y12), (17, .int y9), (8, .int y8), (16, .int y6), (12, .int y5), (15, .int y3), (11, .int y2), (1, .ref e), (2, .ref x), (19, .int (nI (2 * (r + 1))))]) hx hb dX2_salsaCore_478 hl (by decide) rfl (fun ls hl => ?_)
      refine lv_iload hx hb dX2_salsaCore_480 (lv_at hl 11 rfl) ?_
      refine lv_iload hx hb dX2_salsaCore_482 (lv_at hl 0 rfl) ?_
      refine lv_iload hx hb dX2_salsaCore_484 (lv_at hl 1 rfl) ?_
      refine lv_iadd hx hb dX2_salsaCore_486 ?_
      refine lv_bipush (v := nI 18) hx hb dX2_salsaCore_487 (by decide) ?_
      refine z_readS (As := [.int (y23 + y22), .int (nI 18)]) (rest := [.int y8]) ⟨hx, hb, hml, hown, hts⟩ (m_X6_rotateLeft l dC dI cB cI s.heap.size (y23 + y22) (nI 18)) (va_cwS 2 hts (lw_S q209 q210 q18 q211) rfl rfl rfl hd_X6_rotateLeft ⟨Nat.le_of_ble_eq_true rfl, Nat.le_of_ble_eq_true rfl⟩) ⟨zNo_good, trivial⟩ rfl hl.1 rfl (Nat.le_of_ble_eq_true rfl) dX2_salsaCore_489 ⟨Nat.le_of_ble_eq_true rfl, Nat.le_of_ble_eq_true rfl⟩ hS hK hP hD hA [] rfl (by decide) ?_
      refine lv_ixor hx hb dX2_salsaCore_492 ?_
      refine lv_topi (fun y24 ey24 => ?_)
      refine lv_istore (lv' := [(8, .int y24), (7, .int y23), (10, .int y22), (9, .int y21), (3, .int y20), (6, .int y19), (5, .int y18), (4, .int y17), (18, .int y16), (14, .int y15), (13, .int y12), (17, .int y9), (16, .int y6), (12, .int y5), (15, .int y3), (11, .int y2), (1, .ref e), (2, .ref x), (19, .int (nI (2 * (r + 1))))]) hx hb dX2_salsaCore_493 hl (by decide) rfl (fun ls hl => ?_)
      refine lv_iload hx hb dX2_salsaCore_495 (lv_at hl 9 rfl) ?_
      refine lv_iload hx hb dX2_salsaCore_497 (lv_at hl 10 rfl) ?_
      refine lv_iload hx hb dX2_salsaCore_499 (lv_at hl 13 rfl) ?_
      refine lv_iadd hx hb dX2_salsaCore_501 ?_
      refine lv_bipush (v := nI 7) hx hb dX2_salsaCore_502 (by decide) ?_
      refine z_readS (As := [.int (y12 + y5), .int (nI 7)]) (rest := [.int y15]) ⟨hx, hb, hml, hown, hts⟩ (m_X6_rotateLeft l dC dI cB cI s.heap.size (y12 + y5) (nI 7)) (va_cwS 2 hts (lw_S q209 q210 q18 q211) rfl rfl rfl hd_X6_rotateLeft ⟨Nat.le_of_ble_eq_true rfl, Nat.le_of_ble_eq_true rfl⟩) ⟨zNo_good, trivial⟩ rfl hl.1 rfl (Nat.le_of_ble_eq_true rfl) dX2_salsaCore_504 ⟨Nat.le_of_ble_eq_true rfl, Nat.le_of_ble_eq_true rfl⟩ hS hK hP hD hA [] rfl (by decide) ?_
      refine lv_ixor hx hb dX2_salsaCore_507 ?_
      refine lv_topi (fun y25 ey25 => ?_)
      refine lv_istore (lv' := [(14, .int y25), (8, .int y24), (7, .int y23), (10, .int y22), (9, .int y21), (3, .int y20), (6, .int y19), (5, .int y18), (4, .int y17), (18, .int y16), (13, .int y12), (17, .int y9), (16, .int y6), (12, .int y5), (15, .int y3), (11, .int y2), (1, .ref e), (2, .ref x), (19, .int (nI (2 * (r + 1))))]) hx hb dX2_salsaCore_508 hl (by decide) rfl (fun ls hl => ?_)
      refine lv_iload hx hb dX2_salsaCore_510 (lv_at hl 15 rfl) ?_
      refine lv_iload hx hb dX2_salsaCore_512 (lv_at hl 0 rfl) ?_
      refine lv_iload hx hb dX2_salsaCore_514 (lv_at hl 10 rfl) ?_
      refine lv_iadd hx hb dX2_salsaCore_516 ?_
      refine lv_bipush (v := nI 9) hx hb dX2_salsaCore_517 (by decide) ?_
      refine z_readS (As := [.int (y25 + y12), .int (nI 9)]) (rest := [.int y2]) ⟨hx, hb, hml, hown, hts⟩ (m_X6_rotateLeft l dC dI cB cI s.heap.size (y25 + y12) (nI 9)) (va_cwS 2 hts (lw_S q209 q210 q18 q211) rfl rfl rfl hd_X6_rotateLeft ⟨Nat.le_of_ble_eq_true rfl, Nat.le_of_ble_eq_true rfl⟩) ⟨zNo_good, trivial⟩ rfl hl.1 rfl (Nat.le_of_ble_eq_true rfl) dX2_salsaCore_519 ⟨Nat.le_of_ble_eq_true rfl, Nat.le_of_ble_eq_true rfl⟩ hS hK hP hD hA [] rfl (by decide) ?_
      refine lv_ixor hx hb dX2_salsaCore_522 ?_
      refine lv_topi (fun y26 ey26 => ?_)
      refine lv_istore (lv' := [(11, .int y26), (14, .int y25), (8, .int y24), (7, .int y23), (10, .int y22), (9, .int y21), (3, .int y20), (6, .int y19), (5, .int y18), (4, .int y17), (18, .int y16), (13, .int y12), (17, .int y9), (16, .int y6), (12, .int y5), (15, .int y3), (1, .ref e), (2, .ref x), (19, .int (nI (2 * (r + 1))))]) hx hb dX2_salsaCore_523 hl (by decide) rfl (fun ls hl => ?_)
      refine lv_iload hx hb dX2_salsaCore_525 (lv_at hl 14 rfl) ?_
      refine lv_iload hx hb dX2_salsaCore_527 (lv_at hl 0 rfl) ?_
      refine lv_iload hx hb dX2_salsaCore_529 (lv_at hl 1 rfl) ?_
      refine lv_iadd hx hb dX2_salsaCore_531 ?_
      refine lv_bipush (v := nI 13) hx hb dX2_salsaCore_532 (by decide) ?_
      refine z_readS (As := [.int (y26 + y25), .int (nI 13)]) (rest := [.int y5]) ⟨hx, hb, hml, hown, hts⟩ (m_X6_rotateLeft l dC dI cB cI s.heap.size (y26 + y25) (nI 13)) (va_cwS 2 hts (lw_S q209 q210 q18 q211) rfl rfl rfl hd_X6_rotateLeft ⟨Nat.le_of_ble_eq_true rfl, Nat.le_of_ble_eq_true rfl⟩) ⟨zNo_good, trivial⟩ rfl hl.1 rfl (Nat.le_of_ble_eq_true rfl) dX2_salsaCore_534 ⟨Nat.le_of_ble_eq_true rfl, Nat.le_of_ble_eq_true rfl⟩ hS hK hP hD hA [] rfl (by decide) ?_
      refine lv_ixor hx hb dX2_salsaCore_537 ?_
      refine lv_topi (fun y27 ey27 => ?_)
      refine lv_istore (lv' := [(12, .int y27), (11, .int y26), (14, .int y25), (8, .int y24), (7, .int y23), (10, .int y22), (9, .int y21), (3, .int y20), (6, .int y19), (5, .int y18), (4, .int y17), (18, .int y16), (13, .int y12), (17, .int y9), (16, .int y6), (15, .int y3), (1, .ref e), (2, .ref x), (19, .int (nI (2 * (r + 1))))]) hx hb dX2_salsaCore_538 hl (by decide) rfl (fun ls hl => ?_)
      refine lv_iload hx hb dX2_salsaCore_540 (lv_at hl 12 rfl) ?_
      refine lv_iload hx hb dX2_salsaCore_542 (lv_at hl 0 rfl) ?_
      refine lv_iload hx hb dX2_salsaCore_544 (lv_at hl 1 rfl) ?_
      refine lv_iadd hx hb dX2_salsaCore_546 ?_
      refine lv_bipush (v := nI 18) hx hb dX2_salsaCore_547 (by decide) ?_
      refine z_readS (As := [.int (y27 + y26), .int (nI 18)]) (rest := [.int y12]) ⟨hx, hb, hml, hown, hts⟩ (m_X6_rotateLeft l dC dI cB cI s.heap.size (y27 + y26) (nI 18)) (va_cwS 2 hts (lw_S q209 q210 q18 q211) rfl rfl rfl hd_X6_rotateLeft ⟨Nat.le_of_ble_eq_true rfl, Nat.le_of_ble_eq_true rfl⟩) ⟨zNo_good, trivial⟩ rfl hl.1 rfl (Nat.le_of_ble_eq_true rfl) dX2_salsaCore_549 ⟨Nat.le_of_ble_eq_true rfl, Nat.le_of_ble_eq_true rfl⟩ hS hK hP hD hA [] rfl (by decide) ?_
      refine lv_ixor hx hb dX2_salsaCore_552 ?_
      refine lv_topi (fun y28 ey28 => ?_)
      refine lv_istore (lv' := [(13, .int y28), (12, .int y27), (11, .int y26), (14, .int y25), (8, .int y24), (7, .int y23), (10, .int y22), (9, .int y21), (3, .int y20), (6, .int y19), (5, .int y18), (4, .int y17), (18, .int y16), (17, .int y9), (16, .int y6), (15, .int y3), (1, .ref e), (2, .ref x), (19, .int (nI (2 * (r + 1))))]) hx hb dX2_salsaCore_553 hl (by decide) rfl (fun ls hl => ?_)
      refine lv_iload hx hb dX2_salsaCore_555 (lv_at hl 15 rfl) ?_
      refine lv_iload hx hb dX2_salsaCore_557 (lv_at hl 12 rfl) ?_
      refine lv_iload hx hb dX2_salsaCore_559 (lv_at hl 13 rfl) ?_
      refine lv_iadd hx hb dX2_salsaCore_561 ?_
      refine lv_bipush (v := nI 7) hx hb dX2_salsaCore_562 (by decide) ?_
      refine z_readS (As := [.int (y16 + y9), .int (nI 7)]) (rest := [.int y3]) ⟨hx, hb, hml, hown, hts⟩ (m_X6_rotateLeft l dC dI cB cI s.heap.size (y16 + y9) (nI 7)) (va_cwS 2 hts (lw_S q209 q210 q18 q211) rfl rfl rfl hd_X6_rotateLeft ⟨Nat.le_of_ble_eq_true rfl, Nat.le_of_ble_eq_true rfl⟩) ⟨zNo_good, trivial⟩ rfl hl.1 rfl (Nat.le_of_ble_eq_true rfl) dX2_salsaCore_564 ⟨Nat.le_of_ble_eq_true rfl, Nat.le_of_ble_eq_true rfl⟩ hS hK hP hD hA [] rfl (by decide) ?_
      refine lv_ixor hx hb dX2_salsaCore_567 ?_
      refine lv_topi (fun y29 ey29 => ?_)
      refine lv_istore (lv' := [(15, .int y29), (13, .int y28), (12, .int y27), (11, .int y26), (14, .int y25), (8, .int y24), (7, .int y23), (10, .int y22), (9, .int y21), (3, .int y20), (6, .int y19), (5, .int y18), (4, .int y17), (18, .int y16), (17, .int y9), (16, .int y6), (1, .ref e), (2, .ref x), (19, .int (nI (2 * (r + 1))))]) hx hb dX2_salsaCore_568 hl (by decide) rfl (fun ls hl => ?_)
      refine lv_iload hx hb dX2_salsaCore_570 (lv_at hl 15 rfl) ?_
      refine lv_iload hx hb dX2_salsaCore_572 (lv_at hl 0 rfl) ?_
      refine lv_iload hx hb dX2_salsaCore_574 (lv_at hl 13 rfl) ?_
      refine lv_iadd hx hb dX2_salsaCore_576 ?_
      refine lv_bipush (v := nI 9) hx hb dX2_salsaCore_577 (by decide) ?_
      refine z_readS (As := [.int (y29 + y16), .int (nI 9)]) (rest := [.int y6]) ⟨hx, hb, hml, hown, hts⟩ (m_X6_rotateLeft l dC dI cB cI s.heap.size (y29 + y16) (nI 9)) (va_cwS 2 hts (lw_S q209 q210 q18 q211) rfl rfl rfl hd_X6_rotateLeft ⟨Nat.le_of_ble_eq_true rfl, Nat.le_of_ble_eq_true rfl⟩) ⟨zNo_good, trivial⟩ rfl hl.1 rfl (Nat.le_of_ble_eq_true rfl) dX2_salsaCore_579 ⟨Nat.le_of_ble_eq_true rfl, Nat.le_of_ble_eq_true rfl⟩ hS hK hP hD hA [] rfl (by decide) ?_
      refine lv_ixor hx hb dX2_salsaCore_582 ?_
      refine lv_topi (fun y30 ey30 => ?_)
      refine lv_istore (lv' := [(16, .int y30), (15, .int y29), (13, .int y28), (12, .int y27), (11, .int y26), (14, .int y25), (8, .int y24), (7, .int y23), (10, .int y22), (9, .int y21), (3, .int y20), (6, .int y19), (5, .int y18), (4, .int y17), (18, .int y16), (17, .int y9), (1, .ref e), (2, .ref x), (19, .int (nI (2 * (r + 1))))]) hx hb dX2_salsaCore_583 hl (by decide) rfl (fun ls hl => ?_)
      refine lv_iload hx hb dX2_salsaCore_585 (lv_at hl 15 rfl) ?_
      refine lv_iload hx hb dX2_salsaCore_587 (lv_at hl 0 rfl) ?_
      refine lv_iload hx hb dX2_salsaCore_589 (lv_at hl 1 rfl) ?_
      refine lv_iadd hx hb dX2_salsaCore_591 ?_
      refine lv_bipush (v := nI 13) hx hb dX2_salsaCore_592 (by decide) ?_
      refine z_readS (As := [.int (y30 + y29), .int (nI 13)]) (rest := [.int y9]) ⟨hx, hb, hml, hown, hts⟩ (m_X6_rotateLeft l dC dI cB cI s.heap.size (y30 + y29) (nI 13)) (va_cwS 2 hts (lw_S q209 q210 q18 q211) rfl rfl rfl hd_X6_rotateLeft ⟨Nat.le_of_ble_eq_true rfl, Nat.le_of_ble_eq_true rfl⟩) ⟨zNo_good, trivial⟩ rfl hl.1 rfl (Nat.le_of_ble_eq_true rfl) dX2_salsaCore_594 ⟨Nat.le_of_ble_eq_true rfl, Nat.le_of_ble_eq_true rfl⟩ hS hK hP hD hA [] rfl (by decide) ?_
      refine lv_ixor hx hb dX2_salsaCore_597 ?_
      refine lv_topi (fun y31 ey31 => ?_)
      refine lv_istore (lv' := [(17, .int y31), (16, .int y30), (15, .int y29), (13, .int y28), (12, .int y27), (11, .int y26), (14, .int y25), (8, .int y24), (7, .int y23), (10, .int y22), (9, .int y21), (3, .int y20), (6, .int y19), (5, .int y18), (4, .int y17), (18, .int y16), (1, .ref e), (2, .ref x), (19, .int (nI (2 * (r + 1))))]) hx hb dX2_salsaCore_598 hl (by decide) rfl (fun ls hl => ?_)
      refine lv_iload hx hb dX2_salsaCore_600 (lv_at hl 15 rfl) ?_
      refine lv_iload hx hb dX2_salsaCore_602 (lv_at hl 0 rfl) ?_
      refine lv_iload hx hb dX2_salsaCore_604 (lv_at hl 1 rfl) ?_
      refine lv_iadd hx hb dX2_salsaCore_606 ?_
      refine lv_bipush (v := nI 18) hx hb dX2_salsaCore_607 (by decide) ?_
      refine z_readS (As := [.int (y31 + y30), .int (nI 18)]) (rest := [.int y16]) ⟨hx, hb, hml, hown, hts⟩ (m_X6_rotateLeft l dC dI cB cI s.heap.size (y31 + y30) (nI 18)) (va_cwS 2 hts (lw_S q209 q210 q18 q211) rfl rfl rfl hd_X6_rotateLeft ⟨Nat.le_of_ble_eq_true rfl, Nat.le_of_ble_eq_true rfl⟩) ⟨zNo_good, trivial⟩ rfl hl.1 rfl (Nat.le_of_ble_eq_true rfl) dX2_salsaCore_609 ⟨Nat.le_of_ble_eq_true rfl, Nat.le_of_ble_eq_true rfl⟩ hS hK hP hD hA [] rfl (by decide) ?_
      refine lv_ixor hx hb dX2_salsaCore_612 ?_
      refine lv_topi (fun y32 ey32 => ?_)
      refine lv_istore (lv' := [(18, .int y32), (17, .int y31), (16, .int y30), (15, .int y29), (13, .int y28), (12, .int y27), (11, .int y26), (14, .int y25), (8, .int y24), (7, .int y23), (10, .int y22), (9, .int y21), (3, .int y20), (6, .int y19), (5, .int y18), (4, .int y17), (1, .ref e), (2, .ref x), (19, .int (nI (2 * (r + 1))))]) hx hb dX2_salsaCore_613 hl (by decide) rfl (fun ls hl => ?_)
      refine lv_iinc (v := nI (2 * r)) (lv' := [(19, .int (nI (2 * r))), (18, .int y32), (17, .int y31), (16, .int y30), (15, .int y29), (13, .int y28), (12, .int y27), (11, .int y26), (14, .int y25), (8, .int y24), (7, .int y23), (10, .int y22), (9, .int y21), (3, .int y20), (6, .int y19), (5, .int y18), (4, .int y17), (1, .ref e), (2, .ref x)]) hx hb dX2_salsaCore_615 hl (k := 18) rfl (z_dec2 r) (by decide) rfl (fun ls hl => ?_)
      refine lv_goto (tgt := 138) hx hb dX2_salsaCore_618 (by decide) ?_
      subst ey32 ey31 ey30 ey29 ey28 ey27 ey26 ey25 ey24 ey23 ey22 ey21 ey20 ey19 ey18 ey17 ey16 ey15 ey14 ey13 ey12 ey11 ey10 ey9 ey8 ey7 ey6 ey5 ey4 ey3 ey2 ey1
      exact ih (drnd t) ht (by omega) ls (lv_sub hl [17, 18, 13, 16, 15, 14, 10, 9, 12, 11, 7, 6, 5, 8, 4, 3, 2, 1, 0] rfl)
  exact loop 10 es rfl (by decide) ls (lv_sub hl [18, 19, 16, 15, 14, 13, 12, 11, 10, 9, 8, 7, 6, 5, 4, 3, 2, 1, 0] rfl)
end
section
/-! Salsa20Engine -/
set_option maxRecDepth 100000
theorem hd_X2_generateKeyStream : yX2_generateKeyStream.cls ≠ "java/lang/invoke/MethodHandle" ∧ yX2_generateKeyStream.cls ≠ "java/lang/invoke/VarHandle" ∧ (parseMethodDescriptor yX2_generateKeyStream.desc).map (fun d => d.parameters.length) = some 1 := by decide +kernel
theorem hv_X2_generateKeyStream : yX2_generateKeyStream.cls = RX2 ∧ yX2_generateKeyStream.cls ≠ "java/lang/invoke/MethodHandle" ∧ yX2_generateKeyStream.cls ≠ "java/lang/invoke/VarHandle" ∧ (parseMethodDescriptor yX2_generateKeyStream.desc).map (fun d => d.parameters.length) = some 1 := ⟨rfl, hd_X2_generateKeyStream⟩
set_option maxHeartbeats 4000000 in
set_option maxRecDepth 100000 in
theorem m_X2_generateKeyStream (l : Launch) (dC : Nat → ClassId) (dI : Nat → Nat → Nat) (cB cI : ClassId) (sz : Nat) (h e x k : Nat) (ix ini c0 c1 c2 : Int32) (es xs ks : Nat → Int32) : zMv l yX2_generateKeyStream cX2_generateKeyStream 2 none 3 120 0 0 [.ref h, .ref k] zNo (dC, dI) cB cI sz [(h, .inr (1, [.int (nI 20), .int ix, .ref e, .ref x, .ref k, .int ini, .int c0, .int c1, .int c2])), (e, .inl (cI, 16, .inl es)), (x, .inl (cI, 16, .inl xs)), (k, .inl (cB, 64, .inl ks))] (fun A t => ∃ (xt kt : Nat → Int32), zKs es kt ∧ zB (dC, dI) A [(h, .inr (1, [.int (nI 20), .int ix, .ref e, .ref x, .ref k, .int ini, .int c0, .int c1, .int c2])), (e, .inl (cI, 16, .inl es)), (x, .inl (cI, 16, .inl xt)), (k, .inl (cB, 64, .inl kt))] t) := by
  refine z_ofv (C := RX2) rfl (by decide +kernel) (Nat.le_of_ble_eq_true rfl) ?_
  intro pr ev s m below meth c A hx hb hr hlocks hml hown hname hts hK hP hD hA hE hS ls hl
  have hl : lv_has ls 2 [(0, .ref h), (1, .ref k)] := hl
  refine lv_aload_n hx hb dX2_generateKeyStream_0 rfl (lv_at hl 0 rfl) ?_
  refine va_get (D := (dC, dI)) (ci := 1) (v := .int (nI 20)) (C := RX2) (T := TX2) (N := 9) hx hb hts in_X2 hown hK hP 0 rfl rfl 0 (by decide) (hts _ q274) (fun _ h9 => h9) rfl dX2_generateKeyStream_1 ?_
  refine lv_aload_n hx hb dX2_generateKeyStream_4 rfl (lv_at hl 0 rfl) ?_
  refine va_get (D := (dC, dI)) (ci := 1) (v := .ref e) (C := RX2) (T := TX2) (N := 9) hx hb hts in_X2 hown hK hP 0 rfl rfl 2 (by decide) (hts _ q276) (fun _ h9 => h9) rfl dX2_generateKeyStream_5 ?_
  refine lv_aload_n hx hb dX2_generateKeyStream_8 rfl (lv_at hl 0 rfl) ?_
  refine va_get (D := (dC, dI)) (ci := 1) (v := .ref x) (C := RX2) (T := TX2) (N := 9) hx hb hts in_X2 hown hK hP 0 rfl rfl 3 (by decide) (hts _ q277) (fun _ h9 => h9) rfl dX2_generateKeyStream_9 ?_
  refine z_callvS (wr := [(h, .inr (1, [.int (nI 20), .int ix, .ref e, .ref x, .ref k, .int ini, .int c0, .int c1, .int c2])), (k, .inl (cB, 64, .inl ks))]) (As := [.int (nI 20), .ref e, .ref x]) (rest := []) ⟨hx, hb, hml, hown, hts⟩ (m_X2_salsaCore l dC dI cB cI s.heap.size e x es xs) (va_cwS 3 hts (lw_S q180 q181 q8 q182) rfl rfl rfl hd_X2_salsaCore ⟨Nat.le_of_ble_eq_true rfl, Nat.le_of_ble_eq_true rfl⟩) ⟨zNo_good, trivial⟩ rfl hl.1 rfl (Nat.le_of_ble_eq_true rfl) dX2_generateKeyStream_12 ⟨Nat.le_of_ble_eq_true rfl, Nat.le_of_ble_eq_true rfl⟩ hS hK hP hD hA [1, 2] [0, 3] rfl (by decide) rfl (by decide) (by decide) (fun A1 t H locs hB J hS => ?_)
  skip
  obtain ⟨hP, hD⟩ := J _ hB
  clear hB J
  have hP : va_P (dC, dI) vwCl [(h, .inr (1, [.int (nI 20), .int ix, .ref e, .ref x, .ref k, .int ini, .int c0, .int c1, .int c2])), (k, .inl (cB, 64, .inl ks)), (e, .inl (cI, 16, .inl es)), (x, .inl (cI, 16, .inl (core es xs)))] H := hP
  have hD : va_D A [(h, .inr (1, [.int (nI 20), .int ix, .ref e, .ref x, .ref k, .int ini, .int c0, .int c1, .int c2])), (k, .inl (cB, 64, .inl ks)), (e, .inl (cI, 16, .inl es)), (x, .inl (cI, 16, .inl (core es xs)))] := hD
  refine lv_aload_n hx hb dX2_generateKeyStream_15 rfl (lv_at hl 0 rfl) ?_
  refine va_get (D := (dC, dI)) (ci := 1) (v := .ref x) (C := RX2) (T := TX2) (N := 9) hx hb hts in_X2 hown hK hP 0 rfl rfl 3 (by decide) (hts _ q277) (fun _ h9 => h9) rfl dX2_generateKeyStream_16 ?_
  refine lv_aload_n hx hb dX2_generateKeyStream_19 rfl (lv_at hl 1 rfl) ?_
  refine lv_iconst (v := nI 0) hx hb dX2_generateKeyStream_20 (by decide) ?_
  refine z_callvS (wr := [(h, .inr (1, [.int (nI 20), .int ix, .ref e, .ref x, .ref k, .int ini, .int c0, .int c1, .int c2])), (e, .inl (cI, 16, .inl es))]) (As := [.ref x, .ref k, .int (nI 0)]) (rest := []) ⟨hx, hb, hml, hown, hts⟩ (m_X5_intToLittleEndian l dC dI cB cI H.size x k 16 64 0 (core es xs) ks (by decide) (by decide)) (va_cwS 3 hts (lw_S q215 q216 q17 q217) rfl rfl rfl hd_X5_intToLittleEndian ⟨Nat.le_of_ble_eq_true rfl, Nat.le_of_ble_eq_true rfl⟩) ⟨zNo_good, trivial⟩ rfl hl.1 rfl (Nat.le_of_ble_eq_true rfl) dX2_generateKeyStream_21 ⟨Nat.le_of_ble_eq_true rfl, Nat.le_of_ble_eq_true rfl⟩ hS hK hP hD hA [3, 1] [0, 2] rfl (by decide) rfl (by decide) (by decide) (fun A1 t H locs hB J hS => ?_)
  skip
  obtain ⟨hP, hD⟩ := J _ hB
  clear hB J
  have hP : va_P (dC, dI) vwCl [(h, .inr (1, [.int (nI 20), .int ix, .ref e, .ref x, .ref k, .int ini, .int c0, .int c1, .int c2])), (e, .inl (cI, 16, .inl es)), (x, .inl (cI, 16, .inl (core es xs))), (k, .inl (cB, 64, .inl (wrls (core es xs) ks 0 16)))] H := hP
  have hD : va_D A [(h, .inr (1, [.int (nI 20), .int ix, .ref e, .ref x, .ref k, .int ini, .int c0, .int c1, .int c2])), (e, .inl (cI, 16, .inl es)), (x, .inl (cI, 16, .inl (core es xs))), (k, .inl (cB, 64, .inl (wrls (core es xs) ks 0 16)))] := hD
  exact z_vret hx hb hr hlocks hS (Nat.le_of_ble_eq_true rfl) (Nat.le_of_ble_eq_true rfl) dX2_generateKeyStream_24 (fun t ht => ⟨core es xs, wrls (core es xs) ks 0 16, zKs_gen es xs ks, zB_of hP hD [0, 1, 2, 3] rfl (by decide) ht⟩)
theorem hd_X2_advanceCounter : yX2_advanceCounter.cls ≠ "java/lang/invoke/MethodHandle" ∧ yX2_advanceCounter.cls ≠ "java/lang/invoke/VarHandle" ∧ (parseMethodDescriptor yX2_advanceCounter.desc).map (fun d => d.parameters.length) = some 0 := by decide +kernel
theorem hv_X2_advanceCounter : yX2_advanceCounter.cls = RX2 ∧ yX2_advanceCounter.cls ≠ "java/lang/invoke/MethodHandle" ∧ yX2_advanceCounter.cls ≠ "java/lang/invoke/VarHandle" ∧ (parseMethodDescriptor yX2_advanceCounter.desc).map (fun d => d.parameters.length) = some 0 := ⟨rfl, hd_X2_advanceCounter⟩
set_option maxHeartbeats 4000000 in
set_option maxRecDepth 100000 in
theorem m_X2_advanceCounter (l : Launch) (dC : Nat → ClassId) (dI : Nat → Nat → Nat) (cB cI : ClassId) (sz : Nat) (h e x k : Nat) (ix ini c0 c1 c2 : Int32) (es : Nat → Int32) : zMv l yX2_advanceCounter cX2_advanceCounter 1 none 0 0 0 0 [.ref h] zNo (dC, dI) cB cI sz [(h, .inr (1, [.int (nI 20), .int ix, .ref e, .ref x, .ref k, .int ini, .int c0, .int c1, .int c2])), (e, .inl (cI, 16, .inl es))] (fun A t => zB (dC, dI) A [(h, .inr (1, [.int (nI 20), .int ix, .ref e, .ref x, .ref k, .int ini, .int c0, .int c1, .int c2])), (e, .inl (cI, 16, .inl (adv es)))] t) := by
  refine z_ofv (C := RX2) rfl (by decide +kernel) (Nat.le_of_ble_eq_true rfl) ?_
  intro pr ev s m below meth c A hx hb hr hlocks hml hown hname hts hK hP hD hA hE hS ls hl
  have hl : lv_has ls 1 [(0, .ref h)] := hl
  refine lv_aload_n hx hb dX2_advanceCounter_0 rfl (lv_at hl 0 rfl) ?_
  refine va_get (D := (dC, dI)) (ci := 1) (v := .ref e) (C := RX2) (T := TX2) (N := 9) hx hb hts in_X2 hown hK hP 0 rfl rfl 2 (by decide) (hts _ q276) (fun _ h9 => h9) rfl dX2_advanceCounter_1 ?_
  refine lv_bipush (v := nI 8) hx hb dX2_advanceCounter_4 (by decide) ?_
  refine lv_dup2_11 hx hb dX2_advanceCounter_6 rfl rfl ?_
  refine z_iald (k := 8) (v := es 8) hx hb hK hP 1 1 rfl rfl (by decide) (by decide) rfl dX2_advanceCounter_7 ?_
  refine lv_iconst (v := nI 1) hx hb dX2_advanceCounter_8 (by decide) ?_
  refine lv_iadd hx hb dX2_advanceCounter_9 ?_
  refine lv_dup_x2 hx hb dX2_advanceCounter_10 rfl rfl rfl ?_
  refine z_iast (k := 8) (g := upd es 8 ((es 8) + (nI 1))) hx hb hK hP hD hS 1 1 rfl rfl (by decide) (by decide) rfl dX2_advanceCounter_11 (fun H locs hP hD hS => ?_)
  have hP : va_P (dC, dI) vwCl [(h, .inr (1, [.int (nI 20), .int ix, .ref e, .ref x, .ref k, .int ini, .int c0, .int c1, .int c2])), (e, .inl (cI, 16, .inl (upd es 8 ((es 8) + (nI 1)))))] H := hP
  have hD : va_D A [(h, .inr (1, [.int (nI 20), .int ix, .ref e, .ref x, .ref k, .int ini, .int c0, .int c1, .int c2])), (e, .inl (cI, 16, .inl (upd es 8 ((es 8) + (nI 1)))))] := hD
  refine lv_if_ne (tgt := 26) hx hb dX2_advanceCounter_12 (by decide) (fun hc => ?_) (fun hc => ?_)
  · rw [adv_f hc] at hP hD
    exact z_vret hx hb hr hlocks hS (Nat.le_of_ble_eq_true rfl) (Nat.le_of_ble_eq_true rfl) dX2_advanceCounter_26 (fun t ht => zB_of hP hD [0, 1] rfl (by decide) ht)
  · skip
    refine lv_aload_n hx hb dX2_advanceCounter_15 rfl (lv_at hl 0 rfl) ?_
    refine va_get (D := (dC, dI)) (ci := 1) (v := .ref e) (C := RX2) (T := TX2) (N := 9) hx hb hts in_X2 hown hK hP 0 rfl rfl 2 (by decide) (hts _ q276) (fun _ h9 => h9) rfl dX2_advanceCounter_16 ?_
    refine lv_bipush (v := nI 9) hx hb dX2_advanceCounter_19 (by decide) ?_
    refine lv_dup2_11 hx hb dX2_advanceCounter_21 rfl rfl ?_
    refine z_iald (k := 9) (v := (upd es 8 ((es 8) + (nI 1))) 9) hx hb hK hP 1 1 rfl rfl (by decide) (by decide) rfl dX2_advanceCounter_22 ?_
    refine lv_iconst (v := nI 1) hx hb dX2_advanceCounter_23 (by decide) ?_
    refine lv_iadd hx hb dX2_advanceCounter_24 ?_
    refine z_iast (k := 9) (g := upd (upd es 8 ((es 8) + (nI 1))) 9 (((upd es 8 ((es 8) + (nI 1))) 9) + (nI 1))) hx hb hK hP hD hS 1 1 rfl rfl (by decide) (by decide) rfl dX2_advanceCounter_25 (fun H locs hP hD hS => ?_)
    have hP : va_P (dC, dI) vwCl [(h, .inr (1, [.int (nI 20), .int ix, .ref e, .ref x, .ref k, .int ini, .int c0, .int c1, .int c2])), (e, .inl (cI, 16, .inl (upd (upd es 8 ((es 8) + (nI 1))) 9 (((upd es 8 ((es 8) + (nI 1))) 9) + (nI 1)))))] H := hP
    have hD : va_D A [(h, .inr (1, [.int (nI 20), .int ix, .ref e, .ref x, .ref k, .int ini, .int c0, .int c1, .int c2])), (e, .inl (cI, 16, .inl (upd (upd es 8 ((es 8) + (nI 1))) 9 (((upd es 8 ((es 8) + (nI 1))) 9) + (nI 1)))))] := hD
    rw [adv_t hc] at hP hD
    exact z_vret hx hb hr hlocks hS (Nat.le_of_ble_eq_true rfl) (Nat.le_of_ble_eq_true rfl) dX2_advanceCounter_26 (fun t ht => zB_of hP hD [0, 1] rfl (by decide) ht)
theorem hd_X2_limitExceeded_2 : yX2_limitExceeded_2.cls ≠ "java/lang/invoke/MethodHandle" ∧ yX2_limitExceeded_2.cls ≠ "java/lang/invoke/VarHandle" ∧ (parseMethodDescriptor yX2_limitExceeded_2.desc).map (fun d => d.parameters.length) = some 0 := by decide +kernel
theorem hv_X2_limitExceeded_2 : yX2_limitExceeded_2.cls = RX2 ∧ yX2_limitExceeded_2.cls ≠ "java/lang/invoke/MethodHandle" ∧ yX2_limitExceeded_2.cls ≠ "java/lang/invoke/VarHandle" ∧ (parseMethodDescriptor yX2_limitExceeded_2.desc).map (fun d => d.parameters.length) = some 0 := ⟨rfl, hd_X2_limitExceeded_2⟩
set_option maxHeartbeats 4000000 in
set_option maxRecDepth 100000 in
theorem m_X2_limitExceeded_2 (l : Launch) (dC : Nat → ClassId) (dI : Nat → Nat → Nat) (cB cI : ClassId) (sz : Nat) (h e x k : Nat) (ix ini : Int32) (c1 c2 : Int32) (q : Nat) (hq : q < 4096) : zMi l yX2_limitExceeded_2 cX2_limitExceeded_2 1 (some .boolean) 0 0 0 0 [.ref h] zNo (dC, dI) cB cI sz [(h, .inr (1, [.int (nI 20), .int ix, .ref e, .ref x, .ref k, .int ini, .int (nI q), .int c1, .int c2]))] (nI 0) (fun A t => zB (dC, dI) A [(h, .inr (1, [.int (nI 20), .int ix, .ref e, .ref x, .ref k, .int ini, .int (nI (q + 1)), .int c1, .int c2]))] t) := by
  refine z_ofi (C := RX2) rfl (by decide +kernel) (Nat.le_of_ble_eq_true rfl) ?_
  intro pr ev s m below meth c A hx hb hr hlocks hml hown hname hts hK hP hD hA hE hS ls hl
  have hl : lv_has ls 1 [(0, .ref h)] := hl
  refine lv_aload_n hx hb dX2_limitExceeded_2_0 rfl (lv_at hl 0 rfl) ?_
  refine lv_dup hx hb dX2_limitExceeded_2_1 rfl ?_
  refine va_get (D := (dC, dI)) (ci := 1) (v := .int (nI q)) (C := RX2) (T := TX2) (N := 9) hx hb hts in_X2 hown hK hP 0 rfl rfl 6 (by decide) (hts _ q280) (fun _ h9 => h9) rfl dX2_limitExceeded_2_2 ?_
  refine lv_iconst (v := nI 1) hx hb dX2_limitExceeded_2_5 (by decide) ?_
  refine lv_iadd hx hb dX2_limitExceeded_2_6 ?_
  refine z_top (y := nI (q + 1)) (nI_add q 1) ?_
  refine lv_dup_x1 hx hb dX2_limitExceeded_2_7 rfl rfl ?_
  refine va_put (D := (dC, dI)) (ci := 1) (v := .int (nI (q + 1))) (ty := .int) (C := RX2) (T := TX2) (N := 9) hx hb hts in_X2 tyX2 tyX2_ok nmX2 hown hK hP hD hS 0 rfl rfl 6 (by decide) (hts _ q280) (fun _ h9 => h9) rfl (by decide +kernel) rfl rfl (Nat.le_of_ble_eq_true rfl) dX2_limitExceeded_2_8 (fun H locs hP hD hS => ?_)
  have hP : va_P (dC, dI) vwCl [(h, .inr (1, [.int (nI 20), .int ix, .ref e, .ref x, .ref k, .int ini, .int (nI (q + 1)), .int c1, .int c2]))] H := hP
  have hD : va_D A [(h, .inr (1, [.int (nI 20), .int ix, .ref e, .ref x, .ref k, .int ini, .int (nI (q + 1)), .int c1, .int c2]))] := hD
  refine lv_if_ne (tgt := 51) hx hb dX2_limitExceeded_2_11 (by decide) (fun _ => ?_) (fun hc => absurd hc (nI_ne0 (by omega) (by omega)))
  refine lv_iconst (v := nI 0) hx hb dX2_limitExceeded_2_51 (by decide) ?_
  exact z_iret hx hb hr hlocks rfl rfl hS (Nat.le_of_ble_eq_true rfl) (Nat.le_of_ble_eq_true rfl) dX2_limitExceeded_2_52 (fun t ht => zB_of hP hD [0] rfl (by decide) ht)
theorem hd_X2_limitExceeded : yX2_limitExceeded.cls ≠ "java/lang/invoke/MethodHandle" ∧ yX2_limitExceeded.cls ≠ "java/lang/invoke/VarHandle" ∧ (parseMethodDescriptor yX2_limitExceeded.desc).map (fun d => d.parameters.length) = some 1 := by decide +kernel
theorem hv_X2_limitExceeded : yX2_limitExceeded.cls = RX2 ∧ yX2_limitExceeded.cls ≠ "java/lang/invoke/MethodHandle" ∧ yX2_limitExceeded.cls ≠ "java/lang/invoke/VarHandle" ∧ (parseMethodDescriptor yX2_limitExceeded.desc).map (fun d => d.parameters.length) = some 1 := ⟨rfl, hd_X2_limitExceeded⟩
set_option maxHeartbeats 4000000 in
set_option maxRecDepth 100000 in
theorem m_X2_limitExceeded (l : Launch) (dC : Nat → ClassId) (dI : Nat → Nat → Nat) (cB cI : ClassId) (sz : Nat) (h e x k : Nat) (ix ini : Int32) (c1 c2 : Int32) (q n : Nat) (hq : q + n < 8192) : zMi l yX2_limitExceeded cX2_limitExceeded 2 (some .boolean) 0 0 0 0 [.ref h, .int (nI n)] zNo (dC, dI) cB cI sz [(h, .inr (1, [.int (nI 20), .int ix, .ref e, .ref x, .ref k, .int ini, .int (nI q), .int c1, .int c2]))] (nI 0) (fun A t => zB (dC, dI) A [(h, .inr (1, [.int (nI 20), .int ix, .ref e, .ref x, .ref k, .int ini, .int (nI (q + n)), .int c1, .int c2]))] t) := by
  refine z_ofi (C := RX2) rfl (by decide +kernel) (Nat.le_of_ble_eq_true rfl) ?_
  intro pr ev s m below meth c A hx hb hr hlocks hml hown hname hts hK hP hD hA hE hS ls hl
  have hl : lv_has ls 2 [(0, .ref h), (1, .int (nI n))] := hl
  refine lv_aload_n hx hb dX2_limitExceeded_0 rfl (lv_at hl 0 rfl) ?_
  refine lv_dup hx hb dX2_limitExceeded_1 rfl ?_
  refine va_get (D := (dC, dI)) (ci := 1) (v := .int (nI q)) (C := RX2) (T := TX2) (N := 9) hx hb hts in_X2 hown hK hP 0 rfl rfl 6 (by decide) (hts _ q280) (fun _ h9 => h9) rfl dX2_limitExceeded_2 ?_
  refine lv_iload_n hx hb dX2_limitExceeded_5 rfl (lv_at hl 1 rfl) ?_
  refine lv_iadd hx hb dX2_limitExceeded_6 ?_
  refine z_top (y := nI (q + n)) (nI_add q n) ?_
  refine va_put (D := (dC, dI)) (ci := 1) (v := .int (nI (q + n))) (ty := .int) (C := RX2) (T := TX2) (N := 9) hx hb hts in_X2 tyX2 tyX2_ok nmX2 hown hK hP hD hS 0 rfl rfl 6 (by decide) (hts _ q280) (fun _ h9 => h9) rfl (by decide +kernel) rfl rfl (Nat.le_of_ble_eq_true rfl) dX2_limitExceeded_7 (fun H locs hP hD hS => ?_)
  have hP : va_P (dC, dI) vwCl [(h, .inr (1, [.int (nI 20), .int ix, .ref e, .ref x, .ref k, .int ini, .int (nI (q + n)), .int c1, .int c2]))] H := hP
  have hD : va_D A [(h, .inr (1, [.int (nI 20), .int ix, .ref e, .ref x, .ref k, .int ini, .int (nI (q + n)), .int c1, .int c2]))] := hD
  refine lv_aload_n hx hb dX2_limitExceeded_10 rfl (lv_at hl 0 rfl) ?_
  refine va_get (D := (dC, dI)) (ci := 1) (v := .int (nI (q + n))) (C := RX2) (T := TX2) (N := 9) hx hb hts in_X2 hown hK hP 0 rfl rfl 6 (by decide) (hts _ q280) (fun _ h9 => h9) rfl dX2_limitExceeded_11 ?_
  refine lv_iload_n hx hb dX2_limitExceeded_14 rfl (lv_at hl 1 rfl) ?_
  refine lv_icmp_ge (tgt := 62) hx hb dX2_limitExceeded_15 (by decide) (fun _ => ?_) (fun hc => absurd (nI_le (by omega) (by omega)) hc)
  refine lv_iconst (v := nI 0) hx hb dX2_limitExceeded_62 (by decide) ?_
  exact z_iret hx hb hr hlocks rfl rfl hS (Nat.le_of_ble_eq_true rfl) (Nat.le_of_ble_eq_true rfl) dX2_limitExceeded_63 (fun t ht => zB_of hP hD [0] rfl (by decide) ht)
theorem hd_X2_resetLimitCounter : yX2_resetLimitCounter.cls ≠ "java/lang/invoke/MethodHandle" ∧ yX2_resetLimitCounter.cls ≠ "java/lang/invoke/VarHandle" ∧ (parseMethodDescriptor yX2_resetLimitCounter.desc).map (fun d => d.parameters.length) = some 0 := by decide +kernel
theorem hv_X2_resetLimitCounter : yX2_resetLimitCounter.cls = RX2 ∧ yX2_resetLimitCounter.cls ≠ "java/lang/invoke/MethodHandle" ∧ yX2_resetLimitCounter.cls ≠ "java/lang/invoke/VarHandle" ∧ (parseMethodDescriptor yX2_resetLimitCounter.desc).map (fun d => d.parameters.length) = some 0 := ⟨rfl, hd_X2_resetLimitCounter⟩
set_option maxHeartbeats 4000000 in
set_option maxRecDepth 100000 in
theorem m_X2_resetLimitCounter (l : Launch) (dC : Nat → ClassId) (dI : Nat → Nat → Nat) (cB cI : ClassId) (sz : Nat) (h e x k : Nat) (ix ini c0 c1 c2 : Int32) : zMv l yX2_resetLimitCounter cX2_resetLimitCounter 1 none 0 0 0 0 [.ref h] zNo (dC, dI) cB cI sz [(h, .inr (1, [.int (nI 20), .int ix, .ref e, .ref x, .ref k, .int ini, .int c0, .int c1, .int c2]))] (fun A t => zB (dC, dI) A [(h, .inr (1, [.int (nI 20), .int ix, .ref e, .ref x, .ref k, .int ini, .int (nI 0), .int (nI 0), .int (nI 0)]))] t) := by
  refine z_ofv (C := RX2) rfl (by decide +kernel) (Nat.le_of_ble_eq_true rfl) ?_
  intro pr ev s m below meth c A hx hb hr hlocks hml hown hname hts hK hP hD hA hE hS ls hl
  have hl : lv_has ls 1 [(0, .ref h)] := hl
  refine lv_aload_n hx hb dX2_resetLimitCounter_0 rfl (lv_at hl 0 rfl) ?_
  refine lv_iconst (v := nI 0) hx hb dX2_resetLimitCounter_1 (by decide) ?_
  refine va_put (D := (dC, dI)) (ci := 1) (v := .int (nI 0)) (ty := .int) (C := RX2) (T := TX2) (N := 9) hx hb hts in_X2 tyX2 tyX2_ok nmX2 hown hK hP hD hS 0 rfl rfl 6 (by decide) (hts _ q280) (fun _ h9 => h9) rfl (by decide +kernel) rfl rfl (Nat.le_of_ble_eq_true rfl) dX2_resetLimitCounter_2 (fun H locs hP hD hS => ?_)
  have hP : va_P (dC, dI) vwCl [(h, .inr (1, [.int (nI 20), .int ix, .ref e, .ref x, .ref k, .int ini, .int (nI 0), .int c1, .int c2]))] H := hP
  have hD : va_D A [(h, .inr (1, [.int (nI 20), .int ix, .ref e, .ref x, .ref k, .int ini, .int (nI 0), .int c1, .int c2]))] := hD
  refine lv_aload_n hx hb dX2_resetLimitCounter_5 rfl (lv_at hl 0 rfl) ?_
  refine lv_iconst (v := nI 0) hx hb dX2_resetLimitCounter_6 (by decide) ?_
  refine va_put (D := (dC, dI)) (ci := 1) (v := .int (nI 0)) (ty := .int) (C := RX2) (T := TX2) (N := 9) hx hb hts in_X2 tyX2 tyX2_ok nmX2 hown hK hP hD hS 0 rfl rfl 7 (by decide) (hts _ q281) (fun _ h9 => h9) rfl (by decide +kernel) rfl rfl (Nat.le_of_ble_eq_true rfl) dX2_resetLimitCounter_7 (fun H locs hP hD hS => ?_)
  have hP : va_P (dC, dI) vwCl [(h, .inr (1, [.int (nI 20), .int ix, .ref e, .ref x, .ref k, .int ini, .int (nI 0), .int (nI 0), .int c2]))] H := hP
  have hD : va_D A [(h, .inr (1, [.int (nI 20), .int ix, .ref e, .ref x, .ref k, .int ini, .int (nI 0), .int (nI 0), .int c2]))] := hD
  refine lv_aload_n hx hb dX2_resetLimitCounter_10 rfl (lv_at hl 0 rfl) ?_
  refine lv_iconst (v := nI 0) hx hb dX2_resetLimitCounter_11 (by decide) ?_
  refine va_put (D := (dC, dI)) (ci := 1) (v := .int (nI 0)) (ty := .int) (C := RX2) (T := TX2) (N := 9) hx hb hts in_X2 tyX2 tyX2_ok nmX2 hown hK hP hD hS 0 rfl rfl 8 (by decide) (hts _ q282) (fun _ h9 => h9) rfl (by decide +kernel) rfl rfl (Nat.le_of_ble_eq_true rfl) dX2_resetLimitCounter_12 (fun H locs hP hD hS => ?_)
  have hP : va_P (dC, dI) vwCl [(h, .inr (1, [.int (nI 20), .int ix, .ref e, .ref x, .ref k, .int ini, .int (nI 0), .int (nI 0), .int (nI 0)]))] H := hP
  have hD : va_D A [(h, .inr (1, [.int (nI 20), .int ix, .ref e, .ref x, .ref k, .int ini, .int (nI 0), .int (nI 0), .int (nI 0)]))] := hD
  exact z_vret hx hb hr hlocks hS (Nat.le_of_ble_eq_true rfl) (Nat.le_of_ble_eq_true rfl) dX2_resetLimitCounter_15 (fun t ht => zB_of hP hD [0] rfl (by decide) ht)
theorem hd_X2_resetCounter : yX2_resetCounter.cls ≠ "java/lang/invoke/MethodHandle" ∧ yX2_resetCounter.cls ≠ "java/lang/invoke/VarHandle" ∧ (parseMethodDescriptor yX2_resetCounter.desc).map (fun d => d.parameters.length) = some 0 := by decide +kernel
theorem hv_X2_resetCounter : yX2_resetCounter.cls = RX2 ∧ yX2_resetCounter.cls ≠ "java/lang/invoke/MethodHandle" ∧ yX2_resetCounter.cls ≠ "java/lang/invoke/VarHandle" ∧ (parseMethodDescriptor yX2_resetCounter.desc).map (fun d => d.parameters.length) = some 0 := ⟨rfl, hd_X2_resetCounter⟩
set_option maxHeartbeats 4000000 in
set_option maxRecDepth 100000 in
theorem m_X2_resetCounter (l : Launch) (dC : Nat → ClassId) (dI : Nat → Nat → Nat) (cB cI : ClassId) (sz : Nat) (h e x k : Nat) (ix ini c0 c1 c2 : Int32) (es : Nat → Int32) : zMv l yX2_resetCounter cX2_resetCounter 1 none 0 0 0 0 [.ref h] zNo (dC, dI) cB cI sz [(h, .inr (1, [.int (nI 20), .int ix, .ref e, .ref x, .ref k, .int ini, .int c0, .int c1, .int c2])), (e, .inl (cI, 16, .inl es))] (fun A t => zB (dC, dI) A [(h, .inr (1, [.int (nI 20), .int ix, .ref e, .ref x, .ref k, .int ini, .int c0, .int c1, .int c2])), (e, .inl (cI, 16, .inl (rst es)))] t) := by
  refine z_ofv (C := RX2) rfl (by decide +kernel) (Nat.le_of_ble_eq_true rfl) ?_
  intro pr ev s m below meth c A hx hb hr hlocks hml hown hname hts hK hP hD hA hE hS ls hl
  have hl : lv_has ls 1 [(0, .ref h)] := hl
  refine lv_aload_n hx hb dX2_resetCounter_0 rfl (lv_at hl 0 rfl) ?_
  refine va_get (D := (dC, dI)) (ci := 1) (v := .ref e) (C := RX2) (T := TX2) (N := 9) hx hb hts in_X2 hown hK hP 0 rfl rfl 2 (by decide) (hts _ q276) (fun _ h9 => h9) rfl dX2_resetCounter_1 ?_
  refine lv_bipush (v := nI 8) hx hb dX2_resetCounter_4 (by decide) ?_
  refine lv_aload_n hx hb dX2_resetCounter_6 rfl (lv_at hl 0 rfl) ?_
  refine va_get (D := (dC, dI)) (ci := 1) (v := .ref e) (C := RX2) (T := TX2) (N := 9) hx hb hts in_X2 hown hK hP 0 rfl rfl 2 (by decide) (hts _ q276) (fun _ h9 => h9) rfl dX2_resetCounter_7 ?_
  refine lv_bipush (v := nI 9) hx hb dX2_resetCounter_10 (by decide) ?_
  refine lv_iconst (v := nI 0) hx hb dX2_resetCounter_12 (by decide) ?_
  refine lv_dup_x2 hx hb dX2_resetCounter_13 rfl rfl rfl ?_
  refine z_iast (k := 9) (g := upd es 9 (nI 0)) hx hb hK hP hD hS 1 1 rfl rfl (by decide) (by decide) rfl dX2_resetCounter_14 (fun H locs hP hD hS => ?_)
  have hP : va_P (dC, dI) vwCl [(h, .inr (1, [.int (nI 20), .int ix, .ref e, .ref x, .ref k, .int ini, .int c0, .int c1, .int c2])), (e, .inl (cI, 16, .inl (upd es 9 (nI 0))))] H := hP
  have hD : va_D A [(h, .inr (1, [.int (nI 20), .int ix, .ref e, .ref x, .ref k, .int ini, .int c0, .int c1, .int c2])), (e, .inl (cI, 16, .inl (upd es 9 (nI 0))))] := hD
  refine z_iast (k := 8) (g := upd (upd es 9 (nI 0)) 8 (nI 0)) hx hb hK hP hD hS 1 1 rfl rfl (by decide) (by decide) rfl dX2_resetCounter_15 (fun H locs hP hD hS => ?_)
  have hP : va_P (dC, dI) vwCl [(h, .inr (1, [.int (nI 20), .int ix, .ref e, .ref x, .ref k, .int ini, .int c0, .int c1, .int c2])), (e, .inl (cI, 16, .inl (upd (upd es 9 (nI 0)) 8 (nI 0))))] H := hP
  have hD : va_D A [(h, .inr (1, [.int (nI 20), .int ix, .ref e, .ref x, .ref k, .int ini, .int c0, .int c1, .int c2])), (e, .inl (cI, 16, .inl (upd (upd es 9 (nI 0)) 8 (nI 0))))] := hD
  exact z_vret hx hb hr hlocks hS (Nat.le_of_ble_eq_true rfl) (Nat.le_of_ble_eq_true rfl) dX2_resetCounter_16 (fun t ht => zB_of hP hD [0, 1] rfl (by decide) ht)
theorem hd_X2_reset : yX2_reset.cls ≠ "java/lang/invoke/MethodHandle" ∧ yX2_reset.cls ≠ "java/lang/invoke/VarHandle" ∧ (parseMethodDescriptor yX2_reset.desc).map (fun d => d.parameters.length) = some 0 := by decide +kernel
theorem hv_X2_reset : yX2_reset.cls = RX2 ∧ yX2_reset.cls ≠ "java/lang/invoke/MethodHandle" ∧ yX2_reset.cls ≠ "java/lang/invoke/VarHandle" ∧ (parseMethodDescriptor yX2_reset.desc).map (fun d => d.parameters.length) = some 0 := ⟨rfl, hd_X2_reset⟩
set_option maxHeartbeats 4000000 in
set_option maxRecDepth 100000 in
theorem m_X2_reset (l : Launch) (dC : Nat → ClassId) (dI : Nat → Nat → Nat) (cB cI : ClassId) (sz : Nat) (h e x k : Nat) (ix ini c0 c1 c2 : Int32) (es xs ks : Nat → Int32) : zMv l yX2_reset cX2_reset 1 none 4 160 0 0 [.ref h] zNo (dC, dI) cB cI sz [(h, .inr (1, [.int (nI 20), .int ix, .ref e, .ref x, .ref k, .int ini, .int c0, .int c1, .int c2])), (e, .inl (cI, 16, .inl es)), (x, .inl (cI, 16, .inl xs)), (k, .inl (cB, 64, .inl ks))] (fun A t => ∃ (xt kt : Nat → Int32), zKs (rst es) kt ∧ zB (dC, dI) A [(h, .inr (1, [.int (nI 20), .int (nI 0), .ref e, .ref x, .ref k, .int ini, .int (nI 0), .int (nI 0), .int (nI 0)])), (e, .inl (cI, 16, .inl (rst es))), (x, .inl (cI, 16, .inl xt)), (k, .inl (cB, 64, .inl kt))] t) := by
  refine z_ofv (C := RX2) rfl (by decide +kernel) (Nat.le_of_ble_eq_true rfl) ?_
  intro pr ev s m below meth c A hx hb hr hlocks hml hown hname hts hK hP hD hA hE hS ls hl
  have hl : lv_has ls 1 [(0, .ref h)] := hl
  refine lv_aload_n hx hb dX2_reset_0 rfl (lv_at hl 0 rfl) ?_
  refine lv_iconst (v := nI 0) hx hb dX2_reset_1 (by decide) ?_
  refine va_put (D := (dC, dI)) (ci := 1) (v := .int (nI 0)) (ty := .int) (C := RX2) (T := TX2) (N := 9) hx hb hts in_X2 tyX2 tyX2_ok nmX2 hown hK hP hD hS 0 rfl rfl 1 (by decide) (hts _ q275) (fun _ h9 => h9) rfl (by decide +kernel) rfl rfl (Nat.le_of_ble_eq_true rfl) dX2_reset_2 (fun H locs hP hD hS => ?_)
  have hP : va_P (dC, dI) vwCl [(h, .inr (1, [.int (nI 20), .int (nI 0), .ref e, .ref x, .ref k, .int ini, .int c0, .int c1, .int c2])), (e, .inl (cI, 16, .inl es)), (x, .inl (cI, 16, .inl xs)), (k, .inl (cB, 64, .inl ks))] H := hP
  have hD : va_D A [(h, .inr (1, [.int (nI 20), .int (nI 0), .ref e, .ref x, .ref k, .int ini, .int c0, .int c1, .int c2])), (e, .inl (cI, 16, .inl es)), (x, .inl (cI, 16, .inl xs)), (k, .inl (cB, 64, .inl ks))] := hD
  refine lv_aload_n hx hb dX2_reset_5 rfl (lv_at hl 0 rfl) ?_
  refine z_callvV (wr := [(e, .inl (cI, 16, .inl es)), (x, .inl (cI, 16, .inl xs)), (k, .inl (cB, 64, .inl ks))]) (As := []) (rest := []) ⟨hx, hb, hml, hown, hts⟩ (m_X2_resetLimitCounter l dC dI cB cI H.size h e x k (nI 0) ini c0 c1 c2) (cwV 0 hts (lw_V q242 q244 qs5 q8 q245) rfl rfl rfl hv_X2_resetLimitCounter ⟨Nat.le_of_ble_eq_true rfl, Nat.le_of_ble_eq_true rfl⟩) ⟨zNo_good, trivial⟩ (va_recv hK hP (ci := 1) (q0 := 0) rfl rfl) rfl hl.1 rfl (Nat.le_of_ble_eq_true rfl) dX2_reset_6 ⟨Nat.le_of_ble_eq_true rfl, Nat.le_of_ble_eq_true rfl⟩ hS hK hP hD hA [0] [1, 2, 3] rfl (by decide) rfl (by decide) (by decide) (fun A1 t H locs hB J hS => ?_)
  skip
  obtain ⟨hP, hD⟩ := J _ hB
  clear hB J
  have hP : va_P (dC, dI) vwCl [(e, .inl (cI, 16, .inl es)), (x, .inl (cI, 16, .inl xs)), (k, .inl (cB, 64, .inl ks)), (h, .inr (1, [.int (nI 20), .int (nI 0), .ref e, .ref x, .ref k, .int ini, .int (nI 0), .int (nI 0), .int (nI 0)]))] H := hP
  have hD : va_D A [(e, .inl (cI, 16, .inl es)), (x, .inl (cI, 16, .inl xs)), (k, .inl (cB, 64, .inl ks)), (h, .inr (1, [.int (nI 20), .int (nI 0), .ref e, .ref x, .ref k, .int ini, .int (nI 0), .int (nI 0), .int (nI 0)]))] := hD
  refine lv_aload_n hx hb dX2_reset_9 rfl (lv_at hl 0 rfl) ?_
  refine z_callvV (wr := [(x, .inl (cI, 16, .inl xs)), (k, .inl (cB, 64, .inl ks))]) (As := []) (rest := []) ⟨hx, hb, hml, hown, hts⟩ (m_X2_resetCounter l dC dI cB cI H.size h e x k (nI 0) ini (nI 0) (nI 0) (nI 0) es) (cwV 0 hts (lw_V q246 q247 q248 q8 q249) rfl rfl rfl hv_X2_resetCounter ⟨Nat.le_of_ble_eq_true rfl, Nat.le_of_ble_eq_true rfl⟩) ⟨zNo_good, trivial⟩ (va_recv hK hP (ci := 1) (q0 := 3) rfl rfl) rfl hl.1 rfl (Nat.le_of_ble_eq_true rfl) dX2_reset_10 ⟨Nat.le_of_ble_eq_true rfl, Nat.le_of_ble_eq_true rfl⟩ hS hK hP hD hA [3, 0] [1, 2] rfl (by decide) rfl (by decide) (by decide) (fun A1 t H locs hB J hS => ?_)
  skip
  obtain ⟨hP, hD⟩ := J _ hB
  clear hB J
  have hP : va_P (dC, dI) vwCl [(x, .inl (cI, 16, .inl xs)), (k, .inl (cB, 64, .inl ks)), (h, .inr (1, [.int (nI 20), .int (nI 0), .ref e, .ref x, .ref k, .int ini, .int (nI 0), .int (nI 0), .int (nI 0)])), (e, .inl (cI, 16, .inl (rst es)))] H := hP
  have hD : va_D A [(x, .inl (cI, 16, .inl xs)), (k, .inl (cB, 64, .inl ks)), (h, .inr (1, [.int (nI 20), .int (nI 0), .ref e, .ref x, .ref k, .int ini, .int (nI 0), .int (nI 0), .int (nI 0)])), (e, .inl (cI, 16, .inl (rst es)))] := hD
  refine lv_aload_n hx hb dX2_reset_13 rfl (lv_at hl 0 rfl) ?_
  refine lv_aload_n hx hb dX2_reset_14 rfl (lv_at hl 0 rfl) ?_
  refine va_get (D := (dC, dI)) (ci := 1) (v := .ref k) (C := RX2) (T := TX2) (N := 9) hx hb hts in_X2 hown hK hP 2 rfl rfl 4 (by decide) (hts _ q278) (fun _ h9 => h9) rfl dX2_reset_15 ?_
  refine z_callvV (wr := []) (As := [.ref k]) (rest := []) ⟨hx, hb, hml, hown, hts⟩ (m_X2_generateKeyStream l dC dI cB cI H.size h e x k (nI 0) ini (nI 0) (nI 0) (nI 0) (rst es) xs ks) (cwV 1 hts (lw_V q176 q177 q178 q8 q179) rfl rfl rfl hv_X2_generateKeyStream ⟨Nat.le_of_ble_eq_true rfl, Nat.le_of_ble_eq_true rfl⟩) ⟨zNo_good, trivial⟩ (va_recv hK hP (ci := 1) (q0 := 2) rfl rfl) rfl hl.1 rfl (Nat.le_of_ble_eq_true rfl) dX2_reset_18 ⟨Nat.le_of_ble_eq_true rfl, Nat.le_of_ble_eq_true rfl⟩ hS hK hP hD hA [2, 3, 0, 1] [] rfl (by decide) rfl (by decide) (by decide) (fun A1 t H locs hB J hS => ?_)
  obtain ⟨xt, kt, hk, hB⟩ := hB
  obtain ⟨hP, hD⟩ := J _ hB
  clear hB J
  have hP : va_P (dC, dI) vwCl [(h, .inr (1, [.int (nI 20), .int (nI 0), .ref e, .ref x, .ref k, .int ini, .int (nI 0), .int (nI 0), .int (nI 0)])), (e, .inl (cI, 16, .inl (rst es))), (x, .inl (cI, 16, .inl xt)), (k, .inl (cB, 64, .inl kt))] H := hP
  have hD : va_D A [(h, .inr (1, [.int (nI 20), .int (nI 0), .ref e, .ref x, .ref k, .int ini, .int (nI 0), .int (nI 0), .int (nI 0)])), (e, .inl (cI, 16, .inl (rst es))), (x, .inl (cI, 16, .inl xt)), (k, .inl (cB, 64, .inl kt))] := hD
  exact z_vret hx hb hr hlocks hS (Nat.le_of_ble_eq_true rfl) (Nat.le_of_ble_eq_true rfl) dX2_reset_21 (fun t ht => ⟨xt, kt, hk, zB_of hP hD [0, 1, 2, 3] rfl (by decide) ht⟩)
theorem hd_X2_getNonceSize : yX2_getNonceSize.cls ≠ "java/lang/invoke/MethodHandle" ∧ yX2_getNonceSize.cls ≠ "java/lang/invoke/VarHandle" ∧ (parseMethodDescriptor yX2_getNonceSize.desc).map (fun d => d.parameters.length) = some 0 := by decide +kernel
theorem hv_X2_getNonceSize : yX2_getNonceSize.cls = RX2 ∧ yX2_getNonceSize.cls ≠ "java/lang/invoke/MethodHandle" ∧ yX2_getNonceSize.cls ≠ "java/lang/invoke/VarHandle" ∧ (parseMethodDescriptor yX2_getNonceSize.desc).map (fun d => d.parameters.length) = some 0 := ⟨rfl, hd_X2_getNonceSize⟩
set_option maxHeartbeats 4000000 in
set_option maxRecDepth 100000 in
theorem m_X2_getNonceSize (l : Launch) (dC : Nat → ClassId) (dI : Nat → Nat → Nat) (cB cI : ClassId) (sz : Nat) (h : Nat) : zRi l yX2_getNonceSize cX2_getNonceSize 1 (some .int) 0 0 [.ref h] zNo (dC, dI) cB cI sz [] (nI 8) := by
  refine z_ofR (C := RX2) rfl (by decide +kernel) (Nat.le_of_ble_eq_true rfl) ?_
  intro pr ev s m below meth c A hx hb hr hlocks hml hown hname hts hK hP hD hA hE hS ls hl
  have hl : lv_has ls 1 [(0, .ref h)] := hl
  refine lv_bipush (v := nI 8) hx hb dX2_getNonceSize_0 (by decide) ?_
  exact z_iretR hx hb hr hlocks rfl rfl dX2_getNonceSize_2
theorem hd_X2_returnByte : yX2_returnByte.cls ≠ "java/lang/invoke/MethodHandle" ∧ yX2_returnByte.cls ≠ "java/lang/invoke/VarHandle" ∧ (parseMethodDescriptor yX2_returnByte.desc).map (fun d => d.parameters.length) = some 1 := by decide +kernel
theorem hv_X2_returnByte : yX2_returnByte.cls = RX2 ∧ yX2_returnByte.cls ≠ "java/lang/invoke/MethodHandle" ∧ yX2_returnByte.cls ≠ "java/lang/invoke/VarHandle" ∧ (parseMethodDescriptor yX2_returnByte.desc).map (fun d => d.parameters.length) = some 1 := ⟨rfl, hd_X2_returnByte⟩
set_option maxHeartbeats 4000000 in
set_option maxRecDepth 100000 in
theorem m_X2_returnByte (l : Launch) (dC : Nat → ClassId) (dI : Nat → Nat → Nat) (cB cI : ClassId) (sz : Nat) (h e x k : Nat) (ini : Int32) (q : Nat) (E xs ks : Nat → Int32) (b : Int32) (hq : q < 4096) (hk : zKs (advs (q / 64) E) ks) : zMi l yX2_returnByte cX2_returnByte 3 (some .byte) 4 160 0 0 [.ref h, .int b] zNo (dC, dI) cB cI sz [(h, .inr (1, [.int (nI 20), .int (nI (q % 64)), .ref e, .ref x, .ref k, .int ini, .int (nI q), .int (nI 0), .int (nI 0)])), (e, .inl (cI, 16, .inl (advs (q / 64) E))), (x, .inl (cI, 16, .inl xs)), (k, .inl (cB, 64, .inl ks))] (bt8 (strm E q ^^^ b)) (fun A t => ∃ (xt kt : Nat → Int32), zKs (advs ((q + 1) / 64) E) kt ∧ zB (dC, dI) A [(h, .inr (1, [.int (nI 20), .int (nI ((q + 1) % 64)), .ref e, .ref x, .ref k, .int ini, .int (nI (q + 1)), .int (nI 0), .int (nI 0)])), (e, .inl (cI, 16, .inl (advs ((q + 1) / 64) E))), (x, .inl (cI, 16, .inl xt)), (k, .inl (cB, 64, .inl kt))] t) := by
  refine z_ofi (C := RX2) rfl (by decide +kernel) (Nat.le_of_ble_eq_true rfl) ?_
  intro pr ev s m below meth c A hx hb hr hlocks hml hown hname hts hK hP hD hA hE hS ls hl
  have hl : lv_has ls 3 [(0, .ref h), (1, .int b)] := hl
  refine lv_aload_n hx hb dX2_returnByte_0 rfl (lv_at hl 0 rfl) ?_
  refine z_calliV (wr := [(e, .inl (cI, 16, .inl (advs (q / 64) E))), (x, .inl (cI, 16, .inl xs)), (k, .inl (cB, 64, .inl ks))]) (As := []) (rest := []) ⟨hx, hb, hml, hown, hts⟩ (m_X2_limitExceeded_2 l dC dI cB cI s.heap.size h e x k (nI (q % 64)) ini (nI 0) (nI 0) q hq) (cwV 0 hts (lw_V q229 q231 qs4 q8 q232) rfl rfl rfl hv_X2_limitExceeded_2 ⟨Nat.le_of_ble_eq_true rfl, Nat.le_of_ble_eq_true rfl⟩) ⟨zNo_good, trivial⟩ (va_recv hK hP (ci := 1) (q0 := 0) rfl rfl) rfl hl.1 rfl (Nat.le_of_ble_eq_true rfl) dX2_returnByte_1 ⟨Nat.le_of_ble_eq_true rfl, Nat.le_of_ble_eq_true rfl⟩ hS hK hP hD hA [0] [1, 2, 3] rfl (by decide) rfl (by decide) (by decide) (fun A1 t H locs hB J hS => ?_)
  skip
  obtain ⟨hP, hD⟩ := J _ hB
  clear hB J
  have hP : va_P (dC, dI) vwCl [(e, .inl (cI, 16, .inl (advs (q / 64) E))), (x, .inl (cI, 16, .inl xs)), (k, .inl (cB, 64, .inl ks)), (h, .inr (1, [.int (nI 20), .int (nI (q % 64)), .ref e, .ref x, .ref k, .int ini, .int (nI (q + 1)), .int (nI 0), .int (nI 0)]))] H := hP
  have hD : va_D A [(e, .inl (cI, 16, .inl (advs (q / 64) E))), (x, .inl (cI, 16, .inl xs)), (k, .inl (cB, 64, .inl ks)), (h, .inr (1, [.int (nI 20), .int (nI (q % 64)), .ref e, .ref x, .ref k, .int ini, .int (nI (q + 1)), .int (nI 0), .int (nI 0)]))] := hD
  refine lv_if_eq (tgt := 17) hx hb dX2_returnByte_4 (by decide) (fun _ => ?_) (fun hc => absurd nI_0 hc)
  refine lv_aload_n hx hb dX2_returnByte_17 rfl (lv_at hl 0 rfl) ?_
  refine va_get (D := (dC, dI)) (ci := 1) (v := .ref k) (C := RX2) (T := TX2) (N := 9) hx hb hts in_X2 hown hK hP 3 rfl rfl 4 (by decide) (hts _ q278) (fun _ h9 => h9) rfl dX2_returnByte_18 ?_
  refine lv_aload_n hx hb dX2_returnByte_21 rfl (lv_at hl 0 rfl) ?_
  refine va_get (D := (dC, dI)) (ci := 1) (v := .int (nI (q % 64))) (C := RX2) (T := TX2) (N := 9) hx hb hts in_X2 hown hK hP 3 rfl rfl 1 (by decide) (hts _ q275) (fun _ h9 => h9) rfl dX2_returnByte_22 ?_
  refine z_bald (k := (q % 64)) (v := strm E q) hx hb hK hP 2 0 rfl rfl (Nat.mod_lt _ (by decide)) (by decide) (hk _ (Nat.mod_lt _ (by decide))) dX2_returnByte_25 ?_
  refine lv_iload_n hx hb dX2_returnByte_26 rfl (lv_at hl 1 rfl) ?_
  refine lv_ixor hx hb dX2_returnByte_27 ?_
  refine lv_i2b (v := bt8 ((strm E q) ^^^ b)) hx hb dX2_returnByte_28 rfl ?_
  refine lv_istore_n (lv' := [(2, .int (bt8 ((strm E q) ^^^ b))), (0, .ref h), (1, .int b)]) hx hb dX2_returnByte_29 rfl hl (by decide) rfl (fun ls hl => ?_)
  refine lv_aload_n hx hb dX2_returnByte_30 rfl (lv_at hl 1 rfl) ?_
  refine lv_aload_n hx hb dX2_returnByte_31 rfl (lv_at hl 1 rfl) ?_
  refine va_get (D := (dC, dI)) (ci := 1) (v := .int (nI (q % 64))) (C := RX2) (T := TX2) (N := 9) hx hb hts in_X2 hown hK hP 3 rfl rfl 1 (by decide) (hts _ q275) (fun _ h9 => h9) rfl dX2_returnByte_32 ?_
  refine lv_iconst (v := nI 1) hx hb dX2_returnByte_35 (by decide) ?_
  refine lv_iadd hx hb dX2_returnByte_36 ?_
  refine z_top (y := nI (q % 64 + 1)) (nI_add _ 1) ?_
  refine lv_bipush (v := 63) hx hb dX2_returnByte_37 (by decide) ?_
  refine lv_iand hx hb dX2_returnByte_39 ?_
  refine z_top (y := nI ((q + 1) % 64)) (z_and63 (by omega)) ?_
  refine va_put (D := (dC, dI)) (ci := 1) (v := .int (nI ((q + 1) % 64))) (ty := .int) (C := RX2) (T := TX2) (N := 9) hx hb hts in_X2 tyX2 tyX2_ok nmX2 hown hK hP hD hS 3 rfl rfl 1 (by decide) (hts _ q275) (fun _ h9 => h9) rfl (by decide +kernel) rfl rfl (Nat.le_of_ble_eq_true rfl) dX2_returnByte_40 (fun H locs hP hD hS => ?_)
  have hP : va_P (dC, dI) vwCl [(e, .inl (cI, 16, .inl (advs (q / 64) E))), (x, .inl (cI, 16, .inl xs)), (k, .inl (cB, 64, .inl ks)), (h, .inr (1, [.int (nI 20), .int (nI ((q + 1) % 64)), .ref e, .ref x, .ref k, .int ini, .int (nI (q + 1)), .int (nI 0), .int (nI 0)]))] H := hP
  have hD : va_D A [(e, .inl (cI, 16, .inl (advs (q / 64) E))), (x, .inl (cI, 16, .inl xs)), (k, .inl (cB, 64, .inl ks)), (h, .inr (1, [.int (nI 20), .int (nI ((q + 1) % 64)), .ref e, .ref x, .ref k, .int ini, .int (nI (q + 1)), .int (nI 0), .int (nI 0)]))] := hD
  refine lv_aload_n hx hb dX2_returnByte_43 rfl (lv_at hl 1 rfl) ?_
  refine va_get (D := (dC, dI)) (ci := 1) (v := .int (nI ((q + 1) % 64))) (C := RX2) (T := TX2) (N := 9) hx hb hts in_X2 hown hK hP 3 rfl rfl 1 (by decide) (hts _ q275) (fun _ h9 => h9) rfl dX2_returnByte_44 ?_
  refine lv_if_ne (tgt := 62) hx hb dX2_returnByte_47 (by decide) (fun hc => ?_) (fun hc => ?_)
  · have hne : (q + 1) % 64 ≠ 0 := fun h => hc (by rw [h]; exact nI_0)
    have h64 : (q + 1) / 64 = q / 64 := by omega
    rw [← h64] at hP hD hk
    refine lv_iload_n hx hb dX2_returnByte_62 rfl (lv_at hl 0 rfl) ?_
    exact z_iret hx hb hr hlocks (pk_nb _) rfl hS (Nat.le_of_ble_eq_true rfl) (Nat.le_of_ble_eq_true rfl) dX2_returnByte_63 (fun t ht => ⟨xs, ks, hk, zB_of hP hD [3, 0, 1, 2] rfl (by decide) ht⟩)
  · have hne : (q + 1) % 64 = 0 := z_nI0 hc (by omega)
    have h64 : (q + 1) / 64 = q / 64 + 1 := by omega
    refine lv_aload_n hx hb dX2_returnByte_50 rfl (lv_at hl 1 rfl) ?_
    refine z_callvV (wr := [(x, .inl (cI, 16, .inl xs)), (k, .inl (cB, 64, .inl ks))]) (As := []) (rest := []) ⟨hx, hb, hml, hown, hts⟩ (m_X2_advanceCounter l dC dI cB cI H.size h e x k (nI ((q + 1) % 64)) ini (nI (q + 1)) (nI 0) (nI 0) (advs (q / 64) E)) (cwV 0 hts (lw_V q172 q173 q174 q8 q175) rfl rfl rfl hv_X2_advanceCounter ⟨Nat.le_of_ble_eq_true rfl, Nat.le_of_ble_eq_true rfl⟩) ⟨zNo_good, trivial⟩ (va_recv hK hP (ci := 1) (q0 := 3) rfl rfl) rfl hl.1 rfl (Nat.le_of_ble_eq_true rfl) dX2_returnByte_51 ⟨Nat.le_of_ble_eq_true rfl, Nat.le_of_ble_eq_true rfl⟩ hS hK hP hD hA [3, 0] [1, 2] rfl (by decide) rfl (by decide) (by decide) (fun A1 t H locs hB J hS => ?_)
    skip
    obtain ⟨hP, hD⟩ := J _ hB
    clear hB J
    have hP : va_P (dC, dI) vwCl [(x, .inl (cI, 16, .inl xs)), (k, .inl (cB, 64, .inl ks)), (h, .inr (1, [.int (nI 20), .int (nI ((q + 1) % 64)), .ref e, .ref x, .ref k, .int ini, .int (nI (q + 1)), .int (nI 0), .int (nI 0)])), (e, .inl (cI, 16, .inl (advs (q / 64 + 1) E)))] H := hP
    have hD : va_D A [(x, .inl (cI, 16, .inl xs)), (k, .inl (cB, 64, .inl ks)), (h, .inr (1, [.int (nI 20), .int (nI ((q + 1) % 64)), .ref e, .ref x, .ref k, .int ini, .int (nI (q + 1)), .int (nI 0), .int (nI 0)])), (e, .inl (cI, 16, .inl (advs (q / 64 + 1) E)))] := hD
    rw [← h64] at hP hD
    refine lv_aload_n hx hb dX2_returnByte_54 rfl (lv_at hl 1 rfl) ?_
    refine lv_aload_n hx hb dX2_returnByte_55 rfl (lv_at hl 1 rfl) ?_
    refine va_get (D := (dC, dI)) (ci := 1) (v := .ref k) (C := RX2) (T := TX2) (N := 9) hx hb hts in_X2 hown hK hP 2 rfl rfl 4 (by decide) (hts _ q278) (fun _ h9 => h9) rfl dX2_returnByte_56 ?_
    refine z_callvV (wr := []) (As := [.ref k]) (rest := []) ⟨hx, hb, hml, hown, hts⟩ (m_X2_generateKeyStream l dC dI cB cI H.size h e x k (nI ((q + 1) % 64)) ini (nI (q + 1)) (nI 0) (nI 0) (advs ((q + 1) / 64) E) xs ks) (cwV 1 hts (lw_V q176 q177 q178 q8 q179) rfl rfl rfl hv_X2_generateKeyStream ⟨Nat.le_of_ble_eq_true rfl, Nat.le_of_ble_eq_true rfl⟩) ⟨zNo_good, trivial⟩ (va_recv hK hP (ci := 1) (q0 := 2) rfl rfl) rfl hl.1 rfl (Nat.le_of_ble_eq_true rfl) dX2_returnByte_59 ⟨Nat.le_of_ble_eq_true rfl, Nat.le_of_ble_eq_true rfl⟩ hS hK hP hD hA [2, 3, 0, 1] [] rfl (by decide) rfl (by decide) (by decide) (fun A1 t H locs hB J hS => ?_)
    obtain ⟨xt, kt, hk2, hB⟩ := hB
    obtain ⟨hP, hD⟩ := J _ hB
    clear hB J
    have hP : va_P (dC, dI) vwCl [(h, .inr (1, [.int (nI 20), .int (nI ((q + 1) % 64)), .ref e, .ref x, .ref k, .int ini, .int (nI (q + 1)), .int (nI 0), .int (nI 0)])), (e, .inl (cI, 16, .inl (advs ((q + 1) / 64) E))), (x, .inl (cI, 16, .inl xt)), (k, .inl (cB, 64, .inl kt))] H := hP
    have hD : va_D A [(h, .inr (1, [.int (nI 20), .int (nI ((q + 1) % 64)), .ref e, .ref x, .ref k, .int ini, .int (nI (q + 1)), .int (nI 0), .int (nI 0)])), (e, .inl (cI, 16, .inl (advs ((q + 1) / 64) E))), (x, .inl (cI, 16, .inl xt)), (k, .inl (cB, 64, .inl kt))] := hD
    refine lv_iload_n hx hb dX2_returnByte_62 rfl (lv_at hl 0 rfl) ?_
    exact z_iret hx hb hr hlocks (pk_nb _) rfl hS (Nat.le_of_ble_eq_true rfl) (Nat.le_of_ble_eq_true rfl) dX2_returnByte_63 (fun t ht => ⟨xt, kt, hk2, zB_of hP hD [0, 1, 2, 3] rfl (by decide) ht⟩)
theorem hd_X2_processBytes : yX2_processBytes.cls ≠ "java/lang/invoke/MethodHandle" ∧ yX2_processBytes.cls ≠ "java/lang/invoke/VarHandle" ∧ (parseMethodDescriptor yX2_processBytes.desc).map (fun d => d.parameters.length) = some 5 := by decide +kernel
theorem hv_X2_processBytes : yX2_processBytes.cls = RX2 ∧ yX2_processBytes.cls ≠ "java/lang/invoke/MethodHandle" ∧ yX2_processBytes.cls ≠ "java/lang/invoke/VarHandle" ∧ (parseMethodDescriptor yX2_processBytes.desc).map (fun d => d.parameters.length) = some 5 := ⟨rfl, hd_X2_processBytes⟩
set_option maxHeartbeats 4000000 in
set_option maxRecDepth 100000 in
theorem m_X2_processBytes (l : Launch) (dC : Nat → ClassId) (dI : Nat → Nat → Nat) (cB cI : ClassId) (sz : Nat) (h e x k a o : Nat) (q na f0 n : Nat) (E xs ks ft fz : Nat → Int32) (hq : q + n ≤ 4096) (hf : f0 + n ≤ na) (hna : na ≤ 4096) (hk0 : zKs (advs (q / 64) E) ks) : zMi l yX2_processBytes cX2_processBytes 7 (some .int) 4 160 0 0 [.ref h, .ref a, .int (nI f0), .int (nI n), .ref o, .int (nI 0)] zNo (dC, dI) cB cI sz [(h, .inr (1, [.int (nI 20), .int (nI (q % 64)), .ref e, .ref x, .ref k, .int (nI 1), .int (nI q), .int (nI 0), .int (nI 0)])), (e, .inl (cI, 16, .inl (advs (q / 64) E))), (x, .inl (cI, 16, .inl xs)), (k, .inl (cB, 64, .inl ks)), (a, .inl (cB, na, .inl ft)), (o, .inl (cB, n, .inl fz))] (nI n) (fun A t => ∃ (xt kt fo : Nat → Int32), zKs (advs ((q + n) / 64) E) kt ∧ (∀ j, j < n → fo j = bt8 (strm E (q + j) ^^^ ft (f0 + j))) ∧ zB (dC, dI) A [(h, .inr (1, [.int (nI 20), .int (nI ((q + n) % 64)), .ref e, .ref x, .ref k, .int (nI 1), .int (nI (q + n)), .int (nI 0), .int (nI 0)])), (e, .inl (cI, 16, .inl (advs ((q + n) / 64) E))), (x, .inl (cI, 16, .inl xt)), (k, .inl (cB, 64, .inl kt)), (a, .inl (cB, na, .inl ft)), (o, .inl (cB, n, .inl fo))] t) := by
  refine z_ofi (C := RX2) rfl (by decide +kernel) (Nat.le_of_ble_eq_true rfl) ?_
  intro pr ev s m below meth c A hx hb hr hlocks hml hown hname hts hK hP hD hA hE hS ls hl
  have hl : lv_has ls 7 [(0, .ref h), (1, .ref a), (2, .int (nI f0)), (3, .int (nI n)), (4, .ref o), (5, .int (nI 0))] := hl
  refine lv_aload_n hx hb dX2_processBytes_0 rfl (lv_at hl 0 rfl) ?_
  refine va_get (D := (dC, dI)) (ci := 1) (v := .int (nI 1)) (C := RX2) (T := TX2) (N := 9) hx hb hts in_X2 hown hK hP 0 rfl rfl 5 (by decide) (hts _ q279) (fun _ h9 => h9) rfl dX2_processBytes_1 ?_
  refine lv_if_ne (tgt := 17) hx hb dX2_processBytes_4 (by decide) (fun _ => ?_) (fun hc => absurd hc (by decide))
  refine lv_iload_n hx hb dX2_processBytes_17 rfl (lv_at hl 2 rfl) ?_
  refine lv_iload_n hx hb dX2_processBytes_18 rfl (lv_at hl 3 rfl) ?_
  refine lv_iadd hx hb dX2_processBytes_19 ?_
  refine z_top (y := nI (f0 + n)) (nI_add f0 n) ?_
  refine lv_aload_n hx hb dX2_processBytes_20 rfl (lv_at hl 1 rfl) ?_
  refine va_alen (v := nI na) hx hb hK hP 4 0 rfl rfl rfl dX2_processBytes_21 ?_
  refine lv_icmp_le (tgt := 35) hx hb dX2_processBytes_22 (by decide) (fun _ => ?_) (fun hc => absurd (nI_le (by omega) (by omega)) hc)
  refine lv_iload hx hb dX2_processBytes_35 (lv_at hl 5 rfl) ?_
  refine lv_iload_n hx hb dX2_processBytes_37 rfl (lv_at hl 3 rfl) ?_
  refine lv_iadd hx hb dX2_processBytes_38 ?_
  refine z_top (y := nI (0 + n)) (nI_add 0 n) ?_
  refine lv_aload hx hb dX2_processBytes_39 (lv_at hl 4 rfl) ?_
  refine va_alen (v := nI n) hx hb hK hP 5 0 rfl rfl rfl dX2_processBytes_41 ?_
  refine lv_icmp_le (tgt := 55) hx hb dX2_processBytes_42 (by decide) (fun _ => ?_) (fun hc => absurd (nI_le (by omega) (by omega)) hc)
  refine lv_aload_n hx hb dX2_processBytes_55 rfl (lv_at hl 0 rfl) ?_
  refine lv_iload_n hx hb dX2_processBytes_56 rfl (lv_at hl 3 rfl) ?_
  refine z_calliV (wr := [(e, .inl (cI, 16, .inl (advs (q / 64) E))), (x, .inl (cI, 16, .inl xs)), (k, .inl (cB, 64, .inl ks)), (a, .inl (cB, na, .inl ft)), (o, .inl (cB, n, .inl fz))]) (As := [.int (nI n)]) (rest := []) ⟨hx, hb, hml, hown, hts⟩ (m_X2_limitExceeded l dC dI cB cI s.heap.size h e x k (nI (q % 64)) (nI 1) (nI 0) (nI 0) q n (by omega)) (cwV 1 hts (lw_V q151 q153 qs3 q8 q155) rfl rfl rfl hv_X2_limitExceeded ⟨Nat.le_of_ble_eq_true rfl, Nat.le_of_ble_eq_true rfl⟩) ⟨zNo_good, trivial⟩ (va_recv hK hP (ci := 1) (q0 := 0) rfl rfl) rfl hl.1 rfl (Nat.le_of_ble_eq_true rfl) dX2_processBytes_57 ⟨Nat.le_of_ble_eq_true rfl, Nat.le_of_ble_eq_true rfl⟩ hS hK hP hD hA [0] [1, 2, 3, 4, 5] rfl (by decide) rfl (by decide) (by decide) (fun A1 t H locs hB J hS => ?_)
  skip
  obtain ⟨hP, hD⟩ := J _ hB
  clear hB J
  have hP : va_P (dC, dI) vwCl [(e, .inl (cI, 16, .inl (advs (q / 64) E))), (x, .inl (cI, 16, .inl xs)), (k, .inl (cB, 64, .inl ks)), (a, .inl (cB, na, .inl ft)), (o, .inl (cB, n, .inl fz)), (h, .inr (1, [.int (nI 20), .int (nI (q % 64)), .ref e, .ref x, .ref k, .int (nI 1), .int (nI (q + n)), .int (nI 0), .int (nI 0)]))] H := hP
  have hD : va_D A [(e, .inl (cI, 16, .inl (advs (q / 64) E))), (x, .inl (cI, 16, .inl xs)), (k, .inl (cB, 64, .inl ks)), (a, .inl (cB, na, .inl ft)), (o, .inl (cB, n, .inl fz)), (h, .inr (1, [.int (nI 20), .int (nI (q % 64)), .ref e, .ref x, .ref k, .int (nI 1), .int (nI (q + n)), .int (nI 0), .int (nI 0)]))] := hD
  refine lv_if_eq (tgt := 73) hx hb dX2_processBytes_60 (by decide) (fun _ => ?_) (fun hc => absurd nI_0 hc)
  refine lv_iconst (v := nI 0) hx hb dX2_processBytes_73 (by decide) ?_
  refine lv_istore (lv' := [(6, .int (nI 0)), (0, .ref h), (1, .ref a), (2, .int (nI f0)), (3, .int (nI n)), (4, .ref o), (5, .int (nI 0))]) hx hb dX2_processBytes_74 hl (by decide) rfl (fun ls hl => ?_)
  have hP := z_subP hP [5, 0, 1, 2, 3, 4] (ws' := [(h, .inr (1, [.int (nI 20), .int (nI (q % 64)), .ref e, .ref x, .ref k, .int (nI 1), .int (nI (q + n)), .int (nI 0), .int (nI 0)])), (e, .inl (cI, 16, .inl (advs (q / 64) E))), (x, .inl (cI, 16, .inl xs)), (k, .inl (cB, 64, .inl ks)), (a, .inl (cB, na, .inl ft)), (o, .inl (cB, n, .inl fz))]) rfl
  have hD := hD.sub (ws' := [(h, .inr (1, [.int (nI 20), .int (nI (q % 64)), .ref e, .ref x, .ref k, .int (nI 1), .int (nI (q + n)), .int (nI 0), .int (nI 0)])), (e, .inl (cI, 16, .inl (advs (q / 64) E))), (x, .inl (cI, 16, .inl xs)), (k, .inl (cB, 64, .inl ks)), (a, .inl (cB, na, .inl ft)), (o, .inl (cB, n, .inl fz))]) [5, 0, 1, 2, 3, 4] (by decide) rfl
  have loop : ∀ (r i : Nat), i + r = n → ∀ (xs ks fo : Nat → Int32), zKs (advs ((q + i) / 64) E) ks → (∀ j, j < i → fo j = bt8 (strm E (q + j) ^^^ ft (f0 + j))) → ∀ (H : Heap) (locs : List Loc) (ls : Array Slot), va_P (dC, dI) vwCl [(h, .inr (1, [.int (nI 20), .int (nI ((q + i) % 64)), .ref e, .ref x, .ref k, .int (nI 1), .int (nI (q + n)), .int (nI 0), .int (nI 0)])), (e, .inl (cI, 16, .inl (advs ((q + i) / 64) E))), (x, .inl (cI, 16, .inl xs)), (k, .inl (cB, 64, .inl ks)), (a, .inl (cB, na, .inl ft)), (o, .inl (cB, n, .inl fo))] H → va_D A [(h, .inr (1, [.int (nI 20), .int (nI ((q + i) % 64)), .ref e, .ref x, .ref k, .int (nI 1), .int (nI (q + n)), .int (nI 0), .int (nI 0)])), (e, .inl (cI, 16, .inl (advs ((q + i) / 64) E))), (x, .inl (cI, 16, .inl xs)), (k, .inl (cB, 64, .inl ks)), (a, .inl (cB, na, .inl ft)), (o, .inl (cB, n, .inl fo))] → va_S A s.heap H locs → lv_has ls 7 [(0, .ref h), (1, .ref a), (2, .int (nI f0)), (3, .int (nI n)), (4, .ref o), (5, .int (nI 0)), (6, .int (nI i))] → W pr l ev (zRm 4 160 0 0) s m ([.ref h, .ref a, .int (nI f0), .int (nI n), .ref o, .int (nI 0)] : List Value).toArray below meth c H locs (0) (0) (zQi below (nI n) (fun A t => ∃ (xt kt fo : Nat → Int32), zKs (advs ((q + n) / 64) E) kt ∧ (∀ j, j < n → fo j = bt8 (strm E (q + j) ^^^ ft (f0 + j))) ∧ zB (dC, dI) A [(h, .inr (1, [.int (nI 20), .int (nI ((q + n) % 64)), .ref e, .ref x, .ref k, .int (nI 1), .int (nI (q + n)), .int (nI 0), .int (nI 0)])), (e, .inl (cI, 16, .inl (advs ((q + n) / 64) E))), (x, .inl (cI, 16, .inl xt)), (k, .inl (cB, 64, .inl kt)), (a, .inl (cB, na, .inl ft)), (o, .inl (cB, n, .inl fo))] t) A [.ref h, .ref a, .int (nI f0), .int (nI n), .ref o, .int (nI 0)] s 0 0) (F0 m 76 ls []) := by
    intro r
    induction r with
    | zero =>
      intro i hi xs ks fo hk hfo H locs ls hP hD hS hl
      obtain rfl : i = n := by omega
      refine lv_iload hx hb dX2_processBytes_76 (lv_at hl 6 rfl) ?_
      refine lv_iload_n hx hb dX2_processBytes_78 rfl (lv_at hl 3 rfl) ?_
      refine lv_icmp_ge (tgt := 145) hx hb dX2_processBytes_79 (by decide) (fun _ => ?_) (fun hc => absurd (nI_le (Nat.le_refl _) (by omega)) hc)
      refine lv_iload_n hx hb dX2_processBytes_145 rfl (lv_at hl 3 rfl) ?_
      exact z_iret hx hb hr hlocks rfl rfl hS (Nat.le_of_ble_eq_true rfl) (Nat.le_of_ble_eq_true rfl) dX2_processBytes_146 (fun t ht => ⟨xs, ks, fo, hk, hfo, zB_of hP hD [0, 1, 2, 3, 4, 5] rfl (by decide) ht⟩)
    | succ r ih =>
      intro i hi xs ks fo hk hfo H locs ls hP hD hS hl
      refine lv_iload hx hb dX2_processBytes_76 (lv_at hl 6 rfl) ?_
      refine lv_iload_n hx hb dX2_processBytes_78 rfl (lv_at hl 3 rfl) ?_
      refine lv_icmp_ge (tgt := 145) hx hb dX2_processBytes_79 (by decide) (fun hc => absurd hc (nI_ge (by omega) (by omega))) (fun _ => ?_)
      refine lv_aload hx hb dX2_processBytes_82 (lv_at hl 4 rfl) ?_
      refine lv_iload hx hb dX2_processBytes_84 (lv_at hl 6 rfl) ?_
      refine lv_iload hx hb dX2_processBytes_86 (lv_at hl 5 rfl) ?_
      refine lv_iadd hx hb dX2_processBytes_88 ?_
      refine z_top (y := nI i) (nI_add i 0) ?_
      refine lv_aload_n hx hb dX2_processBytes_89 rfl (lv_at hl 0 rfl) ?_
      refine va_get (D := (dC, dI)) (ci := 1) (v := .ref k) (C := RX2) (T := TX2) (N := 9) hx hb hts in_X2 hown hK hP 0 rfl rfl 4 (by decide) (hts _ q278) (fun _ h9 => h9) rfl dX2_processBytes_90 ?_
      refine lv_aload_n hx hb dX2_processBytes_93 rfl (lv_at hl 0 rfl) ?_
      refine va_get (D := (dC, dI)) (ci := 1) (v := .int (nI ((q + i) % 64))) (C := RX2) (T := TX2) (N := 9) hx hb hts in_X2 hown hK hP 0 rfl rfl 1 (by decide) (hts _ q275) (fun _ h9 => h9) rfl dX2_processBytes_94 ?_
      refine z_bald (k := ((q + i) % 64)) (v := strm E (q + i)) hx hb hK hP 3 0 rfl rfl (Nat.mod_lt _ (by decide)) (by decide) (hk _ (Nat.mod_lt _ (by decide))) dX2_processBytes_97 ?_
      refine lv_aload_n hx hb dX2_processBytes_98 rfl (lv_at hl 1 rfl) ?_
      refine lv_iload hx hb dX2_processBytes_99 (lv_at hl 6 rfl) ?_
      refine lv_iload_n hx hb dX2_processBytes_101 rfl (lv_at hl 2 rfl) ?_
      refine lv_iadd hx hb dX2_processBytes_102 ?_
      refine z_top (y := nI (f0 + i)) ((nI_add i f0).trans (congrArg nI (Nat.add_comm i f0))) ?_
      refine z_bald (k := (f0 + i)) (v := ft (f0 + i)) hx hb hK hP 4 0 rfl rfl (by omega) (by omega) rfl dX2_processBytes_103 ?_
      refine lv_ixor hx hb dX2_processBytes_104 ?_
      refine lv_i2b (v := bt8 ((strm E (q + i)) ^^^ (ft (f0 + i)))) hx hb dX2_processBytes_105 rfl ?_
      refine z_bast (k := i) (v := bt8 ((strm E (q + i)) ^^^ (ft (f0 + i)))) (g := upd fo i (bt8 (strm E (q + i) ^^^ ft (f0 + i)))) hx hb hK hP hD hS 5 0 rfl rfl (by omega) (by omega) (vp_bt8 _) rfl dX2_processBytes_106 (fun H locs hP hD hS => ?_)
      have hP : va_P (dC, dI) vwCl [(h, .inr (1, [.int (nI 20), .int (nI ((q + i) % 64)), .ref e, .ref x, .ref k, .int (nI 1), .int (nI (q + n)), .int (nI 0), .int (nI 0)])), (e, .inl (cI, 16, .inl (advs ((q + i) / 64) E))), (x, .inl (cI, 16, .inl xs)), (k, .inl (cB, 64, .inl ks)), (a, .inl (cB, na, .inl ft)), (o, .inl (cB, n, .inl (upd fo i (bt8 (strm E (q + i) ^^^ ft (f0 + i))))))] H := hP
      have hD : va_D A [(h, .inr (1, [.int (nI 20), .int (nI ((q + i) % 64)), .ref e, .ref x, .ref k, .int (nI 1), .int (nI (q + n)), .int (nI 0), .int (nI 0)])), (e, .inl (cI, 16, .inl (advs ((q + i) / 64) E))), (x, .inl (cI, 16, .inl xs)), (k, .inl (cB, 64, .inl ks)), (a, .inl (cB, na, .inl ft)), (o, .inl (cB, n, .inl (upd fo i (bt8 (strm E (q + i) ^^^ ft (f0 + i))))))] := hD
      have hfo1 : ∀ j, j < i + 1 → upd fo i (bt8 (strm E (q + i) ^^^ ft (f0 + i))) j = bt8 (strm E (q + j) ^^^ ft (f0 + j)) := z_updN hfo
      generalize upd fo i (bt8 (strm E (q + i) ^^^ ft (f0 + i))) = fo1 at hP hD hfo1
      refine lv_aload_n hx hb dX2_processBytes_107 rfl (lv_at hl 0 rfl) ?_
      refine lv_aload_n hx hb dX2_processBytes_108 rfl (lv_at hl 0 rfl) ?_
      refine va_get (D := (dC, dI)) (ci := 1) (v := .int (nI ((q + i) % 64))) (C := RX2) (T := TX2) (N := 9) hx hb hts in_X2 hown hK hP 0 rfl rfl 1 (by decide) (hts _ q275) (fun _ h9 => h9) rfl dX2_processBytes_109 ?_
      refine lv_iconst (v := nI 1) hx hb dX2_processBytes_112 (by decide) ?_
      refine lv_iadd hx hb dX2_processBytes_113 ?_
      refine z_top (y := nI ((q + i) % 64 + 1)) (nI_add _ 1) ?_
      refine lv_bipush (v := 63) hx hb dX2_processBytes_114 (by decide) ?_
      refine lv_iand hx hb dX2_processBytes_116 ?_
      refine z_top (y := nI ((q + (i + 1)) % 64)) (z_and63 (by omega)) ?_
      refine va_put (D := (dC, dI)) (ci := 1) (v := .int (nI ((q + (i + 1)) % 64))) (ty := .int) (C := RX2) (T := TX2) (N := 9) hx hb hts in_X2 tyX2 tyX2_ok nmX2 hown hK hP hD hS 0 rfl rfl 1 (by decide) (hts _ q275) (fun _ h9 => h9) rfl (by decide +kernel) rfl rfl (Nat.le_of_ble_eq_true rfl) dX2_processBytes_117 (fun H locs hP hD hS => ?_)
      have hP : va_P (dC, dI) vwCl [(h, .inr (1, [.int (nI 20), .int (nI ((q + (i + 1)) % 64)), .ref e, .ref x, .ref k, .int (nI 1), .int (nI (q + n)), .int (nI 0), .int (nI 0)])), (e, .inl (cI, 16, .inl (advs ((q + i) / 64) E))), (x, .inl (cI, 16, .inl xs)), (k, .inl (cB, 64, .inl ks)), (a, .inl (cB, na, .inl ft)), (o, .inl (cB, n, .inl fo1))] H := hP
      have hD : va_D A [(h, .inr (1, [.int (nI 20), .int (nI ((q + (i + 1)) % 64)), .ref e, .ref x, .ref k, .int (nI 1), .int (nI (q + n)), .int (nI 0), .int (nI 0)])), (e, .inl (cI, 16, .inl (advs ((q + i) / 64) E))), (x, .inl (cI, 16, .inl xs)), (k, .inl (cB, 64, .inl ks)), (a, .inl (cB, na, .inl ft)), (o, .inl (cB, n, .inl fo1))] := hD
      refine lv_aload_n hx hb dX2_processBytes_120 rfl (lv_at hl 0 rfl) ?_
      refine va_get (D := (dC, dI)) (ci := 1) (v := .int (nI ((q + (i + 1)) % 64))) (C := RX2) (T := TX2) (N := 9) hx hb hts in_X2 hown hK hP 0 rfl rfl 1 (by decide) (hts _ q275) (fun _ h9 => h9) rfl dX2_processBytes_121 ?_
      refine lv_if_ne (tgt := 139) hx hb dX2_processBytes_124 (by decide) (fun hc => ?_) (fun hc => ?_)
      · have hne : (q + (i + 1)) % 64 ≠ 0 := fun h => hc (by rw [h]; exact nI_0)
        have h64 : (q + (i + 1)) / 64 = (q + i) / 64 := by omega
        rw [← h64] at hP hD hk
        refine lv_iinc (v := nI (i + 1)) (lv' := [(6, .int (nI (i + 1))), (0, .ref h), (1, .ref a), (2, .int (nI f0)), (3, .int (nI n)), (4, .ref o), (5, .int (nI 0))]) hx hb dX2_processBytes_139 hl (k := 6) rfl (z_inc _ 1) (by decide) rfl (fun ls hl => ?_)
        refine lv_goto (tgt := 76) hx hb dX2_processBytes_142 (by decide) ?_
        exact ih (i + 1) (by omega) xs ks fo1 hk hfo1 H locs ls hP hD hS (lv_sub hl [1, 2, 3, 4, 5, 6, 0] rfl)
      · have hne : (q + (i + 1)) % 64 = 0 := z_nI0 hc (by omega)
        have h64 : (q + (i + 1)) / 64 = (q + i) / 64 + 1 := by omega
        refine lv_aload_n hx hb dX2_processBytes_127 rfl (lv_at hl 0 rfl) ?_
        refine z_callvV (wr := [(x, .inl (cI, 16, .inl xs)), (k, .inl (cB, 64, .inl ks)), (a, .inl (cB, na, .inl ft)), (o, .inl (cB, n, .inl fo1))]) (As := []) (rest := []) ⟨hx, hb, hml, hown, hts⟩ (m_X2_advanceCounter l dC dI cB cI H.size h e x k (nI ((q + (i + 1)) % 64)) (nI 1) (nI (q + n)) (nI 0) (nI 0) (advs ((q + i) / 64) E)) (cwV 0 hts (lw_V q172 q173 q174 q8 q175) rfl rfl rfl hv_X2_advanceCounter ⟨Nat.le_of_ble_eq_true rfl, Nat.le_of_ble_eq_true rfl⟩) ⟨zNo_good, trivial⟩ (va_recv hK hP (ci := 1) (q0 := 0) rfl rfl) rfl hl.1 rfl (Nat.le_of_ble_eq_true rfl) dX2_processBytes_128 ⟨Nat.le_of_ble_eq_true rfl, Nat.le_of_ble_eq_true rfl⟩ hS hK hP hD hA [0, 1] [2, 3, 4, 5] rfl (by decide) rfl (by decide) (by decide) (fun A1 t H locs hB J hS => ?_)
        skip
        obtain ⟨hP, hD⟩ := J _ hB
        clear hB J
        have hP : va_P (dC, dI) vwCl [(x, .inl (cI, 16, .inl xs)), (k, .inl (cB, 64, .inl ks)), (a, .inl (cB, na, .inl ft)), (o, .inl (cB, n, .inl fo1)), (h, .inr (1, [.int (nI 20), .int (nI ((q + (i + 1)) % 64)), .ref e, .ref x, .ref k, .int (nI 1), .int (nI (q + n)), .int (nI 0), .int (nI 0)])), (e, .inl (cI, 16, .inl (advs ((q + i) / 64 + 1) E)))] H := hP
        have hD : va_D A [(x, .inl (cI, 16, .inl xs)), (k, .inl (cB, 64, .inl ks)), (a, .inl (cB, na, .inl ft)), (o, .inl (cB, n, .inl fo1)), (h, .inr (1, [.int (nI 20), .int (nI ((q + (i + 1)) % 64)), .ref e, .ref x, .ref k, .int (nI 1), .int (nI (q + n)), .int (nI 0), .int (nI 0)])), (e, .inl (cI, 16, .inl (advs ((q + i) / 64 + 1) E)))] := hD
        rw [← h64] at hP hD
        refine lv_aload_n hx hb dX2_processBytes_131 rfl (lv_at hl 0 rfl) ?_
        refine lv_aload_n hx hb dX2_processBytes_132 rfl (lv_at hl 0 rfl) ?_
        refine va_get (D := (dC, dI)) (ci := 1) (v := .ref k) (C := RX2) (T := TX2) (N := 9) hx hb hts in_X2 hown hK hP 4 rfl rfl 4 (by decide) (hts _ q278) (fun _ h9 => h9) rfl dX2_processBytes_133 ?_
        refine z_callvV (wr := [(a, .inl (cB, na, .inl ft)), (o, .inl (cB, n, .inl fo1))]) (As := [.ref k]) (rest := []) ⟨hx, hb, hml, hown, hts⟩ (m_X2_generateKeyStream l dC dI cB cI H.size h e x k (nI ((q + (i + 1)) % 64)) (nI 1) (nI (q + n)) (nI 0) (nI 0) (advs ((q + (i + 1)) / 64) E) xs ks) (cwV 1 hts (lw_V q176 q177 q178 q8 q179) rfl rfl rfl hv_X2_generateKeyStream ⟨Nat.le_of_ble_eq_true rfl, Nat.le_of_ble_eq_true rfl⟩) ⟨zNo_good, trivial⟩ (va_recv hK hP (ci := 1) (q0 := 4) rfl rfl) rfl hl.1 rfl (Nat.le_of_ble_eq_true rfl) dX2_processBytes_136 ⟨Nat.le_of_ble_eq_true rfl, Nat.le_of_ble_eq_true rfl⟩ hS hK hP hD hA [4, 5, 0, 1] [2, 3] rfl (by decide) rfl (by decide) (by decide) (fun A1 t H locs hB J hS => ?_)
        obtain ⟨xt, kt, hk2, hB⟩ := hB
        obtain ⟨hP, hD⟩ := J _ hB
        clear hB J
        have hP : va_P (dC, dI) vwCl [(a, .inl (cB, na, .inl ft)), (o, .inl (cB, n, .inl fo1)), (h, .inr (1, [.int (nI 20), .int (nI ((q + (i + 1)) % 64)), .ref e, .ref x, .ref k, .int (nI 1), .int (nI (q + n)), .int (nI 0), .int (nI 0)])), (e, .inl (cI, 16, .inl (advs ((q + (i + 1)) / 64) E))), (x, .inl (cI, 16, .inl xt)), (k, .inl (cB, 64, .inl kt))] H := hP
        have hD : va_D A [(a, .inl (cB, na, .inl ft)), (o, .inl (cB, n, .inl fo1)), (h, .inr (1, [.int (nI 20), .int (nI ((q + (i + 1)) % 64)), .ref e, .ref x, .ref k, .int (nI 1), .int (nI (q + n)), .int (nI 0), .int (nI 0)])), (e, .inl (cI, 16, .inl (advs ((q + (i + 1)) / 64) E))), (x, .inl (cI, 16, .inl xt)), (k, .inl (cB, 64, .inl kt))] := hD
        refine lv_iinc (v := nI (i + 1)) (lv' := [(6, .int (nI (i + 1))), (0, .ref h), (1, .ref a), (2, .int (nI f0)), (3, .int (nI n)), (4, .ref o), (5, .int (nI 0))]) hx hb dX2_processBytes_139 hl (k := 6) rfl (z_inc _ 1) (by decide) rfl (fun ls hl => ?_)
        refine lv_goto (tgt := 76) hx hb dX2_processBytes_142 (by decide) ?_
        have hP := z_subP hP [2, 3, 4, 5, 0, 1] (ws' := [(h, .inr (1, [.int (nI 20), .int (nI ((q + (i + 1)) % 64)), .ref e, .ref x, .ref k, .int (nI 1), .int (nI (q + n)), .int (nI 0), .int (nI 0)])), (e, .inl (cI, 16, .inl (advs ((q + (i + 1)) / 64) E))), (x, .inl (cI, 16, .inl xt)), (k, .inl (cB, 64, .inl kt)), (a, .inl (cB, na, .inl ft)), (o, .inl (cB, n, .inl fo1))]) rfl
        have hD := hD.sub (ws' := [(h, .inr (1, [.int (nI 20), .int (nI ((q + (i + 1)) % 64)), .ref e, .ref x, .ref k, .int (nI 1), .int (nI (q + n)), .int (nI 0), .int (nI 0)])), (e, .inl (cI, 16, .inl (advs ((q + (i + 1)) / 64) E))), (x, .inl (cI, 16, .inl xt)), (k, .inl (cB, 64, .inl kt)), (a, .inl (cB, na, .inl ft)), (o, .inl (cB, n, .inl fo1))]) [2, 3, 4, 5, 0, 1] (by decide) rfl
        exact ih (i + 1) (by omega) xt kt fo1 hk2 hfo1 H locs ls hP hD hS (lv_sub hl [1, 2, 3, 4, 5, 6, 0] rfl)
  exact loop n 0 (by omega) xs ks fz hk0 (fun j hj => absurd hj (Nat.not_lt_zero j)) H locs ls hP hD hS (lv_sub hl [1, 2, 3, 4, 5, 6, 0] rfl)
end
section
/-! KeyParameter, ParametersWithIV, Salsa20Engine made and set up -/
set_option maxRecDepth 100000
theorem hd_X4_init_3 : yX4_init_3.cls ≠ "java/lang/invoke/MethodHandle" ∧ yX4_init_3.cls ≠ "java/lang/invoke/VarHandle" ∧ (parseMethodDescriptor yX4_init_3.desc).map (fun d => d.parameters.length) = some 1 := by decide +kernel
set_option maxHeartbeats 4000000 in
set_option maxRecDepth 100000 in
theorem m_X4_init_3 (l : Launch) (dC : Nat → ClassId) (dI : Nat → Nat → Nat) (cB cI : ClassId) (sz : Nat) (h n : Nat) (hn : n ≤ 32) : zMv l yX4_init_3 cX4_init_3 2 none 1 40 1 32 [.ref h, .int (nI n)] zNo (dC, dI) cB cI sz [(h, .inr (3, [.null]))] (fun A t => ∃ (k : Nat), zB (dC, dI) A [(h, .inr (3, [.ref k])), (k, .inl (cB, n, .inl (fun _ => 0)))] t) := by
  refine z_ofv (C := RX4) rfl (by decide +kernel) (Nat.le_of_ble_eq_true rfl) ?_
  intro pr ev s m below meth c A hx hb hr hlocks hml hown hname hts hK hP hD hA hE hS ls hl
  have hl : lv_has ls 2 [(0, .ref h), (1, .int (nI n))] := hl
  refine lv_aload_n hx hb dX4_init_3_0 rfl (lv_at hl 0 rfl) ?_
  refine W.objInit hx hb hown (hts _ q364) (hts _ q68) (hts _ q69) rfl (by rw [hml]; exact hl.1) rfl dX4_init_3_1 (Nat.le_of_ble_eq_true rfl) (Nat.le_of_ble_eq_true rfl) ?_
  refine W.eq (g2 := F0 m 4 ls []) rfl ?_
  refine lv_aload_n hx hb dX4_init_3_4 rfl (lv_at hl 0 rfl) ?_
  refine lv_iload_n hx hb dX4_init_3_5 rfl (lv_at hl 1 rfl) ?_
  refine z_newb (N := n) hx hb (hts _ q113) hK hP hD hS hA (by omega) (Nat.le_of_ble_eq_true rfl) (by show 0 + n ≤ 32; omega) dX4_init_3_6 (fun k H hP hD hS => ?_)
  have hP : va_P (dC, dI) vwCl [(h, .inr (3, [.null])), (k, .inl (cB, n, .inl (fun _ => 0)))] H := hP
  have hD : va_D A [(h, .inr (3, [.null])), (k, .inl (cB, n, .inl (fun _ => 0)))] := hD
  refine va_put (D := (dC, dI)) (ci := 3) (v := .ref k) (ty := .array .byte) (C := RX4) (T := TX4) (N := 1) hx hb hts in_X4 tyX4 tyX4_ok nmX4 hown hK hP hD hS 0 rfl rfl 0 (by decide) (hts _ q365) (fun _ h9 => h9) rfl (by decide +kernel) rfl rfl (Nat.le_of_ble_eq_true rfl) dX4_init_3_8 (fun H locs hP hD hS => ?_)
  have hP : va_P (dC, dI) vwCl [(h, .inr (3, [.ref k])), (k, .inl (cB, n, .inl (fun _ => 0)))] H := hP
  have hD : va_D A [(h, .inr (3, [.ref k])), (k, .inl (cB, n, .inl (fun _ => 0)))] := hD
  exact z_vret hx hb hr hlocks hS (Nat.le_of_ble_eq_true rfl) (by omega) dX4_init_3_11 (fun t ht => ⟨k, zB_of hP hD [0, 1] rfl (by decide) ht⟩)
theorem hd_X4_init_2 : yX4_init_2.cls ≠ "java/lang/invoke/MethodHandle" ∧ yX4_init_2.cls ≠ "java/lang/invoke/VarHandle" ∧ (parseMethodDescriptor yX4_init_2.desc).map (fun d => d.parameters.length) = some 3 := by decide +kernel
set_option maxHeartbeats 4000000 in
set_option maxRecDepth 100000 in
theorem m_X4_init_2 (l : Launch) (dC : Nat → ClassId) (dI : Nat → Nat → Nat) (cB cI : ClassId) (sz : Nat) (h a n : Nat) (f : Nat → Int32) (hn : n ≤ 32) (hf : ∀ j, j < n → fits .byte (.int (f j)) = true) : zMv l yX4_init_2 cX4_init_2 4 none 2 80 1 32 [.ref h, .ref a, .int (nI 0), .int (nI n)] zNo (dC, dI) cB cI sz [(h, .inr (3, [.null])), (a, .inl (cB, n, .inl f))] (fun A t => ∃ (k : Nat), zB (dC, dI) A [(h, .inr (3, [.ref k])), (a, .inl (cB, n, .inl f)), (k, .inl (cB, n, .inl (va_cpy f (fun _ => 0) 0 0 n)))] t) := by
  refine z_ofv (C := RX4) rfl (by decide +kernel) (Nat.le_of_ble_eq_true rfl) ?_
  intro pr ev s m below meth c A hx hb hr hlocks hml hown hname hts hK hP hD hA hE hS ls hl
  have hl : lv_has ls 4 [(0, .ref h), (1, .ref a), (2, .int (nI 0)), (3, .int (nI n))] := hl
  refine lv_aload_n hx hb dX4_init_2_0 rfl (lv_at hl 0 rfl) ?_
  refine lv_iload_n hx hb dX4_init_2_1 rfl (lv_at hl 3 rfl) ?_
  refine z_callvI (wr := [(a, .inl (cB, n, .inl f))]) (As := [.int (nI n)]) (rest := []) ⟨hx, hb, hml, hown, hts⟩ (m_X4_init_3 l dC dI cB cI s.heap.size h n hn) (cwI 1 hts (lw_meth q363) rfl rfl rfl (hts _ q14) (hts _ q361) (hts _ q362) rfl hd_X4_init_3 ⟨Nat.le_of_ble_eq_true rfl, Nat.le_of_ble_eq_true rfl⟩) ⟨zNo_good, trivial⟩ rfl hl.1 rfl (Nat.le_of_ble_eq_true rfl) dX4_init_2_2 ⟨Nat.le_of_ble_eq_true rfl, Nat.le_of_ble_eq_true rfl⟩ hS hK hP hD hA [0] [1] rfl (by decide) rfl (by decide) (by decide) (fun A1 t H locs hB J hS => ?_)
  obtain ⟨k, hB⟩ := hB
  obtain ⟨hP, hD⟩ := J _ hB
  clear hB J
  have hP : va_P (dC, dI) vwCl [(a, .inl (cB, n, .inl f)), (h, .inr (3, [.ref k])), (k, .inl (cB, n, .inl (fun _ => 0)))] H := hP
  have hD : va_D A [(a, .inl (cB, n, .inl f)), (h, .inr (3, [.ref k])), (k, .inl (cB, n, .inl (fun _ => 0)))] := hD
  refine lv_aload_n hx hb dX4_init_2_5 rfl (lv_at hl 1 rfl) ?_
  refine lv_iload_n hx hb dX4_init_2_6 rfl (lv_at hl 2 rfl) ?_
  refine lv_aload_n hx hb dX4_init_2_7 rfl (lv_at hl 0 rfl) ?_
  refine va_get (D := (dC, dI)) (ci := 3) (v := .ref k) (C := RX4) (T := TX4) (N := 1) hx hb hts in_X4 hown hK hP 1 rfl rfl 0 (by decide) (hts _ q365) (fun _ h9 => h9) rfl dX4_init_2_8 ?_
  refine lv_iconst (v := nI 0) hx hb dX4_init_2_11 (by decide) ?_
  refine lv_iload_n hx hb dX4_init_2_12 rfl (lv_at hl 3 rfl) ?_
  have cz : (nI 0).toNatClampNeg = 0 := nI_clamp (by decide)
  have cn : (nI n).toNatClampNeg = n := nI_clamp (by omega)
  refine va_copyi hx hb (hml.trans hl.1.symm) hown (hts _ q369) (hts _ q371) (hts _ q370) (hts _ q15) hK hP hD hS 0 2 0 0 rfl rfl rfl rfl rfl (nI_pos (by decide)) (nI_pos (by decide)) (nI_pos (by omega)) (by rw [cz, cn]; omega) (by rw [cz, cn]; omega) (by rw [cz, cn]; intro i hi; rw [Nat.zero_add]; exact hf i hi) (Nat.le_of_ble_eq_true rfl) (by decide +kernel) dX4_init_2_13 (fun H locs hP hD hS => ?_)
  rw [cz, cn] at hP hD
  have hP : va_P (dC, dI) vwCl [(a, .inl (cB, n, .inl f)), (h, .inr (3, [.ref k])), (k, .inl (cB, n, .inl (va_cpy f (fun _ => 0) 0 0 n)))] H := hP
  have hD : va_D A [(a, .inl (cB, n, .inl f)), (h, .inr (3, [.ref k])), (k, .inl (cB, n, .inl (va_cpy f (fun _ => 0) 0 0 n)))] := hD
  exact z_vret hx hb hr hlocks hS (Nat.le_of_ble_eq_true rfl) (Nat.le_of_ble_eq_true rfl) dX4_init_2_16 (fun t ht => ⟨k, zB_of hP hD [1, 0, 2] rfl (by decide) ht⟩)
theorem hd_X4_init : yX4_init.cls ≠ "java/lang/invoke/MethodHandle" ∧ yX4_init.cls ≠ "java/lang/invoke/VarHandle" ∧ (parseMethodDescriptor yX4_init.desc).map (fun d => d.parameters.length) = some 1 := by decide +kernel
set_option maxHeartbeats 4000000 in
set_option maxRecDepth 100000 in
theorem m_X4_init (l : Launch) (dC : Nat → ClassId) (dI : Nat → Nat → Nat) (cB cI : ClassId) (sz : Nat) (h a n : Nat) (f : Nat → Int32) (hn : n ≤ 32) (hf : ∀ j, j < n → fits .byte (.int (f j)) = true) : zMv l yX4_init cX4_init 2 none 3 120 1 32 [.ref h, .ref a] zNo (dC, dI) cB cI sz [(h, .inr (3, [.null])), (a, .inl (cB, n, .inl f))] (fun A t => ∃ (k : Nat), zB (dC, dI) A [(h, .inr (3, [.ref k])), (a, .inl (cB, n, .inl f)), (k, .inl (cB, n, .inl (va_cpy f (fun _ => 0) 0 0 n)))] t) := by
  refine z_ofv (C := RX4) rfl (by decide +kernel) (Nat.le_of_ble_eq_true rfl) ?_
  intro pr ev s m below meth c A hx hb hr hlocks hml hown hname hts hK hP hD hA hE hS ls hl
  have hl : lv_has ls 2 [(0, .ref h), (1, .ref a)] := hl
  refine lv_aload_n hx hb dX4_init_0 rfl (lv_at hl 0 rfl) ?_
  refine lv_aload_n hx hb dX4_init_1 rfl (lv_at hl 1 rfl) ?_
  refine lv_iconst (v := nI 0) hx hb dX4_init_2 (by decide) ?_
  refine lv_aload_n hx hb dX4_init_3 rfl (lv_at hl 1 rfl) ?_
  refine va_alen (v := nI n) hx hb hK hP 1 0 rfl rfl rfl dX4_init_4 ?_
  refine z_callvI (wr := []) (As := [.ref a, .int (nI 0), .int (nI n)]) (rest := []) ⟨hx, hb, hml, hown, hts⟩ (m_X4_init_2 l dC dI cB cI s.heap.size h a n f hn hf) (cwI 3 hts (lw_meth q360) rfl rfl rfl (hts _ q14) (hts _ q358) (hts _ q359) rfl hd_X4_init_2 ⟨Nat.le_of_ble_eq_true rfl, Nat.le_of_ble_eq_true rfl⟩) ⟨zNo_good, trivial⟩ rfl hl.1 rfl (Nat.le_of_ble_eq_true rfl) dX4_init_5 ⟨Nat.le_of_ble_eq_true rfl, Nat.le_of_ble_eq_true rfl⟩ hS hK hP hD hA [0, 1] [] rfl (by decide) rfl (by decide) (by decide) (fun A1 t H locs hB J hS => ?_)
  obtain ⟨k, hB⟩ := hB
  obtain ⟨hP, hD⟩ := J _ hB
  clear hB J
  have hP : va_P (dC, dI) vwCl [(h, .inr (3, [.ref k])), (a, .inl (cB, n, .inl f)), (k, .inl (cB, n, .inl (va_cpy f (fun _ => 0) 0 0 n)))] H := hP
  have hD : va_D A [(h, .inr (3, [.ref k])), (a, .inl (cB, n, .inl f)), (k, .inl (cB, n, .inl (va_cpy f (fun _ => 0) 0 0 n)))] := hD
  exact z_vret hx hb hr hlocks hS (Nat.le_of_ble_eq_true rfl) (Nat.le_of_ble_eq_true rfl) dX4_init_8 (fun t ht => ⟨k, zB_of hP hD [0, 1, 2] rfl (by decide) ht⟩)
theorem hd_X4_getKey : yX4_getKey.cls ≠ "java/lang/invoke/MethodHandle" ∧ yX4_getKey.cls ≠ "java/lang/invoke/VarHandle" ∧ (parseMethodDescriptor yX4_getKey.desc).map (fun d => d.parameters.length) = some 0 := by decide +kernel
theorem hv_X4_getKey : yX4_getKey.cls = RX4 ∧ yX4_getKey.cls ≠ "java/lang/invoke/MethodHandle" ∧ yX4_getKey.cls ≠ "java/lang/invoke/VarHandle" ∧ (parseMethodDescriptor yX4_getKey.desc).map (fun d => d.parameters.length) = some 0 := ⟨rfl, hd_X4_getKey⟩
set_option maxHeartbeats 4000000 in
set_option maxRecDepth 100000 in
theorem m_X4_getKey (l : Launch) (dC : Nat → ClassId) (dI : Nat → Nat → Nat) (cB cI : ClassId) (sz : Nat) (h k : Nat) : zRr l yX4_getKey cX4_getKey 1 (some (.array .byte)) 0 0 [.ref h] zNo (dC, dI) cB cI sz [(h, .inr (3, [.ref k]))] k := by
  refine z_ofQ (C := RX4) rfl (by decide +kernel) (Nat.le_of_ble_eq_true rfl) ?_
  intro pr ev s m below meth c A hx hb hr hlocks hml hown hname hts hK hP hD hA hE hS ls hl
  have hl : lv_has ls 1 [(0, .ref h)] := hl
  refine lv_aload_n hx hb dX4_getKey_0 rfl (lv_at hl 0 rfl) ?_
  refine va_get (D := (dC, dI)) (ci := 3) (v := .ref k) (C := RX4) (T := TX4) (N := 1) hx hb hts in_X4 hown hK hP 0 rfl rfl 0 (by decide) (hts _ q365) (fun _ h9 => h9) rfl dX4_getKey_1 ?_
  exact z_rretR hx hb hr (Or.inr ⟨_, rfl⟩) hlocks dX4_getKey_4
theorem hd_X3_init_2 : yX3_init_2.cls ≠ "java/lang/invoke/MethodHandle" ∧ yX3_init_2.cls ≠ "java/lang/invoke/VarHandle" ∧ (parseMethodDescriptor yX3_init_2.desc).map (fun d => d.parameters.length) = some 4 := by decide +kernel
set_option maxHeartbeats 4000000 in
set_option maxRecDepth 100000 in
theorem m_X3_init_2 (l : Launch) (dC : Nat → ClassId) (dI : Nat → Nat → Nat) (cB cI : ClassId) (sz : Nat) (h g a n : Nat) (f : Nat → Int32) (hn : n ≤ 8) (hf : ∀ j, j < n → fits .byte (.int (f j)) = true) : zMv l yX3_init_2 cX3_init_2 5 none 2 80 1 8 [.ref h, .ref g, .ref a, .int (nI 0), .int (nI n)] zNo (dC, dI) cB cI sz [(h, .inr (2, [.null, .null])), (a, .inl (cB, n, .inl f))] (fun A t => ∃ (k : Nat), zB (dC, dI) A [(h, .inr (2, [.ref k, .ref g])), (a, .inl (cB, n, .inl f)), (k, .inl (cB, n, .inl (va_cpy f (fun _ => 0) 0 0 n)))] t) := by
  refine z_ofv (C := RX3) rfl (by decide +kernel) (Nat.le_of_ble_eq_true rfl) ?_
  intro pr ev s m below meth c A hx hb hr hlocks hml hown hname hts hK hP hD hA hE hS ls hl
  have hl : lv_has ls 5 [(0, .ref h), (1, .ref g), (2, .ref a), (3, .int (nI 0)), (4, .int (nI n))] := hl
  refine lv_aload_n hx hb dX3_init_2_0 rfl (lv_at hl 0 rfl) ?_
  refine W.objInit hx hb hown (hts _ q378) (hts _ q68) (hts _ q69) rfl (by rw [hml]; exact hl.1) rfl dX3_init_2_1 (Nat.le_of_ble_eq_true rfl) (Nat.le_of_ble_eq_true rfl) ?_
  refine W.eq (g2 := F0 m 4 ls []) rfl ?_
  refine lv_aload_n hx hb dX3_init_2_4 rfl (lv_at hl 0 rfl) ?_
  refine lv_iload hx hb dX3_init_2_5 (lv_at hl 4 rfl) ?_
  refine z_newb (N := n) hx hb (hts _ q113) hK hP hD hS hA (by omega) (Nat.le_of_ble_eq_true rfl) (by show 0 + n ≤ 8; omega) dX3_init_2_7 (fun k H hP hD hS => ?_)
  have hP : va_P (dC, dI) vwCl [(h, .inr (2, [.null, .null])), (a, .inl (cB, n, .inl f)), (k, .inl (cB, n, .inl (fun _ => 0)))] H := hP
  have hD : va_D A [(h, .inr (2, [.null, .null])), (a, .inl (cB, n, .inl f)), (k, .inl (cB, n, .inl (fun _ => 0)))] := hD
  refine va_put (D := (dC, dI)) (ci := 2) (v := .ref k) (ty := .array .byte) (C := RX3) (T := TX3) (N := 2) hx hb hts in_X3 tyX3 tyX3_ok nmX3 hown hK hP hD hS 0 rfl rfl 0 (by decide) (hts _ q380) (fun _ h9 => h9) rfl (by decide +kernel) rfl rfl (Nat.le_of_ble_eq_true rfl) dX3_init_2_9 (fun H locs hP hD hS => ?_)
  have hP : va_P (dC, dI) vwCl [(h, .inr (2, [.ref k, .null])), (a, .inl (cB, n, .inl f)), (k, .inl (cB, n, .inl (fun _ => 0)))] H := hP
  have hD : va_D A [(h, .inr (2, [.ref k, .null])), (a, .inl (cB, n, .inl f)), (k, .inl (cB, n, .inl (fun _ => 0)))] := hD
  refine lv_aload_n hx hb dX3_init_2_12 rfl (lv_at hl 0 rfl) ?_
  refine lv_aload_n hx hb dX3_init_2_13 rfl (lv_at hl 1 rfl) ?_
  refine va_put (D := (dC, dI)) (ci := 2) (v := .ref g) (ty := .object "CipherParameters") (C := RX3) (T := TX3) (N := 2) hx hb hts in_X3 tyX3 tyX3_ok nmX3 hown hK hP hD hS 0 rfl rfl 1 (by decide) (hts _ q381) (fun _ h9 => h9) rfl (by decide +kernel) rfl rfl (Nat.le_of_ble_eq_true rfl) dX3_init_2_14 (fun H locs hP hD hS => ?_)
  have hP : va_P (dC, dI) vwCl [(h, .inr (2, [.ref k, .ref g])), (a, .inl (cB, n, .inl f)), (k, .inl (cB, n, .inl (fun _ => 0)))] H := hP
  have hD : va_D A [(h, .inr (2, [.ref k, .ref g])), (a, .inl (cB, n, .inl f)), (k, .inl (cB, n, .inl (fun _ => 0)))] := hD
  refine lv_aload_n hx hb dX3_init_2_17 rfl (lv_at hl 2 rfl) ?_
  refine lv_iload_n hx hb dX3_init_2_18 rfl (lv_at hl 3 rfl) ?_
  refine lv_aload_n hx hb dX3_init_2_19 rfl (lv_at hl 0 rfl) ?_
  refine va_get (D := (dC, dI)) (ci := 2) (v := .ref k) (C := RX3) (T := TX3) (N := 2) hx hb hts in_X3 hown hK hP 0 rfl rfl 0 (by decide) (hts _ q380) (fun _ h9 => h9) rfl dX3_init_2_20 ?_
  refine lv_iconst (v := nI 0) hx hb dX3_init_2_23 (by decide) ?_
  refine lv_iload hx hb dX3_init_2_24 (lv_at hl 4 rfl) ?_
  have cz : (nI 0).toNatClampNeg = 0 := nI_clamp (by decide)
  have cn : (nI n).toNatClampNeg = n := nI_clamp (by omega)
  refine va_copyi hx hb (hml.trans hl.1.symm) hown (hts _ q379) (hts _ q371) (hts _ q370) (hts _ q15) hK hP hD hS 1 2 0 0 rfl rfl rfl rfl rfl (nI_pos (by decide)) (nI_pos (by decide)) (nI_pos (by omega)) (by rw [cz, cn]; omega) (by rw [cz, cn]; omega) (by rw [cz, cn]; intro i hi; rw [Nat.zero_add]; exact hf i hi) (Nat.le_of_ble_eq_true rfl) (by decide +kernel) dX3_init_2_26 (fun H locs hP hD hS => ?_)
  rw [cz, cn] at hP hD
  have hP : va_P (dC, dI) vwCl [(h, .inr (2, [.ref k, .ref g])), (a, .inl (cB, n, .inl f)), (k, .inl (cB, n, .inl (va_cpy f (fun _ => 0) 0 0 n)))] H := hP
  have hD : va_D A [(h, .inr (2, [.ref k, .ref g])), (a, .inl (cB, n, .inl f)), (k, .inl (cB, n, .inl (va_cpy f (fun _ => 0) 0 0 n)))] := hD
  exact z_vret hx hb hr hlocks hS (Nat.le_of_ble_eq_true rfl) (by omega) dX3_init_2_29 (fun t ht => ⟨k, zB_of hP hD [0, 1, 2] rfl (by decide) ht⟩)
theorem hd_X3_init : yX3_init.cls ≠ "java/lang/invoke/MethodHandle" ∧ yX3_init.cls ≠ "java/lang/invoke/VarHandle" ∧ (parseMethodDescriptor yX3_init.desc).map (fun d => d.parameters.length) = some 2 := by decide +kernel
set_option maxHeartbeats 4000000 in
set_option maxRecDepth 100000 in
theorem m_X3_init (l : Launch) (dC : Nat → ClassId) (dI : Nat → Nat → Nat) (cB cI : ClassId) (sz : Nat) (h g a n : Nat) (f : Nat → Int32) (hn : n ≤ 8) (hf : ∀ j, j < n → fits .byte (.int (f j)) = true) : zMv l yX3_init cX3_init 3 none 3 120 1 8 [.ref h, .ref g, .ref a] zNo (dC, dI) cB cI sz [(h, .inr (2, [.null, .null])), (a, .inl (cB, n, .inl f))] (fun A t => ∃ (k : Nat), zB (dC, dI) A [(h, .inr (2, [.ref k, .ref g])), (a, .inl (cB, n, .inl f)), (k, .inl (cB, n, .inl (va_cpy f (fun _ => 0) 0 0 n)))] t) := by
  refine z_ofv (C := RX3) rfl (by decide +kernel) (Nat.le_of_ble_eq_true rfl) ?_
  intro pr ev s m below meth c A hx hb hr hlocks hml hown hname hts hK hP hD hA hE hS ls hl
  have hl : lv_has ls 3 [(0, .ref h), (1, .ref g), (2, .ref a)] := hl
  refine lv_aload_n hx hb dX3_init_0 rfl (lv_at hl 0 rfl) ?_
  refine lv_aload_n hx hb dX3_init_1 rfl (lv_at hl 1 rfl) ?_
  refine lv_aload_n hx hb dX3_init_2 rfl (lv_at hl 2 rfl) ?_
  refine lv_iconst (v := nI 0) hx hb dX3_init_3 (by decide) ?_
  refine lv_aload_n hx hb dX3_init_4 rfl (lv_at hl 2 rfl) ?_
  refine va_alen (v := nI n) hx hb hK hP 1 0 rfl rfl rfl dX3_init_5 ?_
  refine z_callvI (wr := []) (As := [.ref g, .ref a, .int (nI 0), .int (nI n)]) (rest := []) ⟨hx, hb, hml, hown, hts⟩ (m_X3_init_2 l dC dI cB cI s.heap.size h g a n f hn hf) (cwI 4 hts (lw_meth q377) rfl rfl rfl (hts _ q13) (hts _ q375) (hts _ q376) rfl hd_X3_init_2 ⟨Nat.le_of_ble_eq_true rfl, Nat.le_of_ble_eq_true rfl⟩) ⟨zNo_good, trivial⟩ rfl hl.1 rfl (Nat.le_of_ble_eq_true rfl) dX3_init_6 ⟨Nat.le_of_ble_eq_true rfl, Nat.le_of_ble_eq_true rfl⟩ hS hK hP hD hA [0, 1] [] rfl (by decide) rfl (by decide) (by decide) (fun A1 t H locs hB J hS => ?_)
  obtain ⟨k, hB⟩ := hB
  obtain ⟨hP, hD⟩ := J _ hB
  clear hB J
  have hP : va_P (dC, dI) vwCl [(h, .inr (2, [.ref k, .ref g])), (a, .inl (cB, n, .inl f)), (k, .inl (cB, n, .inl (va_cpy f (fun _ => 0) 0 0 n)))] H := hP
  have hD : va_D A [(h, .inr (2, [.ref k, .ref g])), (a, .inl (cB, n, .inl f)), (k, .inl (cB, n, .inl (va_cpy f (fun _ => 0) 0 0 n)))] := hD
  exact z_vret hx hb hr hlocks hS (Nat.le_of_ble_eq_true rfl) (Nat.le_of_ble_eq_true rfl) dX3_init_9 (fun t ht => ⟨k, zB_of hP hD [0, 1, 2] rfl (by decide) ht⟩)
theorem hd_X3_getIV : yX3_getIV.cls ≠ "java/lang/invoke/MethodHandle" ∧ yX3_getIV.cls ≠ "java/lang/invoke/VarHandle" ∧ (parseMethodDescriptor yX3_getIV.desc).map (fun d => d.parameters.length) = some 0 := by decide +kernel
theorem hv_X3_getIV : yX3_getIV.cls = RX3 ∧ yX3_getIV.cls ≠ "java/lang/invoke/MethodHandle" ∧ yX3_getIV.cls ≠ "java/lang/invoke/VarHandle" ∧ (parseMethodDescriptor yX3_getIV.desc).map (fun d => d.parameters.length) = some 0 := ⟨rfl, hd_X3_getIV⟩
set_option maxHeartbeats 4000000 in
set_option maxRecDepth 100000 in
theorem m_X3_getIV (l : Launch) (dC : Nat → ClassId) (dI : Nat → Nat → Nat) (cB cI : ClassId) (sz : Nat) (h k g : Nat) : zRr l yX3_getIV cX3_getIV 1 (some (.array .byte)) 0 0 [.ref h] zNo (dC, dI) cB cI sz [(h, .inr (2, [.ref k, .ref g]))] k := by
  refine z_ofQ (C := RX3) rfl (by decide +kernel) (Nat.le_of_ble_eq_true rfl) ?_
  intro pr ev s m below meth c A hx hb hr hlocks hml hown hname hts hK hP hD hA hE hS ls hl
  have hl : lv_has ls 1 [(0, .ref h)] := hl
  refine lv_aload_n hx hb dX3_getIV_0 rfl (lv_at hl 0 rfl) ?_
  refine va_get (D := (dC, dI)) (ci := 2) (v := .ref k) (C := RX3) (T := TX3) (N := 2) hx hb hts in_X3 hown hK hP 0 rfl rfl 0 (by decide) (hts _ q380) (fun _ h9 => h9) rfl dX3_getIV_1 ?_
  exact z_rretR hx hb hr (Or.inr ⟨_, rfl⟩) hlocks dX3_getIV_4
theorem hd_X3_getParameters : yX3_getParameters.cls ≠ "java/lang/invoke/MethodHandle" ∧ yX3_getParameters.cls ≠ "java/lang/invoke/VarHandle" ∧ (parseMethodDescriptor yX3_getParameters.desc).map (fun d => d.parameters.length) = some 0 := by decide +kernel
theorem hv_X3_getParameters : yX3_getParameters.cls = RX3 ∧ yX3_getParameters.cls ≠ "java/lang/invoke/MethodHandle" ∧ yX3_getParameters.cls ≠ "java/lang/invoke/VarHandle" ∧ (parseMethodDescriptor yX3_getParameters.desc).map (fun d => d.parameters.length) = some 0 := ⟨rfl, hd_X3_getParameters⟩
set_option maxHeartbeats 4000000 in
set_option maxRecDepth 100000 in
theorem m_X3_getParameters (l : Launch) (dC : Nat → ClassId) (dI : Nat → Nat → Nat) (cB cI : ClassId) (sz : Nat) (h k g : Nat) : zRr l yX3_getParameters cX3_getParameters 1 (some (.object "CipherParameters")) 0 0 [.ref h] zNo (dC, dI) cB cI sz [(h, .inr (2, [.ref k, .ref g]))] g := by
  refine z_ofQ (C := RX3) rfl (by decide +kernel) (Nat.le_of_ble_eq_true rfl) ?_
  intro pr ev s m below meth c A hx hb hr hlocks hml hown hname hts hK hP hD hA hE hS ls hl
  have hl : lv_has ls 1 [(0, .ref h)] := hl
  refine lv_aload_n hx hb dX3_getParameters_0 rfl (lv_at hl 0 rfl) ?_
  refine va_get (D := (dC, dI)) (ci := 2) (v := .ref g) (C := RX3) (T := TX3) (N := 2) hx hb hts in_X3 hown hK hP 0 rfl rfl 1 (by decide) (hts _ q381) (fun _ h9 => h9) rfl dX3_getParameters_1 ?_
  exact z_rretR hx hb hr (Or.inl ⟨_, rfl⟩) hlocks dX3_getParameters_4
theorem hd_X2_init_2 : yX2_init_2.cls ≠ "java/lang/invoke/MethodHandle" ∧ yX2_init_2.cls ≠ "java/lang/invoke/VarHandle" ∧ (parseMethodDescriptor yX2_init_2.desc).map (fun d => d.parameters.length) = some 1 := by decide +kernel
set_option maxHeartbeats 4000000 in
set_option maxRecDepth 100000 in
theorem m_X2_init_2 (l : Launch) (dC : Nat → ClassId) (dI : Nat → Nat → Nat) (cB cI : ClassId) (sz : Nat) (h : Nat) : zMv l yX2_init_2 cX2_init_2 2 none 1 40 3 96 [.ref h, .int (nI 20)] zNo (dC, dI) cB cI sz [(h, .inr (1, [.int 0, .int 0, .null, .null, .null, .int 0, .int 0, .int 0, .int 0]))] (fun A t => ∃ (e x k : Nat), zB (dC, dI) A [(h, .inr (1, [.int (nI 20), .int (nI 0), .ref e, .ref x, .ref k, .int (nI 0), .int (nI 0), .int (nI 0), .int (nI 0)])), (e, .inl (cI, 16, .inl (fun _ => 0))), (x, .inl (cI, 16, .inl (fun _ => 0))), (k, .inl (cB, 64, .inl (fun _ => 0)))] t) := by
  refine z_ofv (C := RX2) rfl (by decide +kernel) (Nat.le_of_ble_eq_true rfl) ?_
  intro pr ev s m below meth c A hx hb hr hlocks hml hown hname hts hK hP hD hA hE hS ls hl
  have hl : lv_has ls 2 [(0, .ref h), (1, .int (nI 20))] := hl
  refine lv_aload_n hx hb dX2_init_2_0 rfl (lv_at hl 0 rfl) ?_
  refine W.objInit hx hb hown (hts _ q272) (hts _ q68) (hts _ q69) rfl (by rw [hml]; exact hl.1) rfl dX2_init_2_1 (Nat.le_of_ble_eq_true rfl) (Nat.le_of_ble_eq_true rfl) ?_
  refine W.eq (g2 := F0 m 4 ls []) rfl ?_
  refine lv_aload_n hx hb dX2_init_2_4 rfl (lv_at hl 0 rfl) ?_
  refine lv_iconst (v := nI 0) hx hb dX2_init_2_5 (by decide) ?_
  refine va_put (D := (dC, dI)) (ci := 1) (v := .int (nI 0)) (ty := .int) (C := RX2) (T := TX2) (N := 9) hx hb hts in_X2 tyX2 tyX2_ok nmX2 hown hK hP hD hS 0 rfl rfl 1 (by decide) (hts _ q275) (fun _ h9 => h9) rfl (by decide +kernel) rfl rfl (Nat.le_of_ble_eq_true rfl) dX2_init_2_6 (fun H locs hP hD hS => ?_)
  have hP : va_P (dC, dI) vwCl [(h, .inr (1, [.int 0, .int (nI 0), .null, .null, .null, .int 0, .int 0, .int 0, .int 0]))] H := hP
  have hD : va_D A [(h, .inr (1, [.int 0, .int (nI 0), .null, .null, .null, .int 0, .int 0, .int 0, .int 0]))] := hD
  refine lv_aload_n hx hb dX2_init_2_9 rfl (lv_at hl 0 rfl) ?_
  refine lv_bipush (v := nI 16) hx hb dX2_init_2_10 (by decide) ?_
  refine z_newi (N := 16) hx hb (hts _ q302) hK hP hD hS hA (by omega) (Nat.le_of_ble_eq_true rfl) (Nat.le_of_ble_eq_true rfl) dX2_init_2_12 (fun e H hP hD hS => ?_)
  have hP : va_P (dC, dI) vwCl [(h, .inr (1, [.int 0, .int (nI 0), .null, .null, .null, .int 0, .int 0, .int 0, .int 0])), (e, .inl (cI, 16, .inl (fun _ => 0)))] H := hP
  have hD : va_D A [(h, .inr (1, [.int 0, .int (nI 0), .null, .null, .null, .int 0, .int 0, .int 0, .int 0])), (e, .inl (cI, 16, .inl (fun _ => 0)))] := hD
  refine va_put (D := (dC, dI)) (ci := 1) (v := .ref e) (ty := .array .int) (C := RX2) (T := TX2) (N := 9) hx hb hts in_X2 tyX2 tyX2_ok nmX2 hown hK hP hD hS 0 rfl rfl 2 (by decide) (hts _ q276) (fun _ h9 => h9) rfl (by decide +kernel) rfl rfl (Nat.le_of_ble_eq_true rfl) dX2_init_2_14 (fun H locs hP hD hS => ?_)
  have hP : va_P (dC, dI) vwCl [(h, .inr (1, [.int 0, .int (nI 0), .ref e, .null, .null, .int 0, .int 0, .int 0, .int 0])), (e, .inl (cI, 16, .inl (fun _ => 0)))] H := hP
  have hD : va_D A [(h, .inr (1, [.int 0, .int (nI 0), .ref e, .null, .null, .int 0, .int 0, .int 0, .int 0])), (e, .inl (cI, 16, .inl (fun _ => 0)))] := hD
  refine lv_aload_n hx hb dX2_init_2_17 rfl (lv_at hl 0 rfl) ?_
  refine lv_bipush (v := nI 16) hx hb dX2_init_2_18 (by decide) ?_
  refine z_newi (N := 16) hx hb (hts _ q302) hK hP hD hS hA (by omega) (Nat.le_of_ble_eq_true rfl) (Nat.le_of_ble_eq_true rfl) dX2_init_2_20 (fun x H hP hD hS => ?_)
  have hP : va_P (dC, dI) vwCl [(h, .inr (1, [.int 0, .int (nI 0), .ref e, .null, .null, .int 0, .int 0, .int 0, .int 0])), (e, .inl (cI, 16, .inl (fun _ => 0))), (x, .inl (cI, 16, .inl (fun _ => 0)))] H := hP
  have hD : va_D A [(h, .inr (1, [.int 0, .int (nI 0), .ref e, .null, .null, .int 0, .int 0, .int 0, .int 0])), (e, .inl (cI, 16, .inl (fun _ => 0))), (x, .inl (cI, 16, .inl (fun _ => 0)))] := hD
  refine va_put (D := (dC, dI)) (ci := 1) (v := .ref x) (ty := .array .int) (C := RX2) (T := TX2) (N := 9) hx hb hts in_X2 tyX2 tyX2_ok nmX2 hown hK hP hD hS 0 rfl rfl 3 (by decide) (hts _ q277) (fun _ h9 => h9) rfl (by decide +kernel) rfl rfl (Nat.le_of_ble_eq_true rfl) dX2_init_2_22 (fun H locs hP hD hS => ?_)
  have hP : va_P (dC, dI) vwCl [(h, .inr (1, [.int 0, .int (nI 0), .ref e, .ref x, .null, .int 0, .int 0, .int 0, .int 0])), (e, .inl (cI, 16, .inl (fun _ => 0))), (x, .inl (cI, 16, .inl (fun _ => 0)))] H := hP
  have hD : va_D A [(h, .inr (1, [.int 0, .int (nI 0), .ref e, .ref x, .null, .int 0, .int 0, .int 0, .int 0])), (e, .inl (cI, 16, .inl (fun _ => 0))), (x, .inl (cI, 16, .inl (fun _ => 0)))] := hD
  refine lv_aload_n hx hb dX2_init_2_25 rfl (lv_at hl 0 rfl) ?_
  refine lv_bipush (v := nI 64) hx hb dX2_init_2_26 (by decide) ?_
  refine z_newb (N := 64) hx hb (hts _ q113) hK hP hD hS hA (by omega) (Nat.le_of_ble_eq_true rfl) (Nat.le_of_ble_eq_true rfl) dX2_init_2_28 (fun k H hP hD hS => ?_)
  have hP : va_P (dC, dI) vwCl [(h, .inr (1, [.int 0, .int (nI 0), .ref e, .ref x, .null, .int 0, .int 0, .int 0, .int 0])), (e, .inl (cI, 16, .inl (fun _ => 0))), (x, .inl (cI, 16, .inl (fun _ => 0))), (k, .inl (cB, 64, .inl (fun _ => 0)))] H := hP
  have hD : va_D A [(h, .inr (1, [.int 0, .int (nI 0), .ref e, .ref x, .null, .int 0, .int 0, .int 0, .int 0])), (e, .inl (cI, 16, .inl (fun _ => 0))), (x, .inl (cI, 16, .inl (fun _ => 0))), (k, .inl (cB, 64, .inl (fun _ => 0)))] := hD
  refine va_put (D := (dC, dI)) (ci := 1) (v := .ref k) (ty := .array .byte) (C := RX2) (T := TX2) (N := 9) hx hb hts in_X2 tyX2 tyX2_ok nmX2 hown hK hP hD hS 0 rfl rfl 4 (by decide) (hts _ q278) (fun _ h9 => h9) rfl (by decide +kernel) rfl rfl (Nat.le_of_ble_eq_true rfl) dX2_init_2_30 (fun H locs hP hD hS => ?_)
  have hP : va_P (dC, dI) vwCl [(h, .inr (1, [.int 0, .int (nI 0), .ref e, .ref x, .ref k, .int 0, .int 0, .int 0, .int 0])), (e, .inl (cI, 16, .inl (fun _ => 0))), (x, .inl (cI, 16, .inl (fun _ => 0))), (k, .inl (cB, 64, .inl (fun _ => 0)))] H := hP
  have hD : va_D A [(h, .inr (1, [.int 0, .int (nI 0), .ref e, .ref x, .ref k, .int 0, .int 0, .int 0, .int 0])), (e, .inl (cI, 16, .inl (fun _ => 0))), (x, .inl (cI, 16, .inl (fun _ => 0))), (k, .inl (cB, 64, .inl (fun _ => 0)))] := hD
  refine lv_aload_n hx hb dX2_init_2_33 rfl (lv_at hl 0 rfl) ?_
  refine lv_iconst (v := nI 0) hx hb dX2_init_2_34 (by decide) ?_
  refine va_put (D := (dC, dI)) (ci := 1) (v := .int (nI 0)) (ty := .boolean) (C := RX2) (T := TX2) (N := 9) hx hb hts in_X2 tyX2 tyX2_ok nmX2 hown hK hP hD hS 0 rfl rfl 5 (by decide) (hts _ q279) (fun _ h9 => h9) rfl (by decide +kernel) rfl rfl (Nat.le_of_ble_eq_true rfl) dX2_init_2_35 (fun H locs hP hD hS => ?_)
  have hP : va_P (dC, dI) vwCl [(h, .inr (1, [.int 0, .int (nI 0), .ref e, .ref x, .ref k, .int (nI 0), .int 0, .int 0, .int 0])), (e, .inl (cI, 16, .inl (fun _ => 0))), (x, .inl (cI, 16, .inl (fun _ => 0))), (k, .inl (cB, 64, .inl (fun _ => 0)))] H := hP
  have hD : va_D A [(h, .inr (1, [.int 0, .int (nI 0), .ref e, .ref x, .ref k, .int (nI 0), .int 0, .int 0, .int 0])), (e, .inl (cI, 16, .inl (fun _ => 0))), (x, .inl (cI, 16, .inl (fun _ => 0))), (k, .inl (cB, 64, .inl (fun _ => 0)))] := hD
  refine lv_iload_n hx hb dX2_init_2_38 rfl (lv_at hl 1 rfl) ?_
  refine lv_if_le (tgt := 48) hx hb dX2_init_2_39 (by decide) (fun hc => absurd hc (by decide)) (fun _ => ?_)
  refine lv_iload_n hx hb dX2_init_2_42 rfl (lv_at hl 1 rfl) ?_
  refine lv_iconst (v := 1) hx hb dX2_init_2_43 (by decide) ?_
  refine lv_iand hx hb dX2_init_2_44 ?_
  refine lv_if_eq (tgt := 58) hx hb dX2_init_2_45 (by decide) (fun _ => ?_) (fun hc => absurd (by decide) hc)
  refine lv_aload_n hx hb dX2_init_2_58 rfl (lv_at hl 0 rfl) ?_
  refine lv_iload_n hx hb dX2_init_2_59 rfl (lv_at hl 1 rfl) ?_
  refine va_put (D := (dC, dI)) (ci := 1) (v := .int (nI 20)) (ty := .int) (C := RX2) (T := TX2) (N := 9) hx hb hts in_X2 tyX2 tyX2_ok nmX2 hown hK hP hD hS 0 rfl rfl 0 (by decide) (hts _ q274) (fun _ h9 => h9) rfl (by decide +kernel) rfl rfl (Nat.le_of_ble_eq_true rfl) dX2_init_2_60 (fun H locs hP hD hS => ?_)
  have hP : va_P (dC, dI) vwCl [(h, .inr (1, [.int (nI 20), .int (nI 0), .ref e, .ref x, .ref k, .int (nI 0), .int 0, .int 0, .int 0])), (e, .inl (cI, 16, .inl (fun _ => 0))), (x, .inl (cI, 16, .inl (fun _ => 0))), (k, .inl (cB, 64, .inl (fun _ => 0)))] H := hP
  have hD : va_D A [(h, .inr (1, [.int (nI 20), .int (nI 0), .ref e, .ref x, .ref k, .int (nI 0), .int 0, .int 0, .int 0])), (e, .inl (cI, 16, .inl (fun _ => 0))), (x, .inl (cI, 16, .inl (fun _ => 0))), (k, .inl (cB, 64, .inl (fun _ => 0)))] := hD
  exact z_vret hx hb hr hlocks hS (Nat.le_of_ble_eq_true rfl) (Nat.le_of_ble_eq_true rfl) dX2_init_2_63 (fun t ht => ⟨e, x, k, zB_of hP hD [0, 1, 2, 3] rfl (by decide) ht⟩)
theorem hd_X2_init : yX2_init.cls ≠ "java/lang/invoke/MethodHandle" ∧ yX2_init.cls ≠ "java/lang/invoke/VarHandle" ∧ (parseMethodDescriptor yX2_init.desc).map (fun d => d.parameters.length) = some 0 := by decide +kernel
set_option maxHeartbeats 4000000 in
set_option maxRecDepth 100000 in
theorem m_X2_init (l : Launch) (dC : Nat → ClassId) (dI : Nat → Nat → Nat) (cB cI : ClassId) (sz : Nat) (h : Nat) : zMv l yX2_init cX2_init 1 none 2 80 3 96 [.ref h] zNo (dC, dI) cB cI sz [(h, .inr (1, [.int 0, .int 0, .null, .null, .null, .int 0, .int 0, .int 0, .int 0]))] (fun A t => ∃ (e x k : Nat), zB (dC, dI) A [(h, .inr (1, [.int (nI 20), .int (nI 0), .ref e, .ref x, .ref k, .int (nI 0), .int (nI 0), .int (nI 0), .int (nI 0)])), (e, .inl (cI, 16, .inl (fun _ => 0))), (x, .inl (cI, 16, .inl (fun _ => 0))), (k, .inl (cB, 64, .inl (fun _ => 0)))] t) := by
  refine z_ofv (C := RX2) rfl (by decide +kernel) (Nat.le_of_ble_eq_true rfl) ?_
  intro pr ev s m below meth c A hx hb hr hlocks hml hown hname hts hK hP hD hA hE hS ls hl
  have hl : lv_has ls 1 [(0, .ref h)] := hl
  refine lv_aload_n hx hb dX2_init_0 rfl (lv_at hl 0 rfl) ?_
  refine lv_bipush (v := nI 20) hx hb dX2_init_1 (by decide) ?_
  refine z_callvI (wr := []) (As := [.int (nI 20)]) (rest := []) ⟨hx, hb, hml, hown, hts⟩ (m_X2_init_2 l dC dI cB cI s.heap.size h) (cwI 1 hts (lw_meth q271) rfl rfl rfl (hts _ q8) (hts _ q269) (hts _ q270) rfl hd_X2_init_2 ⟨Nat.le_of_ble_eq_true rfl, Nat.le_of_ble_eq_true rfl⟩) ⟨zNo_good, trivial⟩ rfl hl.1 rfl (Nat.le_of_ble_eq_true rfl) dX2_init_3 ⟨Nat.le_of_ble_eq_true rfl, Nat.le_of_ble_eq_true rfl⟩ hS hK hP hD hA [0] [] rfl (by decide) rfl (by decide) (by decide) (fun A1 t H locs hB J hS => ?_)
  obtain ⟨e, x, k, hB⟩ := hB
  obtain ⟨hP, hD⟩ := J _ hB
  clear hB J
  have hP : va_P (dC, dI) vwCl [(h, .inr (1, [.int (nI 20), .int (nI 0), .ref e, .ref x, .ref k, .int (nI 0), .int (nI 0), .int (nI 0), .int (nI 0)])), (e, .inl (cI, 16, .inl (fun _ => 0))), (x, .inl (cI, 16, .inl (fun _ => 0))), (k, .inl (cB, 64, .inl (fun _ => 0)))] H := hP
  have hD : va_D A [(h, .inr (1, [.int (nI 20), .int (nI 0), .ref e, .ref x, .ref k, .int (nI 0), .int (nI 0), .int (nI 0), .int (nI 0)])), (e, .inl (cI, 16, .inl (fun _ => 0))), (x, .inl (cI, 16, .inl (fun _ => 0))), (k, .inl (cB, 64, .inl (fun _ => 0)))] := hD
  exact z_vret hx hb hr hlocks hS (Nat.le_of_ble_eq_true rfl) (Nat.le_of_ble_eq_true rfl) dX2_init_6 (fun t ht => ⟨e, x, k, zB_of hP hD [0, 1, 2, 3] rfl (by decide) ht⟩)
theorem hd_X2_setKey : yX2_setKey.cls ≠ "java/lang/invoke/MethodHandle" ∧ yX2_setKey.cls ≠ "java/lang/invoke/VarHandle" ∧ (parseMethodDescriptor yX2_setKey.desc).map (fun d => d.parameters.length) = some 2 := by decide +kernel
theorem hv_X2_setKey : yX2_setKey.cls = RX2 ∧ yX2_setKey.cls ≠ "java/lang/invoke/MethodHandle" ∧ yX2_setKey.cls ≠ "java/lang/invoke/VarHandle" ∧ (parseMethodDescriptor yX2_setKey.desc).map (fun d => d.parameters.length) = some 2 := ⟨rfl, hd_X2_setKey⟩
set_option maxHeartbeats 4000000 in
set_option maxRecDepth 100000 in
theorem m_X2_setKey (l : Launch) (dC : Nat → ClassId) (dI : Nat → Nat → Nat) (cB cI : ClassId) (sz : Nat) (h e x k a v tt ts : Nat) (ix ini c0 c1 c2 : Int32) (es kf vf : Nat → Int32) (hts4 : ts = 0 ∨ ts = 4) : zMv l yX2_setKey cX2_setKey 4 none 2 80 0 0 [.ref h, .ref a, .ref v] (zET tt) (dC, dI) cB cI sz [(h, .inr (1, [.int (nI 20), .int ix, .ref e, .ref x, .ref k, .int ini, .int c0, .int c1, .int c2])), (e, .inl (cI, 16, .inl es)), (a, .inl (cB, 16 + 4 * ts, .inl kf)), (v, .inl (cB, 8, .inl vf))] (fun A t => zB (dC, dI) A [(h, .inr (1, [.int (nI 20), .int ix, .ref e, .ref x, .ref k, .int ini, .int c0, .int c1, .int c2])), (e, .inl (cI, 16, .inl (setk ts kf vf es))), (a, .inl (cB, 16 + 4 * ts, .inl kf)), (v, .inl (cB, 8, .inl vf))] t) := by
  refine z_ofv (C := RX2) rfl (by decide +kernel) (Nat.le_of_ble_eq_true rfl) ?_
  intro pr ev s m below meth c A hx hb hr hlocks hml hown hname hts hK hP hD hA hE hS ls hl
  have hl : lv_has ls 4 [(0, .ref h), (1, .ref a), (2, .ref v)] := hl
  have hts5 : ts ≤ 4 := by omega
  refine lv_aload_n hx hb dX2_setKey_0 rfl (lv_at hl 1 rfl) ?_
  refine lv_ifnull hx hb dX2_setKey_1 ?_
  have tail : W pr l ev (zRm 2 80 0 0) s m ([.ref h, .ref a, .ref v] : List Value).toArray below meth c s.heap [] (0) (0) (zQv below (fun A t => zB (dC, dI) A [(h, .inr (1, [.int (nI 20), .int ix, .ref e, .ref x, .ref k, .int ini, .int c0, .int c1, .int c2])), (e, .inl (cI, 16, .inl (setk ts kf vf es))), (a, .inl (cB, 16 + 4 * ts, .inl kf)), (v, .inl (cB, 8, .inl vf))] t) A [.ref h, .ref a, .ref v] s 0 0) (F0 m 28 ls []) := by
    refine lv_aload_n hx hb dX2_setKey_28 rfl (lv_at hl 1 rfl) ?_
    refine va_alen (v := nI (16 + 4 * ts)) hx hb hK hP 2 0 rfl rfl rfl dX2_setKey_29 ?_
    refine lv_bipush (v := nI 16) hx hb dX2_setKey_30 (by decide) ?_
    refine lv_isub hx hb dX2_setKey_32 ?_
    refine z_top (y := nI (4 * ts)) ((pk_sub (by omega)).trans (congrArg nI (by omega))) ?_
    refine lv_iconst (v := nI 4) hx hb dX2_setKey_33 (by decide) ?_
    refine lv_idiv hx hb dX2_setKey_34 (by decide) ?_
    refine z_top (y := nI ts) ((pk_div (by omega) (by decide) (by decide)).trans (congrArg nI (by omega))) ?_
    refine lv_istore_n (lv' := [(3, .int (nI ts)), (0, .ref h), (1, .ref a), (2, .ref v)]) hx hb dX2_setKey_35 rfl hl (by decide) rfl (fun ls hl => ?_)
    refine lv_aload_n hx hb dX2_setKey_36 rfl (lv_at hl 1 rfl) ?_
    refine va_get (D := (dC, dI)) (ci := 1) (v := .ref e) (C := RX2) (T := TX2) (N := 9) hx hb hts in_X2 hown hK hP 0 rfl rfl 2 (by decide) (hts _ q276) (fun _ h9 => h9) rfl dX2_setKey_37 ?_
    refine lv_iconst (v := nI 0) hx hb dX2_setKey_40 (by decide) ?_
    refine va_gets hx hb hE.1 hS hown (hts _ q408) (fun _ h9 => h9) dX2_setKey_41 ?_
    refine lv_iload_n hx hb dX2_setKey_44 rfl (lv_at hl 0 rfl) ?_
    refine z_tau (k := ts) hx hb hE.2 hS (by omega) dX2_setKey_45 ?_
    refine z_iast (k := 0) (g := upd es 0 (zTau ts)) hx hb hK hP hD hS 1 1 rfl rfl (by decide) (by decide) rfl dX2_setKey_46 (fun H locs hP hD hS => ?_)
    have hP : va_P (dC, dI) vwCl [(h, .inr (1, [.int (nI 20), .int ix, .ref e, .ref x, .ref k, .int ini, .int c0, .int c1, .int c2])), (e, .inl (cI, 16, .inl (upd es 0 (zTau ts)))), (a, .inl (cB, 16 + 4 * ts, .inl kf)), (v, .inl (cB, 8, .inl vf))] H := hP
    have hD : va_D A [(h, .inr (1, [.int (nI 20), .int ix, .ref e, .ref x, .ref k, .int ini, .int c0, .int c1, .int c2])), (e, .inl (cI, 16, .inl (upd es 0 (zTau ts)))), (a, .inl (cB, 16 + 4 * ts, .inl kf)), (v, .inl (cB, 8, .inl vf))] := hD
    refine lv_aload_n hx hb dX2_setKey_47 rfl (lv_at hl 1 rfl) ?_
    refine va_get (D := (dC, dI)) (ci := 1) (v := .ref e) (C := RX2) (T := TX2) (N := 9) hx hb hts in_X2 hown hK hP 0 rfl rfl 2 (by decide) (hts _ q276) (fun _ h9 => h9) rfl dX2_setKey_48 ?_
    refine lv_iconst (v := nI 5) hx hb dX2_setKey_51 (by decide) ?_
    refine va_gets hx hb hE.1 hS hown (hts _ q408) (fun _ h9 => h9) dX2_setKey_52 ?_
    refine lv_iload_n hx hb dX2_setKey_55 rfl (lv_at hl 0 rfl) ?_
    refine lv_iconst (v := nI 1) hx hb dX2_setKey_56 (by decide) ?_
    refine lv_iadd hx hb dX2_setKey_57 ?_
    refine z_top (y := nI (ts + 1)) (nI_add ts 1) ?_
    refine z_tau (k := (ts + 1)) hx hb hE.2 hS (by omega) dX2_setKey_58 ?_
    refine z_iast (k := 5) (g := upd (upd es 0 (zTau ts)) 5 (zTau (ts + 1))) hx hb hK hP hD hS 1 1 rfl rfl (by decide) (by decide) rfl dX2_setKey_59 (fun H locs hP hD hS => ?_)
    have hP : va_P (dC, dI) vwCl [(h, .inr (1, [.int (nI 20), .int ix, .ref e, .ref x, .ref k, .int ini, .int c0, .int c1, .int c2])), (e, .inl (cI, 16, .inl (upd (upd es 0 (zTau ts)) 5 (zTau (ts + 1))))), (a, .inl (cB, 16 + 4 * ts, .inl kf)), (v, .inl (cB, 8, .inl vf))] H := hP
    have hD : va_D A [(h, .inr (1, [.int (nI 20), .int ix, .ref e, .ref x, .ref k, .int ini, .int c0, .int c1, .int c2])), (e, .inl (cI, 16, .inl (upd (upd es 0 (zTau ts)) 5 (zTau (ts + 1))))), (a, .inl (cB, 16 + 4 * ts, .inl kf)), (v, .inl (cB, 8, .inl vf))] := hD
    refine lv_aload_n hx hb dX2_setKey_60 rfl (lv_at hl 1 rfl) ?_
    refine va_get (D := (dC, dI)) (ci := 1) (v := .ref e) (C := RX2) (T := TX2) (N := 9) hx hb hts in_X2 hown hK hP 0 rfl rfl 2 (by decide) (hts _ q276) (fun _ h9 => h9) rfl dX2_setKey_61 ?_
    refine lv_bipush (v := nI 10) hx hb dX2_setKey_64 (by decide) ?_
    refine va_gets hx hb hE.1 hS hown (hts _ q408) (fun _ h9 => h9) dX2_setKey_66 ?_
    refine lv_iload_n hx hb dX2_setKey_69 rfl (lv_at hl 0 rfl) ?_
    refine lv_iconst (v := nI 2) hx hb dX2_setKey_70 (by decide) ?_
    refine lv_iadd hx hb dX2_setKey_71 ?_
    refine z_top (y := nI (ts + 2)) (nI_add ts 2) ?_
    refine z_tau (k := (ts + 2)) hx hb hE.2 hS (by omega) dX2_setKey_72 ?_
    refine z_iast (k := 10) (g := upd (upd (upd es 0 (zTau ts)) 5 (zTau (ts + 1))) 10 (zTau (ts + 2))) hx hb hK hP hD hS 1 1 rfl rfl (by decide) (by decide) rfl dX2_setKey_73 (fun H locs hP hD hS => ?_)
    have hP : va_P (dC, dI) vwCl [(h, .inr (1, [.int (nI 20), .int ix, .ref e, .ref x, .ref k, .int ini, .int c0, .int c1, .int c2])), (e, .inl (cI, 16, .inl (upd (upd (upd es 0 (zTau ts)) 5 (zTau (ts + 1))) 10 (zTau (ts + 2))))), (a, .inl (cB, 16 + 4 * ts, .inl kf)), (v, .inl (cB, 8, .inl vf))] H := hP
    have hD : va_D A [(h, .inr (1, [.int (nI 20), .int ix, .ref e, .ref x, .ref k, .int ini, .int c0, .int c1, .int c2])), (e, .inl (cI, 16, .inl (upd (upd (upd es 0 (zTau ts)) 5 (zTau (ts + 1))) 10 (zTau (ts + 2))))), (a, .inl (cB, 16 + 4 * ts, .inl kf)), (v, .inl (cB, 8, .inl vf))] := hD
    refine lv_aload_n hx hb dX2_setKey_74 rfl (lv_at hl 1 rfl) ?_
    refine va_get (D := (dC, dI)) (ci := 1) (v := .ref e) (C := RX2) (T := TX2) (N := 9) hx hb hts in_X2 hown hK hP 0 rfl rfl 2 (by decide) (hts _ q276) (fun _ h9 => h9) rfl dX2_setKey_75 ?_
    refine lv_bipush (v := nI 15) hx hb dX2_setKey_78 (by decide) ?_
    refine va_gets hx hb hE.1 hS hown (hts _ q408) (fun _ h9 => h9) dX2_setKey_80 ?_
    refine lv_iload_n hx hb dX2_setKey_83 rfl (lv_at hl 0 rfl) ?_
    refine lv_iconst (v := nI 3) hx hb dX2_setKey_84 (by decide) ?_
    refine lv_iadd hx hb dX2_setKey_85 ?_
    refine z_top (y := nI (ts + 3)) (nI_add ts 3) ?_
    refine z_tau (k := (ts + 3)) hx hb hE.2 hS (by omega) dX2_setKey_86 ?_
    refine z_iast (k := 15) (g := upd (upd (upd (upd es 0 (zTau ts)) 5 (zTau (ts + 1))) 10 (zTau (ts + 2))) 15 (zTau (ts + 3))) hx hb hK hP hD hS 1 1 rfl rfl (by decide) (by decide) rfl dX2_setKey_87 (fun H locs hP hD hS => ?_)
    have hP : va_P (dC, dI) vwCl [(h, .inr (1, [.int (nI 20), .int ix, .ref e, .ref x, .ref k, .int ini, .int c0, .int c1, .int c2])), (e, .inl (cI, 16, .inl (upd (upd (upd (upd es 0 (zTau ts)) 5 (zTau (ts + 1))) 10 (zTau (ts + 2))) 15 (zTau (ts + 3))))), (a, .inl (cB, 16 + 4 * ts, .inl kf)), (v, .inl (cB, 8, .inl vf))] H := hP
    have hD : va_D A [(h, .inr (1, [.int (nI 20), .int ix, .ref e, .ref x, .ref k, .int ini, .int c0, .int c1, .int c2])), (e, .inl (cI, 16, .inl (upd (upd (upd (upd es 0 (zTau ts)) 5 (zTau (ts + 1))) 10 (zTau (ts + 2))) 15 (zTau (ts + 3))))), (a, .inl (cB, 16 + 4 * ts, .inl kf)), (v, .inl (cB, 8, .inl vf))] := hD
    refine lv_aload_n hx hb dX2_setKey_88 rfl (lv_at hl 2 rfl) ?_
    refine lv_iconst (v := nI 0) hx hb dX2_setKey_89 (by decide) ?_
    refine lv_aload_n hx hb dX2_setKey_90 rfl (lv_at hl 1 rfl) ?_
    refine va_get (D := (dC, dI)) (ci := 1) (v := .ref e) (C := RX2) (T := TX2) (N := 9) hx hb hts in_X2 hown hK hP 0 rfl rfl 2 (by decide) (hts _ q276) (fun _ h9 => h9) rfl dX2_setKey_91 ?_
    refine lv_iconst (v := nI 1) hx hb dX2_setKey_94 (by decide) ?_
    refine lv_iconst (v := nI 4) hx hb dX2_setKey_95 (by decide) ?_
    refine z_callvS (wr := [(h, .inr (1, [.int (nI 20), .int ix, .ref e, .ref x, .ref k, .int ini, .int c0, .int c1, .int c2])), (v, .inl (cB, 8, .inl vf))]) (As := [.ref a, .int (nI 0), .ref e, .int (nI 1), .int (nI 4)]) (rest := []) ⟨hx, hb, hml, hown, hts⟩ (m_X5_littleEndianToInt l dC dI cB cI H.size a e (16 + 4 * ts) 16 0 1 4 kf (upd (upd (upd (upd es 0 (zTau ts)) 5 (zTau (ts + 1))) 10 (zTau (ts + 2))) 15 (zTau (ts + 3))) (by omega) (by decide) (by omega) (by decide)) (va_cwS 5 hts (lw_S q410 q411 q17 q412) rfl rfl rfl hd_X5_littleEndianToInt ⟨Nat.le_of_ble_eq_true rfl, Nat.le_of_ble_eq_true rfl⟩) ⟨zNo_good, trivial⟩ rfl hl.1 rfl (Nat.le_of_ble_eq_true rfl) dX2_setKey_96 ⟨Nat.le_of_ble_eq_true rfl, Nat.le_of_ble_eq_true rfl⟩ hS hK hP hD hA [2, 1] [0, 3] rfl (by decide) rfl (by decide) (by decide) (fun A1 t H locs hB J hS => ?_)
    skip
    obtain ⟨hP, hD⟩ := J _ hB
    clear hB J
    have hP : va_P (dC, dI) vwCl [(h, .inr (1, [.int (nI 20), .int ix, .ref e, .ref x, .ref k, .int ini, .int c0, .int c1, .int c2])), (v, .inl (cB, 8, .inl vf)), (a, .inl (cB, 16 + 4 * ts, .inl kf)), (e, .inl (cI, 16, .inl (rdls kf (upd (upd (upd (upd es 0 (zTau ts)) 5 (zTau (ts + 1))) 10 (zTau (ts + 2))) 15 (zTau (ts + 3))) 0 1 4)))] H := hP
    have hD : va_D A [(h, .inr (1, [.int (nI 20), .int ix, .ref e, .ref x, .ref k, .int ini, .int c0, .int c1, .int c2])), (v, .inl (cB, 8, .inl vf)), (a, .inl (cB, 16 + 4 * ts, .inl kf)), (e, .inl (cI, 16, .inl (rdls kf (upd (upd (upd (upd es 0 (zTau ts)) 5 (zTau (ts + 1))) 10 (zTau (ts + 2))) 15 (zTau (ts + 3))) 0 1 4)))] := hD
    refine lv_aload_n hx hb dX2_setKey_99 rfl (lv_at hl 2 rfl) ?_
    refine lv_aload_n hx hb dX2_setKey_100 rfl (lv_at hl 2 rfl) ?_
    refine va_alen (v := nI (16 + 4 * ts)) hx hb hK hP 2 0 rfl rfl rfl dX2_setKey_101 ?_
    refine lv_bipush (v := nI 16) hx hb dX2_setKey_102 (by decide) ?_
    refine lv_isub hx hb dX2_setKey_104 ?_
    refine z_top (y := nI (4 * ts)) ((pk_sub (by omega)).trans (congrArg nI (by omega))) ?_
    refine lv_aload_n hx hb dX2_setKey_105 rfl (lv_at hl 1 rfl) ?_
    refine va_get (D := (dC, dI)) (ci := 1) (v := .ref e) (C := RX2) (T := TX2) (N := 9) hx hb hts in_X2 hown hK hP 0 rfl rfl 2 (by decide) (hts _ q276) (fun _ h9 => h9) rfl dX2_setKey_106 ?_
    refine lv_bipush (v := nI 11) hx hb dX2_setKey_109 (by decide) ?_
    refine lv_iconst (v := nI 4) hx hb dX2_setKey_111 (by decide) ?_
    refine z_callvS (wr := [(h, .inr (1, [.int (nI 20), .int ix, .ref e, .ref x, .ref k, .int ini, .int c0, .int c1, .int c2])), (v, .inl (cB, 8, .inl vf))]) (As := [.ref a, .int (nI (4 * ts)), .ref e, .int (nI 11), .int (nI 4)]) (rest := []) ⟨hx, hb, hml, hown, hts⟩ (m_X5_littleEndianToInt l dC dI cB cI H.size a e (16 + 4 * ts) 16 (4 * ts) 11 4 kf (rdls kf (upd (upd (upd (upd es 0 (zTau ts)) 5 (zTau (ts + 1))) 10 (zTau (ts + 2))) 15 (zTau (ts + 3))) 0 1 4) (by omega) (by decide) (by omega) (by decide)) (va_cwS 5 hts (lw_S q410 q411 q17 q412) rfl rfl rfl hd_X5_littleEndianToInt ⟨Nat.le_of_ble_eq_true rfl, Nat.le_of_ble_eq_true rfl⟩) ⟨zNo_good, trivial⟩ rfl hl.1 rfl (Nat.le_of_ble_eq_true rfl) dX2_setKey_112 ⟨Nat.le_of_ble_eq_true rfl, Nat.le_of_ble_eq_true rfl⟩ hS hK hP hD hA [2, 3] [0, 1] rfl (by decide) rfl (by decide) (by decide) (fun A1 t H locs hB J hS => ?_)
    skip
    obtain ⟨hP, hD⟩ := J _ hB
    clear hB J
    have hP : va_P (dC, dI) vwCl [(h, .inr (1, [.int (nI 20), .int ix, .ref e, .ref x, .ref k, .int ini, .int c0, .int c1, .int c2])), (v, .inl (cB, 8, .inl vf)), (a, .inl (cB, 16 + 4 * ts, .inl kf)), (e, .inl (cI, 16, .inl (rdls kf (rdls kf (upd (upd (upd (upd es 0 (zTau ts)) 5 (zTau (ts + 1))) 10 (zTau (ts + 2))) 15 (zTau (ts + 3))) 0 1 4) (4 * ts) 11 4)))] H := hP
    have hD : va_D A [(h, .inr (1, [.int (nI 20), .int ix, .ref e, .ref x, .ref k, .int ini, .int c0, .int c1, .int c2])), (v, .inl (cB, 8, .inl vf)), (a, .inl (cB, 16 + 4 * ts, .inl kf)), (e, .inl (cI, 16, .inl (rdls kf (rdls kf (upd (upd (upd (upd es 0 (zTau ts)) 5 (zTau (ts + 1))) 10 (zTau (ts + 2))) 15 (zTau (ts + 3))) 0 1 4) (4 * ts) 11 4)))] := hD
    refine lv_aload_n hx hb dX2_setKey_115 rfl (lv_at hl 3 rfl) ?_
    refine lv_iconst (v := nI 0) hx hb dX2_setKey_116 (by decide) ?_
    refine lv_aload_n hx hb dX2_setKey_117 rfl (lv_at hl 1 rfl) ?_
    refine va_get (D := (dC, dI)) (ci := 1) (v := .ref e) (C := RX2) (T := TX2) (N := 9) hx hb hts in_X2 hown hK hP 0 rfl rfl 2 (by decide) (hts _ q276) (fun _ h9 => h9) rfl dX2_setKey_118 ?_
    refine lv_bipush (v := nI 6) hx hb dX2_setKey_121 (by decide) ?_
    refine lv_iconst (v := nI 2) hx hb dX2_setKey_123 (by decide) ?_
    refine z_callvS (wr := [(h, .inr (1, [.int (nI 20), .int ix, .ref e, .ref x, .ref k, .int ini, .int c0, .int c1, .int c2])), (a, .inl (cB, 16 + 4 * ts, .inl kf))]) (As := [.ref v, .int (nI 0), .ref e, .int (nI 6), .int (nI 2)]) (rest := []) ⟨hx, hb, hml, hown, hts⟩ (m_X5_littleEndianToInt l dC dI cB cI H.size v e 8 16 0 6 2 vf (rdls kf (rdls kf (upd (upd (upd (upd es 0 (zTau ts)) 5 (zTau (ts + 1))) 10 (zTau (ts + 2))) 15 (zTau (ts + 3))) 0 1 4) (4 * ts) 11 4) (by decide) (by decide) (by decide) (by decide)) (va_cwS 5 hts (lw_S q410 q411 q17 q412) rfl rfl rfl hd_X5_littleEndianToInt ⟨Nat.le_of_ble_eq_true rfl, Nat.le_of_ble_eq_true rfl⟩) ⟨zNo_good, trivial⟩ rfl hl.1 rfl (Nat.le_of_ble_eq_true rfl) dX2_setKey_124 ⟨Nat.le_of_ble_eq_true rfl, Nat.le_of_ble_eq_true rfl⟩ hS hK hP hD hA [1, 3] [0, 2] rfl (by decide) rfl (by decide) (by decide) (fun A1 t H locs hB J hS => ?_)
    skip
    obtain ⟨hP, hD⟩ := J _ hB
    clear hB J
    have hP : va_P (dC, dI) vwCl [(h, .inr (1, [.int (nI 20), .int ix, .ref e, .ref x, .ref k, .int ini, .int c0, .int c1, .int c2])), (a, .inl (cB, 16 + 4 * ts, .inl kf)), (v, .inl (cB, 8, .inl vf)), (e, .inl (cI, 16, .inl (setk ts kf vf es)))] H := hP
    have hD : va_D A [(h, .inr (1, [.int (nI 20), .int ix, .ref e, .ref x, .ref k, .int ini, .int c0, .int c1, .int c2])), (a, .inl (cB, 16 + 4 * ts, .inl kf)), (v, .inl (cB, 8, .inl vf)), (e, .inl (cI, 16, .inl (setk ts kf vf es)))] := hD
    exact z_vret hx hb hr hlocks hS (Nat.le_of_ble_eq_true rfl) (Nat.le_of_ble_eq_true rfl) dX2_setKey_127 (fun t ht => zB_of hP hD [0, 3, 1, 2] rfl (by decide) ht)
  refine lv_aload_n hx hb dX2_setKey_4 rfl (lv_at hl 1 rfl) ?_
  refine va_alen (v := nI (16 + 4 * ts)) hx hb hK hP 2 0 rfl rfl rfl dX2_setKey_5 ?_
  refine lv_bipush (v := nI 16) hx hb dX2_setKey_6 (by decide) ?_
  rcases hts4 with h4 | h4
  · skip
    refine lv_icmp_eq (tgt := 28) hx hb dX2_setKey_8 (by decide) (fun _ => ?_) (fun hc => absurd (by rw [h4]) hc)
    exact tail
  · skip
    refine lv_icmp_eq (tgt := 28) hx hb dX2_setKey_8 (by decide) (fun hc => absurd hc (by rw [h4]; decide)) (fun _ => ?_)
    refine lv_aload_n hx hb dX2_setKey_11 rfl (lv_at hl 1 rfl) ?_
    refine va_alen (v := nI (16 + 4 * ts)) hx hb hK hP 2 0 rfl rfl rfl dX2_setKey_12 ?_
    refine lv_bipush (v := nI 32) hx hb dX2_setKey_13 (by decide) ?_
    refine lv_icmp_eq (tgt := 28) hx hb dX2_setKey_15 (by decide) (fun _ => ?_) (fun hc => absurd (by rw [h4]) hc)
    exact tail
theorem hd_X2_init_3 : yX2_init_3.cls ≠ "java/lang/invoke/MethodHandle" ∧ yX2_init_3.cls ≠ "java/lang/invoke/VarHandle" ∧ (parseMethodDescriptor yX2_init_3.desc).map (fun d => d.parameters.length) = some 2 := by decide +kernel
theorem hv_X2_init_3 : yX2_init_3.cls = RX2 ∧ yX2_init_3.cls ≠ "java/lang/invoke/MethodHandle" ∧ yX2_init_3.cls ≠ "java/lang/invoke/VarHandle" ∧ (parseMethodDescriptor yX2_init_3.desc).map (fun d => d.parameters.length) = some 2 := ⟨rfl, hd_X2_init_3⟩
set_option maxHeartbeats 4000000 in
set_option maxRecDepth 100000 in
theorem m_X2_init_3 (l : Launch) (dC : Nat → ClassId) (dI : Nat → Nat → Nat) (cB cI : ClassId) (sz : Nat) (h e x k pp v kp a tt ts : Nat) (ix ini c0 c1 c2 : Int32) (es xs ks kf vf : Nat → Int32) (hts4 : ts = 0 ∨ ts = 4) : zMv l yX2_init_3 cX2_init_3 7 none 5 200 0 0 [.ref h, .int (nI 1), .ref pp] (zET tt) (dC, dI) cB cI sz [(h, .inr (1, [.int (nI 20), .int ix, .ref e, .ref x, .ref k, .int ini, .int c0, .int c1, .int c2])), (e, .inl (cI, 16, .inl es)), (x, .inl (cI, 16, .inl xs)), (k, .inl (cB, 64, .inl ks)), (pp, .inr (2, [.ref v, .ref kp])), (v, .inl (cB, 8, .inl vf)), (kp, .inr (3, [.ref a])), (a, .inl (cB, 16 + 4 * ts, .inl kf))] (fun A t => ∃ (xt kt : Nat → Int32), zKs (rst (setk ts kf vf es)) kt ∧ zB (dC, dI) A [(h, .inr (1, [.int (nI 20), .int (nI 0), .ref e, .ref x, .ref k, .int (nI 1), .int (nI 0), .int (nI 0), .int (nI 0)])), (e, .inl (cI, 16, .inl (rst (setk ts kf vf es)))), (x, .inl (cI, 16, .inl xt)), (k, .inl (cB, 64, .inl kt))] t) := by
  refine z_ofv (C := RX2) rfl (by decide +kernel) (Nat.le_of_ble_eq_true rfl) ?_
  intro pr ev s m below meth c A hx hb hr hlocks hml hown hname hts hK hP hD hA hE hS ls hl
  have hl : lv_has ls 7 [(0, .ref h), (1, .int (nI 1)), (2, .ref pp)] := hl
  refine lv_aload_n hx hb dX2_init_3_0 rfl (lv_at hl 2 rfl) ?_
  refine va_instS hx hb hown (hts _ q391) (hK.1 2 _ rfl).2 (va_recv hK hP (ci := 2) (q0 := 4) rfl rfl) dX2_init_3_1 ?_
  refine lv_if_ne (tgt := 17) hx hb dX2_init_3_4 (by decide) (fun _ => ?_) (fun hc => absurd hc (by decide))
  refine lv_aload_n hx hb dX2_init_3_17 rfl (lv_at hl 2 rfl) ?_
  refine va_castS hx hb hown (hts _ q391) (hK.1 2 _ rfl).2 (va_recv hK hP (ci := 2) (q0 := 4) rfl rfl) dX2_init_3_18 ?_
  refine lv_astore_n (lv' := [(3, .ref pp), (0, .ref h), (1, .int (nI 1)), (2, .ref pp)]) hx hb dX2_init_3_21 rfl hl (by decide) rfl (fun ls hl => ?_)
  refine lv_aload_n hx hb dX2_init_3_22 rfl (lv_at hl 0 rfl) ?_
  refine z_readrV (As := []) (rest := []) ⟨hx, hb, hml, hown, hts⟩ (m_X3_getIV l dC dI cB cI s.heap.size pp v kp) (cwV 0 hts (lw_V q392 q393 q394 q13 q395) rfl rfl rfl hv_X3_getIV ⟨Nat.le_of_ble_eq_true rfl, Nat.le_of_ble_eq_true rfl⟩) ⟨zNo_good, trivial⟩ (va_recv hK hP (ci := 2) (q0 := 4) rfl rfl) rfl hl.1 rfl (Nat.le_of_ble_eq_true rfl) dX2_init_3_23 ⟨Nat.le_of_ble_eq_true rfl, Nat.le_of_ble_eq_true rfl⟩ hS hK hP hD hA [4] rfl (by decide) ?_
  refine lv_astore (lv' := [(4, .ref v), (3, .ref pp), (0, .ref h), (1, .int (nI 1)), (2, .ref pp)]) hx hb dX2_init_3_26 hl (by decide) rfl (fun ls hl => ?_)
  refine lv_aload hx hb dX2_init_3_28 (lv_at hl 0 rfl) ?_
  refine lv_ifnull hx hb dX2_init_3_30 ?_
  refine lv_aload hx hb dX2_init_3_33 (lv_at hl 0 rfl) ?_
  refine va_alen (v := nI 8) hx hb hK hP 5 0 rfl rfl rfl dX2_init_3_35 ?_
  refine lv_aload_n hx hb dX2_init_3_36 rfl (lv_at hl 2 rfl) ?_
  refine z_readV (As := []) (rest := [.int (nI 8)]) ⟨hx, hb, hml, hown, hts⟩ (m_X2_getNonceSize l dC dI cB cI s.heap.size h) (cwV 0 hts (lw_V q396 q397 q398 q8 q399) rfl rfl rfl hv_X2_getNonceSize ⟨Nat.le_of_ble_eq_true rfl, Nat.le_of_ble_eq_true rfl⟩) ⟨zNo_good, trivial⟩ (va_recv hK hP (ci := 1) (q0 := 0) rfl rfl) rfl hl.1 rfl (Nat.le_of_ble_eq_true rfl) dX2_init_3_37 ⟨Nat.le_of_ble_eq_true rfl, Nat.le_of_ble_eq_true rfl⟩ hS hK hP hD hA [] rfl (by decide) ?_
  refine lv_icmp_eq (tgt := 53) hx hb dX2_init_3_40 (by decide) (fun _ => ?_) (fun hc => absurd rfl hc)
  refine lv_aload_n hx hb dX2_init_3_53 rfl (lv_at hl 1 rfl) ?_
  refine z_readrV (As := []) (rest := []) ⟨hx, hb, hml, hown, hts⟩ (m_X3_getParameters l dC dI cB cI s.heap.size pp v kp) (cwV 0 hts (lw_V q400 q401 q402 q13 q403) rfl rfl rfl hv_X3_getParameters ⟨Nat.le_of_ble_eq_true rfl, Nat.le_of_ble_eq_true rfl⟩) ⟨zNo_good, trivial⟩ (va_recv hK hP (ci := 2) (q0 := 4) rfl rfl) rfl hl.1 rfl (Nat.le_of_ble_eq_true rfl) dX2_init_3_54 ⟨Nat.le_of_ble_eq_true rfl, Nat.le_of_ble_eq_true rfl⟩ hS hK hP hD hA [4] rfl (by decide) ?_
  refine lv_astore (lv' := [(5, .ref kp), (4, .ref v), (3, .ref pp), (0, .ref h), (1, .int (nI 1)), (2, .ref pp)]) hx hb dX2_init_3_57 hl (by decide) rfl (fun ls hl => ?_)
  refine lv_aload hx hb dX2_init_3_59 (lv_at hl 0 rfl) ?_
  refine lv_ifnonnull (tgt := 91) hx hb dX2_init_3_61 (by decide) ?_
  refine lv_aload hx hb dX2_init_3_91 (lv_at hl 0 rfl) ?_
  refine va_instS hx hb hown (hts _ q416) (hK.1 3 _ rfl).2 (va_recv hK hP (ci := 3) (q0 := 6) rfl rfl) dX2_init_3_93 ?_
  refine lv_if_eq (tgt := 120) hx hb dX2_init_3_96 (by decide) (fun hc => absurd hc (by decide)) (fun _ => ?_)
  refine lv_aload hx hb dX2_init_3_99 (lv_at hl 0 rfl) ?_
  refine va_castS hx hb hown (hts _ q416) (hK.1 3 _ rfl).2 (va_recv hK hP (ci := 3) (q0 := 6) rfl rfl) dX2_init_3_101 ?_
  refine z_readrV (As := []) (rest := []) ⟨hx, hb, hml, hown, hts⟩ (m_X4_getKey l dC dI cB cI s.heap.size kp a) (cwV 0 hts (lw_V q417 q418 q419 q14 q420) rfl rfl rfl hv_X4_getKey ⟨Nat.le_of_ble_eq_true rfl, Nat.le_of_ble_eq_true rfl⟩) ⟨zNo_good, trivial⟩ (va_recv hK hP (ci := 3) (q0 := 6) rfl rfl) rfl hl.1 rfl (Nat.le_of_ble_eq_true rfl) dX2_init_3_104 ⟨Nat.le_of_ble_eq_true rfl, Nat.le_of_ble_eq_true rfl⟩ hS hK hP hD hA [6] rfl (by decide) ?_
  refine lv_astore (lv' := [(6, .ref a), (5, .ref kp), (4, .ref v), (3, .ref pp), (0, .ref h), (1, .int (nI 1)), (2, .ref pp)]) hx hb dX2_init_3_107 hl (by decide) rfl (fun ls hl => ?_)
  refine lv_aload_n hx hb dX2_init_3_109 rfl (lv_at hl 4 rfl) ?_
  refine lv_aload hx hb dX2_init_3_110 (lv_at hl 0 rfl) ?_
  refine lv_aload hx hb dX2_init_3_112 (lv_at hl 2 rfl) ?_
  refine z_callvV (wr := [(x, .inl (cI, 16, .inl xs)), (k, .inl (cB, 64, .inl ks)), (pp, .inr (2, [.ref v, .ref kp])), (kp, .inr (3, [.ref a]))]) (As := [.ref a, .ref v]) (rest := []) ⟨hx, hb, hml, hown, hts⟩ (m_X2_setKey l dC dI cB cI s.heap.size h e x k a v tt ts ix ini c0 c1 c2 es kf vf hts4) (cwV 2 hts (lw_V q404 q405 q406 q8 q407) rfl rfl rfl hv_X2_setKey ⟨Nat.le_of_ble_eq_true rfl, Nat.le_of_ble_eq_true rfl⟩) ⟨zET_good tt, hE⟩ (va_recv hK hP (ci := 1) (q0 := 0) rfl rfl) rfl hl.1 rfl (Nat.le_of_ble_eq_true rfl) dX2_init_3_114 ⟨Nat.le_of_ble_eq_true rfl, Nat.le_of_ble_eq_true rfl⟩ hS hK hP hD hA [0, 1, 7, 5] [2, 3, 4, 6] rfl (by decide) rfl (by decide) (by decide) (fun A1 t H locs hB J hS => ?_)
  skip
  obtain ⟨hP, hD⟩ := J _ hB
  clear hB J
  have hP : va_P (dC, dI) vwCl [(x, .inl (cI, 16, .inl xs)), (k, .inl (cB, 64, .inl ks)), (pp, .inr (2, [.ref v, .ref kp])), (kp, .inr (3, [.ref a])), (h, .inr (1, [.int (nI 20), .int ix, .ref e, .ref x, .ref k, .int ini, .int c0, .int c1, .int c2])), (e, .inl (cI, 16, .inl (setk ts kf vf es))), (a, .inl (cB, 16 + 4 * ts, .inl kf)), (v, .inl (cB, 8, .inl vf))] H := hP
  have hD : va_D A [(x, .inl (cI, 16, .inl xs)), (k, .inl (cB, 64, .inl ks)), (pp, .inr (2, [.ref v, .ref kp])), (kp, .inr (3, [.ref a])), (h, .inr (1, [.int (nI 20), .int ix, .ref e, .ref x, .ref k, .int ini, .int c0, .int c1, .int c2])), (e, .inl (cI, 16, .inl (setk ts kf vf es))), (a, .inl (cB, 16 + 4 * ts, .inl kf)), (v, .inl (cB, 8, .inl vf))] := hD
  refine lv_goto (tgt := 130) hx hb dX2_init_3_117 (by decide) ?_
  refine lv_aload_n hx hb dX2_init_3_130 rfl (lv_at hl 4 rfl) ?_
  refine z_callvV (wr := [(pp, .inr (2, [.ref v, .ref kp])), (kp, .inr (3, [.ref a])), (a, .inl (cB, 16 + 4 * ts, .inl kf)), (v, .inl (cB, 8, .inl vf))]) (As := []) (rest := []) ⟨hx, hb, hml, hown, hts⟩ (m_X2_reset l dC dI cB cI H.size h e x k ix ini c0 c1 c2 (setk ts kf vf es) xs ks) (cwV 0 hts (lw_V q421 q239 q240 q8 q241) rfl rfl rfl hv_X2_reset ⟨Nat.le_of_ble_eq_true rfl, Nat.le_of_ble_eq_true rfl⟩) ⟨zNo_good, trivial⟩ (va_recv hK hP (ci := 1) (q0 := 4) rfl rfl) rfl hl.1 rfl (Nat.le_of_ble_eq_true rfl) dX2_init_3_131 ⟨Nat.le_of_ble_eq_true rfl, Nat.le_of_ble_eq_true rfl⟩ hS hK hP hD hA [4, 5, 0, 1] [2, 3, 6, 7] rfl (by decide) rfl (by decide) (by decide) (fun A1 t H locs hB J hS => ?_)
  obtain ⟨xt, kt, hk, hB⟩ := hB
  obtain ⟨hP, hD⟩ := J _ hB
  clear hB J
  have hP : va_P (dC, dI) vwCl [(pp, .inr (2, [.ref v, .ref kp])), (kp, .inr (3, [.ref a])), (a, .inl (cB, 16 + 4 * ts, .inl kf)), (v, .inl (cB, 8, .inl vf)), (h, .inr (1, [.int (nI 20), .int (nI 0), .ref e, .ref x, .ref k, .int ini, .int (nI 0), .int (nI 0), .int (nI 0)])), (e, .inl (cI, 16, .inl (rst (setk ts kf vf es)))), (x, .inl (cI, 16, .inl xt)), (k, .inl (cB, 64, .inl kt))] H := hP
  have hD : va_D A [(pp, .inr (2, [.ref v, .ref kp])), (kp, .inr (3, [.ref a])), (a, .inl (cB, 16 + 4 * ts, .inl kf)), (v, .inl (cB, 8, .inl vf)), (h, .inr (1, [.int (nI 20), .int (nI 0), .ref e, .ref x, .ref k, .int ini, .int (nI 0), .int (nI 0), .int (nI 0)])), (e, .inl (cI, 16, .inl (rst (setk ts kf vf es)))), (x, .inl (cI, 16, .inl xt)), (k, .inl (cB, 64, .inl kt))] := hD
  refine lv_aload_n hx hb dX2_init_3_134 rfl (lv_at hl 4 rfl) ?_
  refine lv_iconst (v := nI 1) hx hb dX2_init_3_135 (by decide) ?_
  refine va_put (D := (dC, dI)) (ci := 1) (v := .int (nI 1)) (ty := .boolean) (C := RX2) (T := TX2) (N := 9) hx hb hts in_X2 tyX2 tyX2_ok nmX2 hown hK hP hD hS 4 rfl rfl 5 (by decide) (hts _ q279) (fun _ h9 => h9) rfl (by decide +kernel) rfl rfl (Nat.le_of_ble_eq_true rfl) dX2_init_3_136 (fun H locs hP hD hS => ?_)
  have hP : va_P (dC, dI) vwCl [(pp, .inr (2, [.ref v, .ref kp])), (kp, .inr (3, [.ref a])), (a, .inl (cB, 16 + 4 * ts, .inl kf)), (v, .inl (cB, 8, .inl vf)), (h, .inr (1, [.int (nI 20), .int (nI 0), .ref e, .ref x, .ref k, .int (nI 1), .int (nI 0), .int (nI 0), .int (nI 0)])), (e, .inl (cI, 16, .inl (rst (setk ts kf vf es)))), (x, .inl (cI, 16, .inl xt)), (k, .inl (cB, 64, .inl kt))] H := hP
  have hD : va_D A [(pp, .inr (2, [.ref v, .ref kp])), (kp, .inr (3, [.ref a])), (a, .inl (cB, 16 + 4 * ts, .inl kf)), (v, .inl (cB, 8, .inl vf)), (h, .inr (1, [.int (nI 20), .int (nI 0), .ref e, .ref x, .ref k, .int (nI 1), .int (nI 0), .int (nI 0), .int (nI 0)])), (e, .inl (cI, 16, .inl (rst (setk ts kf vf es)))), (x, .inl (cI, 16, .inl xt)), (k, .inl (cB, 64, .inl kt))] := hD
  exact z_vret hx hb hr hlocks hS (Nat.le_of_ble_eq_true rfl) (Nat.le_of_ble_eq_true rfl) dX2_init_3_139 (fun t ht => ⟨xt, kt, hk, zB_of hP hD [4, 5, 6, 7] rfl (by decide) ht⟩)
end
section
/-! SalsaDesk -/
set_option maxRecDepth 100000
theorem hd_X1_init : yX1_init.cls ≠ "java/lang/invoke/MethodHandle" ∧ yX1_init.cls ≠ "java/lang/invoke/VarHandle" ∧ (parseMethodDescriptor yX1_init.desc).map (fun d => d.parameters.length) = some 0 := by decide +kernel
set_option maxHeartbeats 4000000 in
set_option maxRecDepth 100000 in
theorem m_X1_init (l : Launch) (dC : Nat → ClassId) (dI : Nat → Nat → Nat) (cB cI : ClassId) (sz : Nat) (h : Nat) : zMv l yX1_init cX1_init 1 none 3 120 8 425 [.ref h] zNo (dC, dI) cB cI sz [(h, .inr (0, [.null, .int 0, .int 0, .null, .null, .null, .int 0, .null]))] (fun A t => ∃ (e k n tx o : Nat), zB (dC, dI) A [(h, .inr (0, [.ref e, .int (nI 0), .int (nI 0), .ref k, .ref n, .ref tx, .int (nI 0), .ref o])), (k, .inl (cB, 32, .inl (fun _ => 0))), (n, .inl (cB, 32, .inl (fun _ => 0))), (tx, .inl (cB, 256, .inl (fun _ => 0)))] t) := by
  refine z_ofv (C := RX1) rfl (by decide +kernel) (Nat.le_of_ble_eq_true rfl) ?_
  intro pr ev s m below meth c A hx hb hr hlocks hml hown hname hts hK hP hD hA hE hS ls hl
  have hl : lv_has ls 1 [(0, .ref h)] := hl
  refine lv_aload_n hx hb dX1_init_0 rfl (lv_at hl 0 rfl) ?_
  refine W.objInit hx hb hown (hts _ q264) (hts _ q68) (hts _ q69) rfl (by rw [hml]; exact hl.1) rfl dX1_init_1 (Nat.le_of_ble_eq_true rfl) (Nat.le_of_ble_eq_true rfl) ?_
  refine W.eq (g2 := F0 m 4 ls []) rfl ?_
  refine lv_aload_n hx hb dX1_init_4 rfl (lv_at hl 0 rfl) ?_
  refine va_new (ci := 1) (fs := [.int 0, .int 0, .null, .null, .null, .int 0, .int 0, .int 0, .int 0]) (C := RX2) (T := TX2) (N := 9) hx hb hts in_X2 tyX2 tyX2_ok hown (hts _ q265) (hts _ q154) (hts _ q8) hK hP hD hS hA rfl (z_fsX2) (Nat.le_of_ble_eq_true rfl) (Nat.le_of_ble_eq_true rfl) dX1_init_5 (fun e H hP hD hS => ?_)
  have hP : va_P (dC, dI) vwCl [(h, .inr (0, [.null, .int 0, .int 0, .null, .null, .null, .int 0, .null])), (e, .inr (1, [.int 0, .int 0, .null, .null, .null, .int 0, .int 0, .int 0, .int 0]))] H := hP
  have hD : va_D A [(h, .inr (0, [.null, .int 0, .int 0, .null, .null, .null, .int 0, .null])), (e, .inr (1, [.int 0, .int 0, .null, .null, .null, .int 0, .int 0, .int 0, .int 0]))] := hD
  refine lv_dup hx hb dX1_init_8 rfl ?_
  refine z_callvI (wr := [(h, .inr (0, [.null, .int 0, .int 0, .null, .null, .null, .int 0, .null]))]) (As := []) (rest := [.ref e, .ref h]) ⟨hx, hb, hml, hown, hts⟩ (m_X2_init l dC dI cB cI H.size e) (cwI 0 hts (lw_meth q268) rfl rfl rfl (hts _ q8) (hts _ q266) (hts _ q267) rfl hd_X2_init ⟨Nat.le_of_ble_eq_true rfl, Nat.le_of_ble_eq_true rfl⟩) ⟨zNo_good, trivial⟩ rfl hl.1 rfl (Nat.le_of_ble_eq_true rfl) dX1_init_9 ⟨Nat.le_of_ble_eq_true rfl, Nat.le_of_ble_eq_true rfl⟩ hS hK hP hD hA [1] [0] rfl (by decide) rfl (by decide) (by decide) (fun A1 t H locs hB J hS => ?_)
  obtain ⟨es, xs, ks, hB⟩ := hB
  obtain ⟨hP, hD⟩ := J _ hB
  clear hB J
  have hP : va_P (dC, dI) vwCl [(h, .inr (0, [.null, .int 0, .int 0, .null, .null, .null, .int 0, .null])), (e, .inr (1, [.int (nI 20), .int (nI 0), .ref es, .ref xs, .ref ks, .int (nI 0), .int (nI 0), .int (nI 0), .int (nI 0)])), (es, .inl (cI, 16, .inl (fun _ => 0))), (xs, .inl (cI, 16, .inl (fun _ => 0))), (ks, .inl (cB, 64, .inl (fun _ => 0)))] H := hP
  have hD : va_D A [(h, .inr (0, [.null, .int 0, .int 0, .null, .null, .null, .int 0, .null])), (e, .inr (1, [.int (nI 20), .int (nI 0), .ref es, .ref xs, .ref ks, .int (nI 0), .int (nI 0), .int (nI 0), .int (nI 0)])), (es, .inl (cI, 16, .inl (fun _ => 0))), (xs, .inl (cI, 16, .inl (fun _ => 0))), (ks, .inl (cB, 64, .inl (fun _ => 0)))] := hD
  refine va_put (D := (dC, dI)) (ci := 0) (v := .ref e) (ty := .object "Salsa20Engine") (C := RX1) (T := TX1) (N := 8) hx hb hts in_X1 tyX1 tyX1_ok nmX1 hown hK hP hD hS 0 rfl rfl 0 (by decide) (hts _ q303) (fun _ h9 => h9) rfl (by decide +kernel) rfl rfl (Nat.le_of_ble_eq_true rfl) dX1_init_12 (fun H locs hP hD hS => ?_)
  have hP : va_P (dC, dI) vwCl [(h, .inr (0, [.ref e, .int 0, .int 0, .null, .null, .null, .int 0, .null])), (e, .inr (1, [.int (nI 20), .int (nI 0), .ref es, .ref xs, .ref ks, .int (nI 0), .int (nI 0), .int (nI 0), .int (nI 0)])), (es, .inl (cI, 16, .inl (fun _ => 0))), (xs, .inl (cI, 16, .inl (fun _ => 0))), (ks, .inl (cB, 64, .inl (fun _ => 0)))] H := hP
  have hD : va_D A [(h, .inr (0, [.ref e, .int 0, .int 0, .null, .null, .null, .int 0, .null])), (e, .inr (1, [.int (nI 20), .int (nI 0), .ref es, .ref xs, .ref ks, .int (nI 0), .int (nI 0), .int (nI 0), .int (nI 0)])), (es, .inl (cI, 16, .inl (fun _ => 0))), (xs, .inl (cI, 16, .inl (fun _ => 0))), (ks, .inl (cB, 64, .inl (fun _ => 0)))] := hD
  refine lv_aload_n hx hb dX1_init_15 rfl (lv_at hl 0 rfl) ?_
  refine lv_bipush (v := nI 32) hx hb dX1_init_16 (by decide) ?_
  refine z_newb (N := 32) hx hb (hts _ q113) hK hP hD hS hA (by omega) (Nat.le_of_ble_eq_true rfl) (Nat.le_of_ble_eq_true rfl) dX1_init_18 (fun k H hP hD hS => ?_)
  have hP : va_P (dC, dI) vwCl [(h, .inr (0, [.ref e, .int 0, .int 0, .null, .null, .null, .int 0, .null])), (e, .inr (1, [.int (nI 20), .int (nI 0), .ref es, .ref xs, .ref ks, .int (nI 0), .int (nI 0), .int (nI 0), .int (nI 0)])), (es, .inl (cI, 16, .inl (fun _ => 0))), (xs, .inl (cI, 16, .inl (fun _ => 0))), (ks, .inl (cB, 64, .inl (fun _ => 0))), (k, .inl (cB, 32, .inl (fun _ => 0)))] H := hP
  have hD : va_D A [(h, .inr (0, [.ref e, .int 0, .int 0, .null, .null, .null, .int 0, .null])), (e, .inr (1, [.int (nI 20), .int (nI 0), .ref es, .ref xs, .ref ks, .int (nI 0), .int (nI 0), .int (nI 0), .int (nI 0)])), (es, .inl (cI, 16, .inl (fun _ => 0))), (xs, .inl (cI, 16, .inl (fun _ => 0))), (ks, .inl (cB, 64, .inl (fun _ => 0))), (k, .inl (cB, 32, .inl (fun _ => 0)))] := hD
  refine va_putF (D := (dC, dI)) (ci := 0) (v := .ref k) (ty := .array .byte) (C := RX1) (T := TX1) (N := 8) hx hb hts in_X1 tyX1 tyX1_ok nmX1 hown hK hP hD hS 0 rfl rfl 3 (by decide) (hts _ q306) (fun _ h9 => h9) rfl hname rfl (by decide +kernel) rfl rfl (Nat.le_of_ble_eq_true rfl) dX1_init_20 (fun H locs hP hD hS => ?_)
  have hP : va_P (dC, dI) vwCl [(h, .inr (0, [.ref e, .int 0, .int 0, .ref k, .null, .null, .int 0, .null])), (e, .inr (1, [.int (nI 20), .int (nI 0), .ref es, .ref xs, .ref ks, .int (nI 0), .int (nI 0), .int (nI 0), .int (nI 0)])), (es, .inl (cI, 16, .inl (fun _ => 0))), (xs, .inl (cI, 16, .inl (fun _ => 0))), (ks, .inl (cB, 64, .inl (fun _ => 0))), (k, .inl (cB, 32, .inl (fun _ => 0)))] H := hP
  have hD : va_D A [(h, .inr (0, [.ref e, .int 0, .int 0, .ref k, .null, .null, .int 0, .null])), (e, .inr (1, [.int (nI 20), .int (nI 0), .ref es, .ref xs, .ref ks, .int (nI 0), .int (nI 0), .int (nI 0), .int (nI 0)])), (es, .inl (cI, 16, .inl (fun _ => 0))), (xs, .inl (cI, 16, .inl (fun _ => 0))), (ks, .inl (cB, 64, .inl (fun _ => 0))), (k, .inl (cB, 32, .inl (fun _ => 0)))] := hD
  refine lv_aload_n hx hb dX1_init_23 rfl (lv_at hl 0 rfl) ?_
  refine lv_bipush (v := nI 32) hx hb dX1_init_24 (by decide) ?_
  refine z_newb (N := 32) hx hb (hts _ q113) hK hP hD hS hA (by omega) (Nat.le_of_ble_eq_true rfl) (Nat.le_of_ble_eq_true rfl) dX1_init_26 (fun n H hP hD hS => ?_)
  have hP : va_P (dC, dI) vwCl [(h, .inr (0, [.ref e, .int 0, .int 0, .ref k, .null, .null, .int 0, .null])), (e, .inr (1, [.int (nI 20), .int (nI 0), .ref es, .ref xs, .ref ks, .int (nI 0), .int (nI 0), .int (nI 0), .int (nI 0)])), (es, .inl (cI, 16, .inl (fun _ => 0))), (xs, .inl (cI, 16, .inl (fun _ => 0))), (ks, .inl (cB, 64, .inl (fun _ => 0))), (k, .inl (cB, 32, .inl (fun _ => 0))), (n, .inl (cB, 32, .inl (fun _ => 0)))] H := hP
  have hD : va_D A [(h, .inr (0, [.ref e, .int 0, .int 0, .ref k, .null, .null, .int 0, .null])), (e, .inr (1, [.int (nI 20), .int (nI 0), .ref es, .ref xs, .ref ks, .int (nI 0), .int (nI 0), .int (nI 0), .int (nI 0)])), (es, .inl (cI, 16, .inl (fun _ => 0))), (xs, .inl (cI, 16, .inl (fun _ => 0))), (ks, .inl (cB, 64, .inl (fun _ => 0))), (k, .inl (cB, 32, .inl (fun _ => 0))), (n, .inl (cB, 32, .inl (fun _ => 0)))] := hD
  refine va_putF (D := (dC, dI)) (ci := 0) (v := .ref n) (ty := .array .byte) (C := RX1) (T := TX1) (N := 8) hx hb hts in_X1 tyX1 tyX1_ok nmX1 hown hK hP hD hS 0 rfl rfl 4 (by decide) (hts _ q307) (fun _ h9 => h9) rfl hname rfl (by decide +kernel) rfl rfl (Nat.le_of_ble_eq_true rfl) dX1_init_28 (fun H locs hP hD hS => ?_)
  have hP : va_P (dC, dI) vwCl [(h, .inr (0, [.ref e, .int 0, .int 0, .ref k, .ref n, .null, .int 0, .null])), (e, .inr (1, [.int (nI 20), .int (nI 0), .ref es, .ref xs, .ref ks, .int (nI 0), .int (nI 0), .int (nI 0), .int (nI 0)])), (es, .inl (cI, 16, .inl (fun _ => 0))), (xs, .inl (cI, 16, .inl (fun _ => 0))), (ks, .inl (cB, 64, .inl (fun _ => 0))), (k, .inl (cB, 32, .inl (fun _ => 0))), (n, .inl (cB, 32, .inl (fun _ => 0)))] H := hP
  have hD : va_D A [(h, .inr (0, [.ref e, .int 0, .int 0, .ref k, .ref n, .null, .int 0, .null])), (e, .inr (1, [.int (nI 20), .int (nI 0), .ref es, .ref xs, .ref ks, .int (nI 0), .int (nI 0), .int (nI 0), .int (nI 0)])), (es, .inl (cI, 16, .inl (fun _ => 0))), (xs, .inl (cI, 16, .inl (fun _ => 0))), (ks, .inl (cB, 64, .inl (fun _ => 0))), (k, .inl (cB, 32, .inl (fun _ => 0))), (n, .inl (cB, 32, .inl (fun _ => 0)))] := hD
  refine lv_aload_n hx hb dX1_init_31 rfl (lv_at hl 0 rfl) ?_
  refine lv_sipush (v := nI 256) hx hb dX1_init_32 (by decide) ?_
  refine z_newb (N := 256) hx hb (hts _ q113) hK hP hD hS hA (by omega) (Nat.le_of_ble_eq_true rfl) (Nat.le_of_ble_eq_true rfl) dX1_init_35 (fun tx H hP hD hS => ?_)
  have hP : va_P (dC, dI) vwCl [(h, .inr (0, [.ref e, .int 0, .int 0, .ref k, .ref n, .null, .int 0, .null])), (e, .inr (1, [.int (nI 20), .int (nI 0), .ref es, .ref xs, .ref ks, .int (nI 0), .int (nI 0), .int (nI 0), .int (nI 0)])), (es, .inl (cI, 16, .inl (fun _ => 0))), (xs, .inl (cI, 16, .inl (fun _ => 0))), (ks, .inl (cB, 64, .inl (fun _ => 0))), (k, .inl (cB, 32, .inl (fun _ => 0))), (n, .inl (cB, 32, .inl (fun _ => 0))), (tx, .inl (cB, 256, .inl (fun _ => 0)))] H := hP
  have hD : va_D A [(h, .inr (0, [.ref e, .int 0, .int 0, .ref k, .ref n, .null, .int 0, .null])), (e, .inr (1, [.int (nI 20), .int (nI 0), .ref es, .ref xs, .ref ks, .int (nI 0), .int (nI 0), .int (nI 0), .int (nI 0)])), (es, .inl (cI, 16, .inl (fun _ => 0))), (xs, .inl (cI, 16, .inl (fun _ => 0))), (ks, .inl (cB, 64, .inl (fun _ => 0))), (k, .inl (cB, 32, .inl (fun _ => 0))), (n, .inl (cB, 32, .inl (fun _ => 0))), (tx, .inl (cB, 256, .inl (fun _ => 0)))] := hD
  refine va_putF (D := (dC, dI)) (ci := 0) (v := .ref tx) (ty := .array .byte) (C := RX1) (T := TX1) (N := 8) hx hb hts in_X1 tyX1 tyX1_ok nmX1 hown hK hP hD hS 0 rfl rfl 5 (by decide) (hts _ q308) (fun _ h9 => h9) rfl hname rfl (by decide +kernel) rfl rfl (Nat.le_of_ble_eq_true rfl) dX1_init_37 (fun H locs hP hD hS => ?_)
  have hP : va_P (dC, dI) vwCl [(h, .inr (0, [.ref e, .int 0, .int 0, .ref k, .ref n, .ref tx, .int 0, .null])), (e, .inr (1, [.int (nI 20), .int (nI 0), .ref es, .ref xs, .ref ks, .int (nI 0), .int (nI 0), .int (nI 0), .int (nI 0)])), (es, .inl (cI, 16, .inl (fun _ => 0))), (xs, .inl (cI, 16, .inl (fun _ => 0))), (ks, .inl (cB, 64, .inl (fun _ => 0))), (k, .inl (cB, 32, .inl (fun _ => 0))), (n, .inl (cB, 32, .inl (fun _ => 0))), (tx, .inl (cB, 256, .inl (fun _ => 0)))] H := hP
  have hD : va_D A [(h, .inr (0, [.ref e, .int 0, .int 0, .ref k, .ref n, .ref tx, .int 0, .null])), (e, .inr (1, [.int (nI 20), .int (nI 0), .ref es, .ref xs, .ref ks, .int (nI 0), .int (nI 0), .int (nI 0), .int (nI 0)])), (es, .inl (cI, 16, .inl (fun _ => 0))), (xs, .inl (cI, 16, .inl (fun _ => 0))), (ks, .inl (cB, 64, .inl (fun _ => 0))), (k, .inl (cB, 32, .inl (fun _ => 0))), (n, .inl (cB, 32, .inl (fun _ => 0))), (tx, .inl (cB, 256, .inl (fun _ => 0)))] := hD
  refine lv_aload_n hx hb dX1_init_40 rfl (lv_at hl 0 rfl) ?_
  refine lv_iconst (v := nI 0) hx hb dX1_init_41 (by decide) ?_
  refine z_newb (N := 0) hx hb (hts _ q113) hK hP hD hS hA (by omega) (Nat.le_of_ble_eq_true rfl) (Nat.le_of_ble_eq_true rfl) dX1_init_42 (fun o H hP hD hS => ?_)
  have hP : va_P (dC, dI) vwCl [(h, .inr (0, [.ref e, .int 0, .int 0, .ref k, .ref n, .ref tx, .int 0, .null])), (e, .inr (1, [.int (nI 20), .int (nI 0), .ref es, .ref xs, .ref ks, .int (nI 0), .int (nI 0), .int (nI 0), .int (nI 0)])), (es, .inl (cI, 16, .inl (fun _ => 0))), (xs, .inl (cI, 16, .inl (fun _ => 0))), (ks, .inl (cB, 64, .inl (fun _ => 0))), (k, .inl (cB, 32, .inl (fun _ => 0))), (n, .inl (cB, 32, .inl (fun _ => 0))), (tx, .inl (cB, 256, .inl (fun _ => 0))), (o, .inl (cB, 0, .inl (fun _ => 0)))] H := hP
  have hD : va_D A [(h, .inr (0, [.ref e, .int 0, .int 0, .ref k, .ref n, .ref tx, .int 0, .null])), (e, .inr (1, [.int (nI 20), .int (nI 0), .ref es, .ref xs, .ref ks, .int (nI 0), .int (nI 0), .int (nI 0), .int (nI 0)])), (es, .inl (cI, 16, .inl (fun _ => 0))), (xs, .inl (cI, 16, .inl (fun _ => 0))), (ks, .inl (cB, 64, .inl (fun _ => 0))), (k, .inl (cB, 32, .inl (fun _ => 0))), (n, .inl (cB, 32, .inl (fun _ => 0))), (tx, .inl (cB, 256, .inl (fun _ => 0))), (o, .inl (cB, 0, .inl (fun _ => 0)))] := hD
  refine va_put (D := (dC, dI)) (ci := 0) (v := .ref o) (ty := .array .byte) (C := RX1) (T := TX1) (N := 8) hx hb hts in_X1 tyX1 tyX1_ok nmX1 hown hK hP hD hS 0 rfl rfl 7 (by decide) (hts _ q310) (fun _ h9 => h9) rfl (by decide +kernel) rfl rfl (Nat.le_of_ble_eq_true rfl) dX1_init_44 (fun H locs hP hD hS => ?_)
  have hP : va_P (dC, dI) vwCl [(h, .inr (0, [.ref e, .int 0, .int 0, .ref k, .ref n, .ref tx, .int 0, .ref o])), (e, .inr (1, [.int (nI 20), .int (nI 0), .ref es, .ref xs, .ref ks, .int (nI 0), .int (nI 0), .int (nI 0), .int (nI 0)])), (es, .inl (cI, 16, .inl (fun _ => 0))), (xs, .inl (cI, 16, .inl (fun _ => 0))), (ks, .inl (cB, 64, .inl (fun _ => 0))), (k, .inl (cB, 32, .inl (fun _ => 0))), (n, .inl (cB, 32, .inl (fun _ => 0))), (tx, .inl (cB, 256, .inl (fun _ => 0))), (o, .inl (cB, 0, .inl (fun _ => 0)))] H := hP
  have hD : va_D A [(h, .inr (0, [.ref e, .int 0, .int 0, .ref k, .ref n, .ref tx, .int 0, .ref o])), (e, .inr (1, [.int (nI 20), .int (nI 0), .ref es, .ref xs, .ref ks, .int (nI 0), .int (nI 0), .int (nI 0), .int (nI 0)])), (es, .inl (cI, 16, .inl (fun _ => 0))), (xs, .inl (cI, 16, .inl (fun _ => 0))), (ks, .inl (cB, 64, .inl (fun _ => 0))), (k, .inl (cB, 32, .inl (fun _ => 0))), (n, .inl (cB, 32, .inl (fun _ => 0))), (tx, .inl (cB, 256, .inl (fun _ => 0))), (o, .inl (cB, 0, .inl (fun _ => 0)))] := hD
  exact z_vret hx hb hr hlocks hS (Nat.le_of_ble_eq_true rfl) (Nat.le_of_ble_eq_true rfl) dX1_init_47 (fun t ht => ⟨e, k, n, tx, o, zB_of hP hD [0, 5, 6, 7] rfl (by decide) ht⟩)
theorem hd_X1_word : yX1_word.cls ≠ "java/lang/invoke/MethodHandle" ∧ yX1_word.cls ≠ "java/lang/invoke/VarHandle" ∧ (parseMethodDescriptor yX1_word.desc).map (fun d => d.parameters.length) = some 3 := by decide +kernel
set_option maxHeartbeats 4000000 in
set_option maxRecDepth 100000 in
theorem m_X1_word (l : Launch) (dC : Nat → ClassId) (dI : Nat → Nat → Nat) (cB cI : ClassId) (sz : Nat) (a n o : Nat) (f : Nat → Int32) (x : Int32) (ho : o + 3 < n) (hn : n ≤ 4096) : zMv l yX1_word cX1_word 3 none 0 0 0 0 [.ref a, .int (nI o), .int x] zNo (dC, dI) cB cI sz [(a, .inl (cB, n, .inl f))] (fun A t => zB (dC, dI) A [(a, .inl (cB, n, .inl (wr4 f o x)))] t) := by
  refine z_ofv (C := RX1) rfl (by decide +kernel) (Nat.le_of_ble_eq_true rfl) ?_
  intro pr ev s m below meth c A hx hb hr hlocks hml hown hname hts hK hP hD hA hE hS ls hl
  have hl : lv_has ls 3 [(0, .ref a), (1, .int (nI o)), (2, .int x)] := hl
  refine lv_aload_n hx hb dX1_word_0 rfl (lv_at hl 0 rfl) ?_
  refine lv_iload_n hx hb dX1_word_1 rfl (lv_at hl 1 rfl) ?_
  refine lv_iload_n hx hb dX1_word_2 rfl (lv_at hl 2 rfl) ?_
  refine lv_bipush (v := 24) hx hb dX1_word_3 (by decide) ?_
  refine lv_ishr hx hb dX1_word_5 ?_
  refine lv_i2b (v := bt8 (x >>> ((24 : Int32) &&& 31))) hx hb dX1_word_6 rfl ?_
  refine z_bast (k := o) (v := bt8 (x >>> ((24 : Int32) &&& 31))) (g := upd f o (bt8 (x >>> ((24 : Int32) &&& 31)))) hx hb hK hP hD hS 0 0 rfl rfl (by omega) (by omega) (vp_bt8 _) rfl dX1_word_7 (fun H locs hP hD hS => ?_)
  have hP : va_P (dC, dI) vwCl [(a, .inl (cB, n, .inl (upd f o (bt8 (x >>> ((24 : Int32) &&& 31))))))] H := hP
  have hD : va_D A [(a, .inl (cB, n, .inl (upd f o (bt8 (x >>> ((24 : Int32) &&& 31))))))] := hD
  refine lv_aload_n hx hb dX1_word_8 rfl (lv_at hl 0 rfl) ?_
  refine lv_iload_n hx hb dX1_word_9 rfl (lv_at hl 1 rfl) ?_
  refine lv_iconst (v := nI 1) hx hb dX1_word_10 (by decide) ?_
  refine lv_iadd hx hb dX1_word_11 ?_
  refine z_top (y := nI (o + 1)) (nI_add o 1) ?_
  refine lv_iload_n hx hb dX1_word_12 rfl (lv_at hl 2 rfl) ?_
  refine lv_bipush (v := 16) hx hb dX1_word_13 (by decide) ?_
  refine lv_ishr hx hb dX1_word_15 ?_
  refine lv_i2b (v := bt8 (x >>> ((16 : Int32) &&& 31))) hx hb dX1_word_16 rfl ?_
  refine z_bast (k := (o + 1)) (v := bt8 (x >>> ((16 : Int32) &&& 31))) (g := upd (upd f o (bt8 (x >>> ((24 : Int32) &&& 31)))) (o + 1) (bt8 (x >>> ((16 : Int32) &&& 31)))) hx hb hK hP hD hS 0 0 rfl rfl (by omega) (by omega) (vp_bt8 _) rfl dX1_word_17 (fun H locs hP hD hS => ?_)
  have hP : va_P (dC, dI) vwCl [(a, .inl (cB, n, .inl (upd (upd f o (bt8 (x >>> ((24 : Int32) &&& 31)))) (o + 1) (bt8 (x >>> ((16 : Int32) &&& 31))))))] H := hP
  have hD : va_D A [(a, .inl (cB, n, .inl (upd (upd f o (bt8 (x >>> ((24 : Int32) &&& 31)))) (o + 1) (bt8 (x >>> ((16 : Int32) &&& 31))))))] := hD
  refine lv_aload_n hx hb dX1_word_18 rfl (lv_at hl 0 rfl) ?_
  refine lv_iload_n hx hb dX1_word_19 rfl (lv_at hl 1 rfl) ?_
  refine lv_iconst (v := nI 2) hx hb dX1_word_20 (by decide) ?_
  refine lv_iadd hx hb dX1_word_21 ?_
  refine z_top (y := nI (o + 2)) (nI_add o 2) ?_
  refine lv_iload_n hx hb dX1_word_22 rfl (lv_at hl 2 rfl) ?_
  refine lv_bipush (v := 8) hx hb dX1_word_23 (by decide) ?_
  refine lv_ishr hx hb dX1_word_25 ?_
  refine lv_i2b (v := bt8 (x >>> ((8 : Int32) &&& 31))) hx hb dX1_word_26 rfl ?_
  refine z_bast (k := (o + 2)) (v := bt8 (x >>> ((8 : Int32) &&& 31))) (g := upd (upd (upd f o (bt8 (x >>> ((24 : Int32) &&& 31)))) (o + 1) (bt8 (x >>> ((16 : Int32) &&& 31)))) (o + 2) (bt8 (x >>> ((8 : Int32) &&& 31)))) hx hb hK hP hD hS 0 0 rfl rfl (by omega) (by omega) (vp_bt8 _) rfl dX1_word_27 (fun H locs hP hD hS => ?_)
  have hP : va_P (dC, dI) vwCl [(a, .inl (cB, n, .inl (upd (upd (upd f o (bt8 (x >>> ((24 : Int32) &&& 31)))) (o + 1) (bt8 (x >>> ((16 : Int32) &&& 31)))) (o + 2) (bt8 (x >>> ((8 : Int32) &&& 31))))))] H := hP
  have hD : va_D A [(a, .inl (cB, n, .inl (upd (upd (upd f o (bt8 (x >>> ((24 : Int32) &&& 31)))) (o + 1) (bt8 (x >>> ((16 : Int32) &&& 31)))) (o + 2) (bt8 (x >>> ((8 : Int32) &&& 31))))))] := hD
  refine lv_aload_n hx hb dX1_word_28 rfl (lv_at hl 0 rfl) ?_
  refine lv_iload_n hx hb dX1_word_29 rfl (lv_at hl 1 rfl) ?_
  refine lv_iconst (v := nI 3) hx hb dX1_word_30 (by decide) ?_
  refine lv_iadd hx hb dX1_word_31 ?_
  refine z_top (y := nI (o + 3)) (nI_add o 3) ?_
  refine lv_iload_n hx hb dX1_word_32 rfl (lv_at hl 2 rfl) ?_
  refine lv_i2b (v := bt8 x) hx hb dX1_word_33 rfl ?_
  refine z_bast (k := (o + 3)) (v := bt8 x) (g := upd (upd (upd (upd f o (bt8 (x >>> ((24 : Int32) &&& 31)))) (o + 1) (bt8 (x >>> ((16 : Int32) &&& 31)))) (o + 2) (bt8 (x >>> ((8 : Int32) &&& 31)))) (o + 3) (bt8 x)) hx hb hK hP hD hS 0 0 rfl rfl (by omega) (by omega) (vp_bt8 _) rfl dX1_word_34 (fun H locs hP hD hS => ?_)
  have hP : va_P (dC, dI) vwCl [(a, .inl (cB, n, .inl (upd (upd (upd (upd f o (bt8 (x >>> ((24 : Int32) &&& 31)))) (o + 1) (bt8 (x >>> ((16 : Int32) &&& 31)))) (o + 2) (bt8 (x >>> ((8 : Int32) &&& 31)))) (o + 3) (bt8 x))))] H := hP
  have hD : va_D A [(a, .inl (cB, n, .inl (upd (upd (upd (upd f o (bt8 (x >>> ((24 : Int32) &&& 31)))) (o + 1) (bt8 (x >>> ((16 : Int32) &&& 31)))) (o + 2) (bt8 (x >>> ((8 : Int32) &&& 31)))) (o + 3) (bt8 x))))] := hD
  exact z_vret hx hb hr hlocks hS (Nat.le_of_ble_eq_true rfl) (Nat.le_of_ble_eq_true rfl) dX1_word_35 (fun t ht => zB_of hP hD [0] rfl (by decide) ht)
theorem hd_X1_put : yX1_put.cls ≠ "java/lang/invoke/MethodHandle" ∧ yX1_put.cls ≠ "java/lang/invoke/VarHandle" ∧ (parseMethodDescriptor yX1_put.desc).map (fun d => d.parameters.length) = some 4 := by decide +kernel
theorem hv_X1_put : yX1_put.cls = RX1 ∧ yX1_put.cls ≠ "java/lang/invoke/MethodHandle" ∧ yX1_put.cls ≠ "java/lang/invoke/VarHandle" ∧ (parseMethodDescriptor yX1_put.desc).map (fun d => d.parameters.length) = some 4 := ⟨rfl, hd_X1_put⟩
set_option maxHeartbeats 4000000 in
set_option maxRecDepth 100000 in
theorem m_X1_put (l : Launch) (dC : Nat → ClassId) (dI : Nat → Nat → Nat) (cB cI : ClassId) (sz : Nat) (h e k n tx o : Nat) (st gv : Int32) (z : Nat) (hz : z ≤ 256) (f : Nat → Int32) (w0 w1 w2 w3 : Int32) (hp : z + 16 ≤ 256) : zMi l yX1_put cX1_put 5 (some .boolean) 1 40 0 0 [.ref h, .int w0, .int w1, .int w2, .int w3] zNo (dC, dI) cB cI sz [(h, .inr (0, [.ref e, .int st, .int gv, .ref k, .ref n, .ref tx, .int (nI z), .ref o])), (tx, .inl (cB, 256, .inl f))] (nI 1) (fun A t => zB (dC, dI) A [(h, .inr (0, [.ref e, .int st, .int gv, .ref k, .ref n, .ref tx, .int (nI (z + 16)), .ref o])), (tx, .inl (cB, 256, .inl (wr4 (wr4 (wr4 (wr4 f z w0) (z + 4) w1) (z + 8) w2) (z + 12) w3)))] t) := by
  refine z_ofi (C := RX1) rfl (by decide +kernel) (Nat.le_of_ble_eq_true rfl) ?_
  intro pr ev s m below meth c A hx hb hr hlocks hml hown hname hts hK hP hD hA hE hS ls hl
  have hl : lv_has ls 5 [(0, .ref h), (1, .int w0), (2, .int w1), (3, .int w2), (4, .int w3)] := hl
  refine lv_aload_n hx hb dX1_put_0 rfl (lv_at hl 0 rfl) ?_
  refine va_get (D := (dC, dI)) (ci := 0) (v := .int (nI z)) (C := RX1) (T := TX1) (N := 8) hx hb hts in_X1 hown hK hP 0 rfl rfl 6 (by decide) (hts _ q309) (fun _ h9 => h9) rfl dX1_put_1 ?_
  refine lv_aload_n hx hb dX1_put_4 rfl (lv_at hl 0 rfl) ?_
  refine va_get (D := (dC, dI)) (ci := 0) (v := .ref tx) (C := RX1) (T := TX1) (N := 8) hx hb hts in_X1 hown hK hP 0 rfl rfl 5 (by decide) (hts _ q308) (fun _ h9 => h9) rfl dX1_put_5 ?_
  refine va_alen (v := nI 256) hx hb hK hP 1 0 rfl rfl rfl dX1_put_8 ?_
  refine lv_bipush (v := nI 16) hx hb dX1_put_9 (by decide) ?_
  refine lv_isub hx hb dX1_put_11 ?_
  refine z_top (y := nI 240) (by decide) ?_
  refine lv_icmp_le (tgt := 17) hx hb dX1_put_12 (by decide) (fun _ => ?_) (fun hc => absurd (nI_le (by omega) (by decide)) hc)
  refine lv_aload_n hx hb dX1_put_17 rfl (lv_at hl 0 rfl) ?_
  refine va_get (D := (dC, dI)) (ci := 0) (v := .ref tx) (C := RX1) (T := TX1) (N := 8) hx hb hts in_X1 hown hK hP 0 rfl rfl 5 (by decide) (hts _ q308) (fun _ h9 => h9) rfl dX1_put_18 ?_
  refine lv_aload_n hx hb dX1_put_21 rfl (lv_at hl 0 rfl) ?_
  refine va_get (D := (dC, dI)) (ci := 0) (v := .int (nI z)) (C := RX1) (T := TX1) (N := 8) hx hb hts in_X1 hown hK hP 0 rfl rfl 6 (by decide) (hts _ q309) (fun _ h9 => h9) rfl dX1_put_22 ?_
  refine lv_iload_n hx hb dX1_put_25 rfl (lv_at hl 1 rfl) ?_
  refine z_callvS (wr := [(h, .inr (0, [.ref e, .int st, .int gv, .ref k, .ref n, .ref tx, .int (nI z), .ref o]))]) (As := [.ref tx, .int (nI z), .int w0]) (rest := []) ⟨hx, hb, hml, hown, hts⟩ (m_X1_word l dC dI cB cI s.heap.size tx 256 (z) f w0 (by omega) (by decide)) (va_cwS 3 hts (lw_S q332 q333 q7 q334) rfl rfl rfl hd_X1_word ⟨Nat.le_of_ble_eq_true rfl, Nat.le_of_ble_eq_true rfl⟩) ⟨zNo_good, trivial⟩ rfl hl.1 rfl (Nat.le_of_ble_eq_true rfl) dX1_put_26 ⟨Nat.le_of_ble_eq_true rfl, Nat.le_of_ble_eq_true rfl⟩ hS hK hP hD hA [1] [0] rfl (by decide) rfl (by decide) (by decide) (fun A1 t H locs hB J hS => ?_)
  skip
  obtain ⟨hP, hD⟩ := J _ hB
  clear hB J
  have hP : va_P (dC, dI) vwCl [(h, .inr (0, [.ref e, .int st, .int gv, .ref k, .ref n, .ref tx, .int (nI z), .ref o])), (tx, .inl (cB, 256, .inl (wr4 f z w0)))] H := hP
  have hD : va_D A [(h, .inr (0, [.ref e, .int st, .int gv, .ref k, .ref n, .ref tx, .int (nI z), .ref o])), (tx, .inl (cB, 256, .inl (wr4 f z w0)))] := hD
  refine lv_aload_n hx hb dX1_put_29 rfl (lv_at hl 0 rfl) ?_
  refine va_get (D := (dC, dI)) (ci := 0) (v := .ref tx) (C := RX1) (T := TX1) (N := 8) hx hb hts in_X1 hown hK hP 0 rfl rfl 5 (by decide) (hts _ q308) (fun _ h9 => h9) rfl dX1_put_30 ?_
  refine lv_aload_n hx hb dX1_put_33 rfl (lv_at hl 0 rfl) ?_
  refine va_get (D := (dC, dI)) (ci := 0) (v := .int (nI z)) (C := RX1) (T := TX1) (N := 8) hx hb hts in_X1 hown hK hP 0 rfl rfl 6 (by decide) (hts _ q309) (fun _ h9 => h9) rfl dX1_put_34 ?_
  refine lv_iconst (v := nI 4) hx hb dX1_put_37 (by decide) ?_
  refine lv_iadd hx hb dX1_put_38 ?_
  refine z_top (y := nI (z + 4)) (nI_add z 4) ?_
  refine lv_iload_n hx hb dX1_put_39 rfl (lv_at hl 2 rfl) ?_
  refine z_callvS (wr := [(h, .inr (0, [.ref e, .int st, .int gv, .ref k, .ref n, .ref tx, .int (nI z), .ref o]))]) (As := [.ref tx, .int (nI (z + 4)), .int w1]) (rest := []) ⟨hx, hb, hml, hown, hts⟩ (m_X1_word l dC dI cB cI H.size tx 256 (z + 4) (wr4 f z w0) w1 (by omega) (by decide)) (va_cwS 3 hts (lw_S q332 q333 q7 q334) rfl rfl rfl hd_X1_word ⟨Nat.le_of_ble_eq_true rfl, Nat.le_of_ble_eq_true rfl⟩) ⟨zNo_good, trivial⟩ rfl hl.1 rfl (Nat.le_of_ble_eq_true rfl) dX1_put_40 ⟨Nat.le_of_ble_eq_true rfl, Nat.le_of_ble_eq_true rfl⟩ hS hK hP hD hA [1] [0] rfl (by decide) rfl (by decide) (by decide) (fun A1 t H locs hB J hS => ?_)
  skip
  obtain ⟨hP, hD⟩ := J _ hB
  clear hB J
  have hP : va_P (dC, dI) vwCl [(h, .inr (0, [.ref e, .int st, .int gv, .ref k, .ref n, .ref tx, .int (nI z), .ref o])), (tx, .inl (cB, 256, .inl (wr4 (wr4 f z w0) (z + 4) w1)))] H := hP
  have hD : va_D A [(h, .inr (0, [.ref e, .int st, .int gv, .ref k, .ref n, .ref tx, .int (nI z), .ref o])), (tx, .inl (cB, 256, .inl (wr4 (wr4 f z w0) (z + 4) w1)))] := hD
  refine lv_aload_n hx hb dX1_put_43 rfl (lv_at hl 0 rfl) ?_
  refine va_get (D := (dC, dI)) (ci := 0) (v := .ref tx) (C := RX1) (T := TX1) (N := 8) hx hb hts in_X1 hown hK hP 0 rfl rfl 5 (by decide) (hts _ q308) (fun _ h9 => h9) rfl dX1_put_44 ?_
  refine lv_aload_n hx hb dX1_put_47 rfl (lv_at hl 0 rfl) ?_
  refine va_get (D := (dC, dI)) (ci := 0) (v := .int (nI z)) (C := RX1) (T := TX1) (N := 8) hx hb hts in_X1 hown hK hP 0 rfl rfl 6 (by decide) (hts _ q309) (fun _ h9 => h9) rfl dX1_put_48 ?_
  refine lv_bipush (v := nI 8) hx hb dX1_put_51 (by decide) ?_
  refine lv_iadd hx hb dX1_put_53 ?_
  refine z_top (y := nI (z + 8)) (nI_add z 8) ?_
  refine lv_iload_n hx hb dX1_put_54 rfl (lv_at hl 3 rfl) ?_
  refine z_callvS (wr := [(h, .inr (0, [.ref e, .int st, .int gv, .ref k, .ref n, .ref tx, .int (nI z), .ref o]))]) (As := [.ref tx, .int (nI (z + 8)), .int w2]) (rest := []) ⟨hx, hb, hml, hown, hts⟩ (m_X1_word l dC dI cB cI H.size tx 256 (z + 8) (wr4 (wr4 f z w0) (z + 4) w1) w2 (by omega) (by decide)) (va_cwS 3 hts (lw_S q332 q333 q7 q334) rfl rfl rfl hd_X1_word ⟨Nat.le_of_ble_eq_true rfl, Nat.le_of_ble_eq_true rfl⟩) ⟨zNo_good, trivial⟩ rfl hl.1 rfl (Nat.le_of_ble_eq_true rfl) dX1_put_55 ⟨Nat.le_of_ble_eq_true rfl, Nat.le_of_ble_eq_true rfl⟩ hS hK hP hD hA [1] [0] rfl (by decide) rfl (by decide) (by decide) (fun A1 t H locs hB J hS => ?_)
  skip
  obtain ⟨hP, hD⟩ := J _ hB
  clear hB J
  have hP : va_P (dC, dI) vwCl [(h, .inr (0, [.ref e, .int st, .int gv, .ref k, .ref n, .ref tx, .int (nI z), .ref o])), (tx, .inl (cB, 256, .inl (wr4 (wr4 (wr4 f z w0) (z + 4) w1) (z + 8) w2)))] H := hP
  have hD : va_D A [(h, .inr (0, [.ref e, .int st, .int gv, .ref k, .ref n, .ref tx, .int (nI z), .ref o])), (tx, .inl (cB, 256, .inl (wr4 (wr4 (wr4 f z w0) (z + 4) w1) (z + 8) w2)))] := hD
  refine lv_aload_n hx hb dX1_put_58 rfl (lv_at hl 0 rfl) ?_
  refine va_get (D := (dC, dI)) (ci := 0) (v := .ref tx) (C := RX1) (T := TX1) (N := 8) hx hb hts in_X1 hown hK hP 0 rfl rfl 5 (by decide) (hts _ q308) (fun _ h9 => h9) rfl dX1_put_59 ?_
  refine lv_aload_n hx hb dX1_put_62 rfl (lv_at hl 0 rfl) ?_
  refine va_get (D := (dC, dI)) (ci := 0) (v := .int (nI z)) (C := RX1) (T := TX1) (N := 8) hx hb hts in_X1 hown hK hP 0 rfl rfl 6 (by decide) (hts _ q309) (fun _ h9 => h9) rfl dX1_put_63 ?_
  refine lv_bipush (v := nI 12) hx hb dX1_put_66 (by decide) ?_
  refine lv_iadd hx hb dX1_put_68 ?_
  refine z_top (y := nI (z + 12)) (nI_add z 12) ?_
  refine lv_iload hx hb dX1_put_69 (lv_at hl 4 rfl) ?_
  refine z_callvS (wr := [(h, .inr (0, [.ref e, .int st, .int gv, .ref k, .ref n, .ref tx, .int (nI z), .ref o]))]) (As := [.ref tx, .int (nI (z + 12)), .int w3]) (rest := []) ⟨hx, hb, hml, hown, hts⟩ (m_X1_word l dC dI cB cI H.size tx 256 (z + 12) (wr4 (wr4 (wr4 f z w0) (z + 4) w1) (z + 8) w2) w3 (by omega) (by decide)) (va_cwS 3 hts (lw_S q332 q333 q7 q334) rfl rfl rfl hd_X1_word ⟨Nat.le_of_ble_eq_true rfl, Nat.le_of_ble_eq_true rfl⟩) ⟨zNo_good, trivial⟩ rfl hl.1 rfl (Nat.le_of_ble_eq_true rfl) dX1_put_71 ⟨Nat.le_of_ble_eq_true rfl, Nat.le_of_ble_eq_true rfl⟩ hS hK hP hD hA [1] [0] rfl (by decide) rfl (by decide) (by decide) (fun A1 t H locs hB J hS => ?_)
  skip
  obtain ⟨hP, hD⟩ := J _ hB
  clear hB J
  have hP : va_P (dC, dI) vwCl [(h, .inr (0, [.ref e, .int st, .int gv, .ref k, .ref n, .ref tx, .int (nI z), .ref o])), (tx, .inl (cB, 256, .inl (wr4 (wr4 (wr4 (wr4 f z w0) (z + 4) w1) (z + 8) w2) (z + 12) w3)))] H := hP
  have hD : va_D A [(h, .inr (0, [.ref e, .int st, .int gv, .ref k, .ref n, .ref tx, .int (nI z), .ref o])), (tx, .inl (cB, 256, .inl (wr4 (wr4 (wr4 (wr4 f z w0) (z + 4) w1) (z + 8) w2) (z + 12) w3)))] := hD
  refine lv_aload_n hx hb dX1_put_74 rfl (lv_at hl 0 rfl) ?_
  refine lv_dup hx hb dX1_put_75 rfl ?_
  refine va_get (D := (dC, dI)) (ci := 0) (v := .int (nI z)) (C := RX1) (T := TX1) (N := 8) hx hb hts in_X1 hown hK hP 0 rfl rfl 6 (by decide) (hts _ q309) (fun _ h9 => h9) rfl dX1_put_76 ?_
  refine lv_bipush (v := nI 16) hx hb dX1_put_79 (by decide) ?_
  refine lv_iadd hx hb dX1_put_81 ?_
  refine z_top (y := nI (z + 16)) (nI_add z 16) ?_
  refine va_put (D := (dC, dI)) (ci := 0) (v := .int (nI (z + 16))) (ty := .int) (C := RX1) (T := TX1) (N := 8) hx hb hts in_X1 tyX1 tyX1_ok nmX1 hown hK hP hD hS 0 rfl rfl 6 (by decide) (hts _ q309) (fun _ h9 => h9) rfl (by decide +kernel) rfl rfl (Nat.le_of_ble_eq_true rfl) dX1_put_82 (fun H locs hP hD hS => ?_)
  have hP : va_P (dC, dI) vwCl [(h, .inr (0, [.ref e, .int st, .int gv, .ref k, .ref n, .ref tx, .int (nI (z + 16)), .ref o])), (tx, .inl (cB, 256, .inl (wr4 (wr4 (wr4 (wr4 f z w0) (z + 4) w1) (z + 8) w2) (z + 12) w3)))] H := hP
  have hD : va_D A [(h, .inr (0, [.ref e, .int st, .int gv, .ref k, .ref n, .ref tx, .int (nI (z + 16)), .ref o])), (tx, .inl (cB, 256, .inl (wr4 (wr4 (wr4 (wr4 f z w0) (z + 4) w1) (z + 8) w2) (z + 12) w3)))] := hD
  refine lv_iconst (v := nI 1) hx hb dX1_put_85 (by decide) ?_
  exact z_iret hx hb hr hlocks rfl rfl hS (Nat.le_of_ble_eq_true rfl) (Nat.le_of_ble_eq_true rfl) dX1_put_86 (fun t ht => zB_of hP hD [0, 1] rfl (by decide) ht)
theorem hd_X1_from : yX1_from.cls ≠ "java/lang/invoke/MethodHandle" ∧ yX1_from.cls ≠ "java/lang/invoke/VarHandle" ∧ (parseMethodDescriptor yX1_from.desc).map (fun d => d.parameters.length) = some 1 := by decide +kernel
theorem hv_X1_from : yX1_from.cls = RX1 ∧ yX1_from.cls ≠ "java/lang/invoke/MethodHandle" ∧ yX1_from.cls ≠ "java/lang/invoke/VarHandle" ∧ (parseMethodDescriptor yX1_from.desc).map (fun d => d.parameters.length) = some 1 := ⟨rfl, hd_X1_from⟩
set_option maxHeartbeats 4000000 in
set_option maxRecDepth 100000 in
theorem m_X1_from (l : Launch) (dC : Nat → ClassId) (dI : Nat → Nat → Nat) (cB cI : ClassId) (sz : Nat) (h e k n tx o : Nat) (st gv : Int32) (z : Nat) (hz : z ≤ 256) (x : Int32) : zRi l yX1_from cX1_from 2 (some .int) 0 0 [.ref h, .int x] zNo (dC, dI) cB cI sz [(h, .inr (0, [.ref e, .int st, .int gv, .ref k, .ref n, .ref tx, .int (nI z), .ref o]))] (nI (m31 x % (z + 1))) := by
  refine z_ofR (C := RX1) rfl (by decide +kernel) (Nat.le_of_ble_eq_true rfl) ?_
  intro pr ev s m below meth c A hx hb hr hlocks hml hown hname hts hK hP hD hA hE hS ls hl
  have hl : lv_has ls 2 [(0, .ref h), (1, .int x)] := hl
  refine lv_iload_n hx hb dX1_from_0 rfl (lv_at hl 1 rfl) ?_
  refine lv_ldc (v := 2147483647) hx hb hown (hts _ q33) dX1_from_1 ?_
  refine lv_iand hx hb dX1_from_3 ?_
  refine z_top (y := nI (m31 x)) (m31_and x) ?_
  refine lv_aload_n hx hb dX1_from_4 rfl (lv_at hl 0 rfl) ?_
  refine va_get (D := (dC, dI)) (ci := 0) (v := .int (nI z)) (C := RX1) (T := TX1) (N := 8) hx hb hts in_X1 hown hK hP 0 rfl rfl 6 (by decide) (hts _ q309) (fun _ h9 => h9) rfl dX1_from_5 ?_
  refine lv_iconst (v := nI 1) hx hb dX1_from_8 (by decide) ?_
  refine lv_iadd hx hb dX1_from_9 ?_
  refine z_top (y := nI (z + 1)) (nI_add z 1) ?_
  refine lv_irem hx hb dX1_from_10 (nI_ne0 (by omega) (by omega)) ?_
  refine z_top (y := nI (m31 x % (z + 1))) (pk_rem (m31_lt x) (by omega) (by omega)) ?_
  exact z_iretR hx hb hr hlocks rfl rfl dX1_from_11
theorem hd_X1_count : yX1_count.cls ≠ "java/lang/invoke/MethodHandle" ∧ yX1_count.cls ≠ "java/lang/invoke/VarHandle" ∧ (parseMethodDescriptor yX1_count.desc).map (fun d => d.parameters.length) = some 2 := by decide +kernel
theorem hv_X1_count : yX1_count.cls = RX1 ∧ yX1_count.cls ≠ "java/lang/invoke/MethodHandle" ∧ yX1_count.cls ≠ "java/lang/invoke/VarHandle" ∧ (parseMethodDescriptor yX1_count.desc).map (fun d => d.parameters.length) = some 2 := ⟨rfl, hd_X1_count⟩
set_option maxHeartbeats 4000000 in
set_option maxRecDepth 100000 in
theorem m_X1_count (l : Launch) (dC : Nat → ClassId) (dI : Nat → Nat → Nat) (cB cI : ClassId) (sz : Nat) (h e k n tx o : Nat) (st gv : Int32) (z : Nat) (hz : z ≤ 256) (a : Nat) (x : Int32) (ha : a ≤ z) : zRi l yX1_count cX1_count 3 (some .int) 0 0 [.ref h, .int (nI a), .int x] zNo (dC, dI) cB cI sz [(h, .inr (0, [.ref e, .int st, .int gv, .ref k, .ref n, .ref tx, .int (nI z), .ref o]))] (nI (m31 x % (z - a + 1))) := by
  refine z_ofR (C := RX1) rfl (by decide +kernel) (Nat.le_of_ble_eq_true rfl) ?_
  intro pr ev s m below meth c A hx hb hr hlocks hml hown hname hts hK hP hD hA hE hS ls hl
  have hl : lv_has ls 3 [(0, .ref h), (1, .int (nI a)), (2, .int x)] := hl
  refine lv_iload_n hx hb dX1_count_0 rfl (lv_at hl 2 rfl) ?_
  refine lv_ldc (v := 2147483647) hx hb hown (hts _ q33) dX1_count_1 ?_
  refine lv_iand hx hb dX1_count_3 ?_
  refine z_top (y := nI (m31 x)) (m31_and x) ?_
  refine lv_aload_n hx hb dX1_count_4 rfl (lv_at hl 0 rfl) ?_
  refine va_get (D := (dC, dI)) (ci := 0) (v := .int (nI z)) (C := RX1) (T := TX1) (N := 8) hx hb hts in_X1 hown hK hP 0 rfl rfl 6 (by decide) (hts _ q309) (fun _ h9 => h9) rfl dX1_count_5 ?_
  refine lv_iload_n hx hb dX1_count_8 rfl (lv_at hl 1 rfl) ?_
  refine lv_isub hx hb dX1_count_9 ?_
  refine z_top (y := nI (z - a)) (pk_sub ha) ?_
  refine lv_iconst (v := nI 1) hx hb dX1_count_10 (by decide) ?_
  refine lv_iadd hx hb dX1_count_11 ?_
  refine z_top (y := nI (z - a + 1)) (nI_add (z - a) 1) ?_
  refine lv_irem hx hb dX1_count_12 (nI_ne0 (by omega) (by omega)) ?_
  refine z_top (y := nI (m31 x % (z - a + 1))) (pk_rem (m31_lt x) (by omega) (by omega)) ?_
  exact z_iretR hx hb hr hlocks rfl rfl dX1_count_13
theorem hd_X1_trim : yX1_trim.cls ≠ "java/lang/invoke/MethodHandle" ∧ yX1_trim.cls ≠ "java/lang/invoke/VarHandle" ∧ (parseMethodDescriptor yX1_trim.desc).map (fun d => d.parameters.length) = some 1 := by decide +kernel
theorem hv_X1_trim : yX1_trim.cls = RX1 ∧ yX1_trim.cls ≠ "java/lang/invoke/MethodHandle" ∧ yX1_trim.cls ≠ "java/lang/invoke/VarHandle" ∧ (parseMethodDescriptor yX1_trim.desc).map (fun d => d.parameters.length) = some 1 := ⟨rfl, hd_X1_trim⟩
set_option maxHeartbeats 4000000 in
set_option maxRecDepth 100000 in
theorem m_X1_trim (l : Launch) (dC : Nat → ClassId) (dI : Nat → Nat → Nat) (cB cI : ClassId) (sz : Nat) (h e k n tx o : Nat) (st gv : Int32) (z : Nat) (hz : z ≤ 256) (x : Int32) : zMv l yX1_trim cX1_trim 2 none 1 40 0 0 [.ref h, .int x] zNo (dC, dI) cB cI sz [(h, .inr (0, [.ref e, .int st, .int gv, .ref k, .ref n, .ref tx, .int (nI z), .ref o]))] (fun A t => zB (dC, dI) A [(h, .inr (0, [.ref e, .int st, .int gv, .ref k, .ref n, .ref tx, .int (nI (m31 x % (z + 1))), .ref o]))] t) := by
  refine z_ofv (C := RX1) rfl (by decide +kernel) (Nat.le_of_ble_eq_true rfl) ?_
  intro pr ev s m below meth c A hx hb hr hlocks hml hown hname hts hK hP hD hA hE hS ls hl
  have hl : lv_has ls 2 [(0, .ref h), (1, .int x)] := hl
  refine lv_aload_n hx hb dX1_trim_0 rfl (lv_at hl 0 rfl) ?_
  refine lv_aload_n hx hb dX1_trim_1 rfl (lv_at hl 0 rfl) ?_
  refine lv_iload_n hx hb dX1_trim_2 rfl (lv_at hl 1 rfl) ?_
  refine z_readV (As := [.int x]) (rest := [.ref h]) ⟨hx, hb, hml, hown, hts⟩ (m_X1_from l dC dI cB cI s.heap.size h e k n tx o st gv z hz x) (cwV 1 hts (lw_V q28 q30 qs0 q7 q32) rfl rfl rfl hv_X1_from ⟨Nat.le_of_ble_eq_true rfl, Nat.le_of_ble_eq_true rfl⟩) ⟨zNo_good, trivial⟩ (va_recv hK hP (ci := 0) (q0 := 0) rfl rfl) rfl hl.1 rfl (Nat.le_of_ble_eq_true rfl) dX1_trim_3 ⟨Nat.le_of_ble_eq_true rfl, Nat.le_of_ble_eq_true rfl⟩ hS hK hP hD hA [0] rfl (by decide) ?_
  refine va_put (D := (dC, dI)) (ci := 0) (v := .int (nI (m31 x % (z + 1)))) (ty := .int) (C := RX1) (T := TX1) (N := 8) hx hb hts in_X1 tyX1 tyX1_ok nmX1 hown hK hP hD hS 0 rfl rfl 6 (by decide) (hts _ q309) (fun _ h9 => h9) rfl (by decide +kernel) rfl rfl (Nat.le_of_ble_eq_true rfl) dX1_trim_6 (fun H locs hP hD hS => ?_)
  have hP : va_P (dC, dI) vwCl [(h, .inr (0, [.ref e, .int st, .int gv, .ref k, .ref n, .ref tx, .int (nI (m31 x % (z + 1))), .ref o]))] H := hP
  have hD : va_D A [(h, .inr (0, [.ref e, .int st, .int gv, .ref k, .ref n, .ref tx, .int (nI (m31 x % (z + 1))), .ref o]))] := hD
  exact z_vret hx hb hr hlocks hS (Nat.le_of_ble_eq_true rfl) (Nat.le_of_ble_eq_true rfl) dX1_trim_9 (fun t ht => zB_of hP hD [0] rfl (by decide) ht)
theorem hd_X1_key : yX1_key.cls ≠ "java/lang/invoke/MethodHandle" ∧ yX1_key.cls ≠ "java/lang/invoke/VarHandle" ∧ (parseMethodDescriptor yX1_key.desc).map (fun d => d.parameters.length) = some 5 := by decide +kernel
theorem hv_X1_key : yX1_key.cls = RX1 ∧ yX1_key.cls ≠ "java/lang/invoke/MethodHandle" ∧ yX1_key.cls ≠ "java/lang/invoke/VarHandle" ∧ (parseMethodDescriptor yX1_key.desc).map (fun d => d.parameters.length) = some 5 := ⟨rfl, hd_X1_key⟩
set_option maxHeartbeats 4000000 in
set_option maxRecDepth 100000 in
theorem m_X1_key (l : Launch) (dC : Nat → ClassId) (dI : Nat → Nat → Nat) (cB cI : ClassId) (sz : Nat) (h e k n tx o : Nat) (st gv : Int32) (z : Nat) (hz : z ≤ 256) (f : Nat → Int32) (b : Nat) (w0 w1 w2 w3 : Int32) (hb2 : b = 0 ∨ b = 1) : zMv l yX1_key cX1_key 7 none 1 40 0 0 [.ref h, .int (nI b), .int w0, .int w1, .int w2, .int w3] zNo (dC, dI) cB cI sz [(h, .inr (0, [.ref e, .int st, .int gv, .ref k, .ref n, .ref tx, .int (nI z), .ref o])), (k, .inl (cB, 32, .inl f))] (fun A t => zB (dC, dI) A [(h, .inr (0, [.ref e, .int st, .int gv, .ref k, .ref n, .ref tx, .int (nI z), .ref o])), (k, .inl (cB, 32, .inl (wr4 (wr4 (wr4 (wr4 f (16 * b) w0) (16 * b + 4) w1) (16 * b + 8) w2) (16 * b + 12) w3)))] t) := by
  refine z_ofv (C := RX1) rfl (by decide +kernel) (Nat.le_of_ble_eq_true rfl) ?_
  intro pr ev s m below meth c A hx hb hr hlocks hml hown hname hts hK hP hD hA hE hS ls hl
  have hl : lv_has ls 7 [(0, .ref h), (1, .int (nI b)), (2, .int w0), (3, .int w1), (4, .int w2), (5, .int w3)] := hl
  refine lv_iload_n hx hb dX1_key_0 rfl (lv_at hl 1 rfl) ?_
  refine lv_iconst (v := 1) hx hb dX1_key_1 (by decide) ?_
  refine lv_iand hx hb dX1_key_2 ?_
  refine lv_iconst (v := 4) hx hb dX1_key_3 (by decide) ?_
  refine lv_ishl hx hb dX1_key_4 ?_
  refine z_top (y := nI (16 * b)) (by rcases hb2 with rfl | rfl <;> decide) ?_
  refine lv_istore (lv' := [(6, .int (nI (16 * b))), (0, .ref h), (1, .int (nI b)), (2, .int w0), (3, .int w1), (4, .int w2), (5, .int w3)]) hx hb dX1_key_5 hl (by decide) rfl (fun ls hl => ?_)
  refine lv_aload_n hx hb dX1_key_7 rfl (lv_at hl 1 rfl) ?_
  refine va_get (D := (dC, dI)) (ci := 0) (v := .ref k) (C := RX1) (T := TX1) (N := 8) hx hb hts in_X1 hown hK hP 0 rfl rfl 3 (by decide) (hts _ q306) (fun _ h9 => h9) rfl dX1_key_8 ?_
  refine lv_iload hx hb dX1_key_11 (lv_at hl 0 rfl) ?_
  refine lv_iload_n hx hb dX1_key_13 rfl (lv_at hl 3 rfl) ?_
  refine z_callvS (wr := [(h, .inr (0, [.ref e, .int st, .int gv, .ref k, .ref n, .ref tx, .int (nI z), .ref o]))]) (As := [.ref k, .int (nI (16 * b)), .int w0]) (rest := []) ⟨hx, hb, hml, hown, hts⟩ (m_X1_word l dC dI cB cI s.heap.size k 32 (16 * b) f w0 (by omega) (by decide)) (va_cwS 3 hts (lw_S q332 q333 q7 q334) rfl rfl rfl hd_X1_word ⟨Nat.le_of_ble_eq_true rfl, Nat.le_of_ble_eq_true rfl⟩) ⟨zNo_good, trivial⟩ rfl hl.1 rfl (Nat.le_of_ble_eq_true rfl) dX1_key_14 ⟨Nat.le_of_ble_eq_true rfl, Nat.le_of_ble_eq_true rfl⟩ hS hK hP hD hA [1] [0] rfl (by decide) rfl (by decide) (by decide) (fun A1 t H locs hB J hS => ?_)
  skip
  obtain ⟨hP, hD⟩ := J _ hB
  clear hB J
  have hP : va_P (dC, dI) vwCl [(h, .inr (0, [.ref e, .int st, .int gv, .ref k, .ref n, .ref tx, .int (nI z), .ref o])), (k, .inl (cB, 32, .inl (wr4 f (16 * b) w0)))] H := hP
  have hD : va_D A [(h, .inr (0, [.ref e, .int st, .int gv, .ref k, .ref n, .ref tx, .int (nI z), .ref o])), (k, .inl (cB, 32, .inl (wr4 f (16 * b) w0)))] := hD
  refine lv_aload_n hx hb dX1_key_17 rfl (lv_at hl 1 rfl) ?_
  refine va_get (D := (dC, dI)) (ci := 0) (v := .ref k) (C := RX1) (T := TX1) (N := 8) hx hb hts in_X1 hown hK hP 0 rfl rfl 3 (by decide) (hts _ q306) (fun _ h9 => h9) rfl dX1_key_18 ?_
  refine lv_iload hx hb dX1_key_21 (lv_at hl 0 rfl) ?_
  refine lv_iconst (v := nI 4) hx hb dX1_key_23 (by decide) ?_
  refine lv_iadd hx hb dX1_key_24 ?_
  refine z_top (y := nI (16 * b + 4)) (nI_add (16 * b) 4) ?_
  refine lv_iload_n hx hb dX1_key_25 rfl (lv_at hl 4 rfl) ?_
  refine z_callvS (wr := [(h, .inr (0, [.ref e, .int st, .int gv, .ref k, .ref n, .ref tx, .int (nI z), .ref o]))]) (As := [.ref k, .int (nI (16 * b + 4)), .int w1]) (rest := []) ⟨hx, hb, hml, hown, hts⟩ (m_X1_word l dC dI cB cI H.size k 32 (16 * b + 4) (wr4 f (16 * b) w0) w1 (by omega) (by decide)) (va_cwS 3 hts (lw_S q332 q333 q7 q334) rfl rfl rfl hd_X1_word ⟨Nat.le_of_ble_eq_true rfl, Nat.le_of_ble_eq_true rfl⟩) ⟨zNo_good, trivial⟩ rfl hl.1 rfl (Nat.le_of_ble_eq_true rfl) dX1_key_26 ⟨Nat.le_of_ble_eq_true rfl, Nat.le_of_ble_eq_true rfl⟩ hS hK hP hD hA [1] [0] rfl (by decide) rfl (by decide) (by decide) (fun A1 t H locs hB J hS => ?_)
  skip
  obtain ⟨hP, hD⟩ := J _ hB
  clear hB J
  have hP : va_P (dC, dI) vwCl [(h, .inr (0, [.ref e, .int st, .int gv, .ref k, .ref n, .ref tx, .int (nI z), .ref o])), (k, .inl (cB, 32, .inl (wr4 (wr4 f (16 * b) w0) (16 * b + 4) w1)))] H := hP
  have hD : va_D A [(h, .inr (0, [.ref e, .int st, .int gv, .ref k, .ref n, .ref tx, .int (nI z), .ref o])), (k, .inl (cB, 32, .inl (wr4 (wr4 f (16 * b) w0) (16 * b + 4) w1)))] := hD
  refine lv_aload_n hx hb dX1_key_29 rfl (lv_at hl 1 rfl) ?_
  refine va_get (D := (dC, dI)) (ci := 0) (v := .ref k) (C := RX1) (T := TX1) (N := 8) hx hb hts in_X1 hown hK hP 0 rfl rfl 3 (by decide) (hts _ q306) (fun _ h9 => h9) rfl dX1_key_30 ?_
  refine lv_iload hx hb dX1_key_33 (lv_at hl 0 rfl) ?_
  refine lv_bipush (v := nI 8) hx hb dX1_key_35 (by decide) ?_
  refine lv_iadd hx hb dX1_key_37 ?_
  refine z_top (y := nI (16 * b + 8)) (nI_add (16 * b) 8) ?_
  refine lv_iload hx hb dX1_key_38 (lv_at hl 5 rfl) ?_
  refine z_callvS (wr := [(h, .inr (0, [.ref e, .int st, .int gv, .ref k, .ref n, .ref tx, .int (nI z), .ref o]))]) (As := [.ref k, .int (nI (16 * b + 8)), .int w2]) (rest := []) ⟨hx, hb, hml, hown, hts⟩ (m_X1_word l dC dI cB cI H.size k 32 (16 * b + 8) (wr4 (wr4 f (16 * b) w0) (16 * b + 4) w1) w2 (by omega) (by decide)) (va_cwS 3 hts (lw_S q332 q333 q7 q334) rfl rfl rfl hd_X1_word ⟨Nat.le_of_ble_eq_true rfl, Nat.le_of_ble_eq_true rfl⟩) ⟨zNo_good, trivial⟩ rfl hl.1 rfl (Nat.le_of_ble_eq_true rfl) dX1_key_40 ⟨Nat.le_of_ble_eq_true rfl, Nat.le_of_ble_eq_true rfl⟩ hS hK hP hD hA [1] [0] rfl (by decide) rfl (by decide) (by decide) (fun A1 t H locs hB J hS => ?_)
  skip
  obtain ⟨hP, hD⟩ := J _ hB
  clear hB J
  have hP : va_P (dC, dI) vwCl [(h, .inr (0, [.ref e, .int st, .int gv, .ref k, .ref n, .ref tx, .int (nI z), .ref o])), (k, .inl (cB, 32, .inl (wr4 (wr4 (wr4 f (16 * b) w0) (16 * b + 4) w1) (16 * b + 8) w2)))] H := hP
  have hD : va_D A [(h, .inr (0, [.ref e, .int st, .int gv, .ref k, .ref n, .ref tx, .int (nI z), .ref o])), (k, .inl (cB, 32, .inl (wr4 (wr4 (wr4 f (16 * b) w0) (16 * b + 4) w1) (16 * b + 8) w2)))] := hD
  refine lv_aload_n hx hb dX1_key_43 rfl (lv_at hl 1 rfl) ?_
  refine va_get (D := (dC, dI)) (ci := 0) (v := .ref k) (C := RX1) (T := TX1) (N := 8) hx hb hts in_X1 hown hK hP 0 rfl rfl 3 (by decide) (hts _ q306) (fun _ h9 => h9) rfl dX1_key_44 ?_
  refine lv_iload hx hb dX1_key_47 (lv_at hl 0 rfl) ?_
  refine lv_bipush (v := nI 12) hx hb dX1_key_49 (by decide) ?_
  refine lv_iadd hx hb dX1_key_51 ?_
  refine z_top (y := nI (16 * b + 12)) (nI_add (16 * b) 12) ?_
  refine lv_iload hx hb dX1_key_52 (lv_at hl 6 rfl) ?_
  refine z_callvS (wr := [(h, .inr (0, [.ref e, .int st, .int gv, .ref k, .ref n, .ref tx, .int (nI z), .ref o]))]) (As := [.ref k, .int (nI (16 * b + 12)), .int w3]) (rest := []) ⟨hx, hb, hml, hown, hts⟩ (m_X1_word l dC dI cB cI H.size k 32 (16 * b + 12) (wr4 (wr4 (wr4 f (16 * b) w0) (16 * b + 4) w1) (16 * b + 8) w2) w3 (by omega) (by decide)) (va_cwS 3 hts (lw_S q332 q333 q7 q334) rfl rfl rfl hd_X1_word ⟨Nat.le_of_ble_eq_true rfl, Nat.le_of_ble_eq_true rfl⟩) ⟨zNo_good, trivial⟩ rfl hl.1 rfl (Nat.le_of_ble_eq_true rfl) dX1_key_54 ⟨Nat.le_of_ble_eq_true rfl, Nat.le_of_ble_eq_true rfl⟩ hS hK hP hD hA [1] [0] rfl (by decide) rfl (by decide) (by decide) (fun A1 t H locs hB J hS => ?_)
  skip
  obtain ⟨hP, hD⟩ := J _ hB
  clear hB J
  have hP : va_P (dC, dI) vwCl [(h, .inr (0, [.ref e, .int st, .int gv, .ref k, .ref n, .ref tx, .int (nI z), .ref o])), (k, .inl (cB, 32, .inl (wr4 (wr4 (wr4 (wr4 f (16 * b) w0) (16 * b + 4) w1) (16 * b + 8) w2) (16 * b + 12) w3)))] H := hP
  have hD : va_D A [(h, .inr (0, [.ref e, .int st, .int gv, .ref k, .ref n, .ref tx, .int (nI z), .ref o])), (k, .inl (cB, 32, .inl (wr4 (wr4 (wr4 (wr4 f (16 * b) w0) (16 * b + 4) w1) (16 * b + 8) w2) (16 * b + 12) w3)))] := hD
  exact z_vret hx hb hr hlocks hS (Nat.le_of_ble_eq_true rfl) (Nat.le_of_ble_eq_true rfl) dX1_key_57 (fun t ht => zB_of hP hD [0, 1] rfl (by decide) ht)
theorem hd_X1_nonce : yX1_nonce.cls ≠ "java/lang/invoke/MethodHandle" ∧ yX1_nonce.cls ≠ "java/lang/invoke/VarHandle" ∧ (parseMethodDescriptor yX1_nonce.desc).map (fun d => d.parameters.length) = some 5 := by decide +kernel
theorem hv_X1_nonce : yX1_nonce.cls = RX1 ∧ yX1_nonce.cls ≠ "java/lang/invoke/MethodHandle" ∧ yX1_nonce.cls ≠ "java/lang/invoke/VarHandle" ∧ (parseMethodDescriptor yX1_nonce.desc).map (fun d => d.parameters.length) = some 5 := ⟨rfl, hd_X1_nonce⟩
set_option maxHeartbeats 4000000 in
set_option maxRecDepth 100000 in
theorem m_X1_nonce (l : Launch) (dC : Nat → ClassId) (dI : Nat → Nat → Nat) (cB cI : ClassId) (sz : Nat) (h e k n tx o : Nat) (st gv : Int32) (z : Nat) (hz : z ≤ 256) (f : Nat → Int32) (b : Nat) (w0 w1 w2 w3 : Int32) (hb2 : b = 0 ∨ b = 1) : zMv l yX1_nonce cX1_nonce 7 none 1 40 0 0 [.ref h, .int (nI b), .int w0, .int w1, .int w2, .int w3] zNo (dC, dI) cB cI sz [(h, .inr (0, [.ref e, .int st, .int gv, .ref k, .ref n, .ref tx, .int (nI z), .ref o])), (n, .inl (cB, 32, .inl f))] (fun A t => zB (dC, dI) A [(h, .inr (0, [.ref e, .int st, .int gv, .ref k, .ref n, .ref tx, .int (nI z), .ref o])), (n, .inl (cB, 32, .inl (wr4 (wr4 (wr4 (wr4 f (16 * b) w0) (16 * b + 4) w1) (16 * b + 8) w2) (16 * b + 12) w3)))] t) := by
  refine z_ofv (C := RX1) rfl (by decide +kernel) (Nat.le_of_ble_eq_true rfl) ?_
  intro pr ev s m below meth c A hx hb hr hlocks hml hown hname hts hK hP hD hA hE hS ls hl
  have hl : lv_has ls 7 [(0, .ref h), (1, .int (nI b)), (2, .int w0), (3, .int w1), (4, .int w2), (5, .int w3)] := hl
  refine lv_iload_n hx hb dX1_nonce_0 rfl (lv_at hl 1 rfl) ?_
  refine lv_iconst (v := 1) hx hb dX1_nonce_1 (by decide) ?_
  refine lv_iand hx hb dX1_nonce_2 ?_
  refine lv_iconst (v := 4) hx hb dX1_nonce_3 (by decide) ?_
  refine lv_ishl hx hb dX1_nonce_4 ?_
  refine z_top (y := nI (16 * b)) (by rcases hb2 with rfl | rfl <;> decide) ?_
  refine lv_istore (lv' := [(6, .int (nI (16 * b))), (0, .ref h), (1, .int (nI b)), (2, .int w0), (3, .int w1), (4, .int w2), (5, .int w3)]) hx hb dX1_nonce_5 hl (by decide) rfl (fun ls hl => ?_)
  refine lv_aload_n hx hb dX1_nonce_7 rfl (lv_at hl 1 rfl) ?_
  refine va_get (D := (dC, dI)) (ci := 0) (v := .ref n) (C := RX1) (T := TX1) (N := 8) hx hb hts in_X1 hown hK hP 0 rfl rfl 4 (by decide) (hts _ q307) (fun _ h9 => h9) rfl dX1_nonce_8 ?_
  refine lv_iload hx hb dX1_nonce_11 (lv_at hl 0 rfl) ?_
  refine lv_iload_n hx hb dX1_nonce_13 rfl (lv_at hl 3 rfl) ?_
  refine z_callvS (wr := [(h, .inr (0, [.ref e, .int st, .int gv, .ref k, .ref n, .ref tx, .int (nI z), .ref o]))]) (As := [.ref n, .int (nI (16 * b)), .int w0]) (rest := []) ⟨hx, hb, hml, hown, hts⟩ (m_X1_word l dC dI cB cI s.heap.size n 32 (16 * b) f w0 (by omega) (by decide)) (va_cwS 3 hts (lw_S q332 q333 q7 q334) rfl rfl rfl hd_X1_word ⟨Nat.le_of_ble_eq_true rfl, Nat.le_of_ble_eq_true rfl⟩) ⟨zNo_good, trivial⟩ rfl hl.1 rfl (Nat.le_of_ble_eq_true rfl) dX1_nonce_14 ⟨Nat.le_of_ble_eq_true rfl, Nat.le_of_ble_eq_true rfl⟩ hS hK hP hD hA [1] [0] rfl (by decide) rfl (by decide) (by decide) (fun A1 t H locs hB J hS => ?_)
  skip
  obtain ⟨hP, hD⟩ := J _ hB
  clear hB J
  have hP : va_P (dC, dI) vwCl [(h, .inr (0, [.ref e, .int st, .int gv, .ref k, .ref n, .ref tx, .int (nI z), .ref o])), (n, .inl (cB, 32, .inl (wr4 f (16 * b) w0)))] H := hP
  have hD : va_D A [(h, .inr (0, [.ref e, .int st, .int gv, .ref k, .ref n, .ref tx, .int (nI z), .ref o])), (n, .inl (cB, 32, .inl (wr4 f (16 * b) w0)))] := hD
  refine lv_aload_n hx hb dX1_nonce_17 rfl (lv_at hl 1 rfl) ?_
  refine va_get (D := (dC, dI)) (ci := 0) (v := .ref n) (C := RX1) (T := TX1) (N := 8) hx hb hts in_X1 hown hK hP 0 rfl rfl 4 (by decide) (hts _ q307) (fun _ h9 => h9) rfl dX1_nonce_18 ?_
  refine lv_iload hx hb dX1_nonce_21 (lv_at hl 0 rfl) ?_
  refine lv_iconst (v := nI 4) hx hb dX1_nonce_23 (by decide) ?_
  refine lv_iadd hx hb dX1_nonce_24 ?_
  refine z_top (y := nI (16 * b + 4)) (nI_add (16 * b) 4) ?_
  refine lv_iload_n hx hb dX1_nonce_25 rfl (lv_at hl 4 rfl) ?_
  refine z_callvS (wr := [(h, .inr (0, [.ref e, .int st, .int gv, .ref k, .ref n, .ref tx, .int (nI z), .ref o]))]) (As := [.ref n, .int (nI (16 * b + 4)), .int w1]) (rest := []) ⟨hx, hb, hml, hown, hts⟩ (m_X1_word l dC dI cB cI H.size n 32 (16 * b + 4) (wr4 f (16 * b) w0) w1 (by omega) (by decide)) (va_cwS 3 hts (lw_S q332 q333 q7 q334) rfl rfl rfl hd_X1_word ⟨Nat.le_of_ble_eq_true rfl, Nat.le_of_ble_eq_true rfl⟩) ⟨zNo_good, trivial⟩ rfl hl.1 rfl (Nat.le_of_ble_eq_true rfl) dX1_nonce_26 ⟨Nat.le_of_ble_eq_true rfl, Nat.le_of_ble_eq_true rfl⟩ hS hK hP hD hA [1] [0] rfl (by decide) rfl (by decide) (by decide) (fun A1 t H locs hB J hS => ?_)
  skip
  obtain ⟨hP, hD⟩ := J _ hB
  clear hB J
  have hP : va_P (dC, dI) vwCl [(h, .inr (0, [.ref e, .int st, .int gv, .ref k, .ref n, .ref tx, .int (nI z), .ref o])), (n, .inl (cB, 32, .inl (wr4 (wr4 f (16 * b) w0) (16 * b + 4) w1)))] H := hP
  have hD : va_D A [(h, .inr (0, [.ref e, .int st, .int gv, .ref k, .ref n, .ref tx, .int (nI z), .ref o])), (n, .inl (cB, 32, .inl (wr4 (wr4 f (16 * b) w0) (16 * b + 4) w1)))] := hD
  refine lv_aload_n hx hb dX1_nonce_29 rfl (lv_at hl 1 rfl) ?_
  refine va_get (D := (dC, dI)) (ci := 0) (v := .ref n) (C := RX1) (T := TX1) (N := 8) hx hb hts in_X1 hown hK hP 0 rfl rfl 4 (by decide) (hts _ q307) (fun _ h9 => h9) rfl dX1_nonce_30 ?_
  refine lv_iload hx hb dX1_nonce_33 (lv_at hl 0 rfl) ?_
  refine lv_bipush (v := nI 8) hx hb dX1_nonce_35 (by decide) ?_
  refine lv_iadd hx hb dX1_nonce_37 ?_
  refine z_top (y := nI (16 * b + 8)) (nI_add (16 * b) 8) ?_
  refine lv_iload hx hb dX1_nonce_38 (lv_at hl 5 rfl) ?_
  refine z_callvS (wr := [(h, .inr (0, [.ref e, .int st, .int gv, .ref k, .ref n, .ref tx, .int (nI z), .ref o]))]) (As := [.ref n, .int (nI (16 * b + 8)), .int w2]) (rest := []) ⟨hx, hb, hml, hown, hts⟩ (m_X1_word l dC dI cB cI H.size n 32 (16 * b + 8) (wr4 (wr4 f (16 * b) w0) (16 * b + 4) w1) w2 (by omega) (by decide)) (va_cwS 3 hts (lw_S q332 q333 q7 q334) rfl rfl rfl hd_X1_word ⟨Nat.le_of_ble_eq_true rfl, Nat.le_of_ble_eq_true rfl⟩) ⟨zNo_good, trivial⟩ rfl hl.1 rfl (Nat.le_of_ble_eq_true rfl) dX1_nonce_40 ⟨Nat.le_of_ble_eq_true rfl, Nat.le_of_ble_eq_true rfl⟩ hS hK hP hD hA [1] [0] rfl (by decide) rfl (by decide) (by decide) (fun A1 t H locs hB J hS => ?_)
  skip
  obtain ⟨hP, hD⟩ := J _ hB
  clear hB J
  have hP : va_P (dC, dI) vwCl [(h, .inr (0, [.ref e, .int st, .int gv, .ref k, .ref n, .ref tx, .int (nI z), .ref o])), (n, .inl (cB, 32, .inl (wr4 (wr4 (wr4 f (16 * b) w0) (16 * b + 4) w1) (16 * b + 8) w2)))] H := hP
  have hD : va_D A [(h, .inr (0, [.ref e, .int st, .int gv, .ref k, .ref n, .ref tx, .int (nI z), .ref o])), (n, .inl (cB, 32, .inl (wr4 (wr4 (wr4 f (16 * b) w0) (16 * b + 4) w1) (16 * b + 8) w2)))] := hD
  refine lv_aload_n hx hb dX1_nonce_43 rfl (lv_at hl 1 rfl) ?_
  refine va_get (D := (dC, dI)) (ci := 0) (v := .ref n) (C := RX1) (T := TX1) (N := 8) hx hb hts in_X1 hown hK hP 0 rfl rfl 4 (by decide) (hts _ q307) (fun _ h9 => h9) rfl dX1_nonce_44 ?_
  refine lv_iload hx hb dX1_nonce_47 (lv_at hl 0 rfl) ?_
  refine lv_bipush (v := nI 12) hx hb dX1_nonce_49 (by decide) ?_
  refine lv_iadd hx hb dX1_nonce_51 ?_
  refine z_top (y := nI (16 * b + 12)) (nI_add (16 * b) 12) ?_
  refine lv_iload hx hb dX1_nonce_52 (lv_at hl 6 rfl) ?_
  refine z_callvS (wr := [(h, .inr (0, [.ref e, .int st, .int gv, .ref k, .ref n, .ref tx, .int (nI z), .ref o]))]) (As := [.ref n, .int (nI (16 * b + 12)), .int w3]) (rest := []) ⟨hx, hb, hml, hown, hts⟩ (m_X1_word l dC dI cB cI H.size n 32 (16 * b + 12) (wr4 (wr4 (wr4 f (16 * b) w0) (16 * b + 4) w1) (16 * b + 8) w2) w3 (by omega) (by decide)) (va_cwS 3 hts (lw_S q332 q333 q7 q334) rfl rfl rfl hd_X1_word ⟨Nat.le_of_ble_eq_true rfl, Nat.le_of_ble_eq_true rfl⟩) ⟨zNo_good, trivial⟩ rfl hl.1 rfl (Nat.le_of_ble_eq_true rfl) dX1_nonce_54 ⟨Nat.le_of_ble_eq_true rfl, Nat.le_of_ble_eq_true rfl⟩ hS hK hP hD hA [1] [0] rfl (by decide) rfl (by decide) (by decide) (fun A1 t H locs hB J hS => ?_)
  skip
  obtain ⟨hP, hD⟩ := J _ hB
  clear hB J
  have hP : va_P (dC, dI) vwCl [(h, .inr (0, [.ref e, .int st, .int gv, .ref k, .ref n, .ref tx, .int (nI z), .ref o])), (n, .inl (cB, 32, .inl (wr4 (wr4 (wr4 (wr4 f (16 * b) w0) (16 * b + 4) w1) (16 * b + 8) w2) (16 * b + 12) w3)))] H := hP
  have hD : va_D A [(h, .inr (0, [.ref e, .int st, .int gv, .ref k, .ref n, .ref tx, .int (nI z), .ref o])), (n, .inl (cB, 32, .inl (wr4 (wr4 (wr4 (wr4 f (16 * b) w0) (16 * b + 4) w1) (16 * b + 8) w2) (16 * b + 12) w3)))] := hD
  exact z_vret hx hb hr hlocks hS (Nat.le_of_ble_eq_true rfl) (Nat.le_of_ble_eq_true rfl) dX1_nonce_57 (fun t ht => zB_of hP hD [0, 1] rfl (by decide) ht)
theorem hd_X1_begin : yX1_begin.cls ≠ "java/lang/invoke/MethodHandle" ∧ yX1_begin.cls ≠ "java/lang/invoke/VarHandle" ∧ (parseMethodDescriptor yX1_begin.desc).map (fun d => d.parameters.length) = some 1 := by decide +kernel
theorem hv_X1_begin : yX1_begin.cls = RX1 ∧ yX1_begin.cls ≠ "java/lang/invoke/MethodHandle" ∧ yX1_begin.cls ≠ "java/lang/invoke/VarHandle" ∧ (parseMethodDescriptor yX1_begin.desc).map (fun d => d.parameters.length) = some 1 := ⟨rfl, hd_X1_begin⟩
set_option maxHeartbeats 4000000 in
set_option maxRecDepth 100000 in
theorem m_X1_begin (l : Launch) (dC : Nat → ClassId) (dI : Nat → Nat → Nat) (cB cI : ClassId) (sz : Nat) (h e k n tx o : Nat) (st gv : Int32) (z : Nat) (hz : z ≤ 256) (tt ts : Nat) (x : Int32) (fk fn : Nat → Int32) (hw : (x &&& 1 = 0 ∧ ts = 0) ∨ (¬ x &&& 1 = 0 ∧ ts = 4)) : zMv l yX1_begin cX1_begin 5 none 6 240 10 188 [.ref h, .int x] (zET tt) (dC, dI) cB cI sz [(h, .inr (0, [.ref e, .int st, .int gv, .ref k, .ref n, .ref tx, .int (nI z), .ref o])), (k, .inl (cB, 32, .inl fk)), (n, .inl (cB, 32, .inl fn))] (fun A t => ∃ (e2 es xs ks : Nat) (xt kt : Nat → Int32), zKs (initE ts fk fn) kt ∧ zB (dC, dI) A [(h, .inr (0, [.ref e2, .int (nI 1), .int (nI 0), .ref k, .ref n, .ref tx, .int (nI z), .ref o])), (e2, .inr (1, [.int (nI 20), .int (nI 0), .ref es, .ref xs, .ref ks, .int (nI 1), .int (nI 0), .int (nI 0), .int (nI 0)])), (es, .inl (cI, 16, .inl (initE ts fk fn))), (xs, .inl (cI, 16, .inl xt)), (ks, .inl (cB, 64, .inl kt))] t) := by
  refine z_ofv (C := RX1) rfl (by decide +kernel) (Nat.le_of_ble_eq_true rfl) ?_
  intro pr ev s m below meth c A hx hb hr hlocks hml hown hname hts hK hP hD hA hE hS ls hl
  have hl : lv_has ls 5 [(0, .ref h), (1, .int x)] := hl
  have hts4 : ts = 0 ∨ ts = 4 := by omega
  have hts5 : ts ≤ 4 := by omega
  have tail : W pr l ev (zRm 6 240 10 188) s m ([.ref h, .int x] : List Value).toArray below meth c s.heap [] (0) (0) (zQv below (fun A t => ∃ (e2 es xs ks : Nat) (xt kt : Nat → Int32), zKs (initE ts fk fn) kt ∧ zB (dC, dI) A [(h, .inr (0, [.ref e2, .int (nI 1), .int (nI 0), .ref k, .ref n, .ref tx, .int (nI z), .ref o])), (e2, .inr (1, [.int (nI 20), .int (nI 0), .ref es, .ref xs, .ref ks, .int (nI 1), .int (nI 0), .int (nI 0), .int (nI 0)])), (es, .inl (cI, 16, .inl (initE ts fk fn))), (xs, .inl (cI, 16, .inl xt)), (ks, .inl (cB, 64, .inl kt))] t) A [.ref h, .int x] s 10 188) (F0 m 13 ls [.int (nI (16 + 4 * ts))]) := by
    refine z_newb (N := (16 + 4 * ts)) hx hb (hts _ q113) hK hP hD hS hA (by omega) (Nat.le_of_ble_eq_true rfl) (by show 0 + (16 + 4 * ts) ≤ 188; omega) dX1_begin_13 (fun kq H hP hD hS => ?_)
    have hP : va_P (dC, dI) vwCl [(h, .inr (0, [.ref e, .int st, .int gv, .ref k, .ref n, .ref tx, .int (nI z), .ref o])), (k, .inl (cB, 32, .inl fk)), (n, .inl (cB, 32, .inl fn)), (kq, .inl (cB, (16 + 4 * ts), .inl (fun _ => 0)))] H := hP
    have hD : va_D A [(h, .inr (0, [.ref e, .int st, .int gv, .ref k, .ref n, .ref tx, .int (nI z), .ref o])), (k, .inl (cB, 32, .inl fk)), (n, .inl (cB, 32, .inl fn)), (kq, .inl (cB, (16 + 4 * ts), .inl (fun _ => 0)))] := hD
    refine W.widen (k := 1) (n := 32) (Nat.le_of_ble_eq_true rfl) (by omega) ?_
    refine lv_astore_n (lv' := [(2, .ref kq), (0, .ref h), (1, .int x)]) hx hb dX1_begin_15 rfl hl (by decide) rfl (fun ls hl => ?_)
    refine lv_iconst (v := nI 0) hx hb dX1_begin_16 (by decide) ?_
    refine lv_istore_n (lv' := [(3, .int (nI 0)), (2, .ref kq), (0, .ref h), (1, .int x)]) hx hb dX1_begin_17 rfl hl (by decide) rfl (fun ls hl => ?_)
    have behind : ∀ (H : Heap) (locs : List Loc) (ls : Array Slot), va_P (dC, dI) vwCl [(h, .inr (0, [.ref e, .int st, .int gv, .ref k, .ref n, .ref tx, .int (nI z), .ref o])), (k, .inl (cB, 32, .inl fk)), (n, .inl (cB, 32, .inl fn)), (kq, .inl (cB, 16 + 4 * ts, .inl (cpN fk (16 + 4 * ts))))] H → va_D A [(h, .inr (0, [.ref e, .int st, .int gv, .ref k, .ref n, .ref tx, .int (nI z), .ref o])), (k, .inl (cB, 32, .inl fk)), (n, .inl (cB, 32, .inl fn)), (kq, .inl (cB, 16 + 4 * ts, .inl (cpN fk (16 + 4 * ts))))] → va_S A s.heap H locs → lv_has ls 5 [(0, .ref h), (1, .int x), (2, .ref kq), (3, .int (nI (16 + 4 * ts)))] → W pr l ev (zRm 6 240 10 188) s m ([.ref h, .int x] : List Value).toArray below meth c H locs (1) (32) (zQv below (fun A t => ∃ (e2 es xs ks : Nat) (xt kt : Nat → Int32), zKs (initE ts fk fn) kt ∧ zB (dC, dI) A [(h, .inr (0, [.ref e2, .int (nI 1), .int (nI 0), .ref k, .ref n, .ref tx, .int (nI z), .ref o])), (e2, .inr (1, [.int (nI 20), .int (nI 0), .ref es, .ref xs, .ref ks, .int (nI 1), .int (nI 0), .int (nI 0), .int (nI 0)])), (es, .inl (cI, 16, .inl (initE ts fk fn))), (xs, .inl (cI, 16, .inl xt)), (ks, .inl (cB, 64, .inl kt))] t) A [.ref h, .int x] s 10 188) (F0 m 39 ls []) := by
      intro H locs ls hP hD hS hl
      refine lv_bipush (v := nI 8) hx hb dX1_begin_39 (by decide) ?_
      refine z_newb (N := 8) hx hb (hts _ q113) hK hP hD hS hA (by omega) (Nat.le_of_ble_eq_true rfl) (by show 32 + 8 ≤ 188; decide) dX1_begin_41 (fun vq H hP hD hS => ?_)
      have hP : va_P (dC, dI) vwCl [(h, .inr (0, [.ref e, .int st, .int gv, .ref k, .ref n, .ref tx, .int (nI z), .ref o])), (k, .inl (cB, 32, .inl fk)), (n, .inl (cB, 32, .inl fn)), (kq, .inl (cB, 16 + 4 * ts, .inl (cpN fk (16 + 4 * ts)))), (vq, .inl (cB, 8, .inl (fun _ => 0)))] H := hP
      have hD : va_D A [(h, .inr (0, [.ref e, .int st, .int gv, .ref k, .ref n, .ref tx, .int (nI z), .ref o])), (k, .inl (cB, 32, .inl fk)), (n, .inl (cB, 32, .inl fn)), (kq, .inl (cB, 16 + 4 * ts, .inl (cpN fk (16 + 4 * ts)))), (vq, .inl (cB, 8, .inl (fun _ => 0)))] := hD
      refine lv_astore_n (lv' := [(3, .ref vq), (0, .ref h), (1, .int x), (2, .ref kq)]) hx hb dX1_begin_43 rfl hl (by decide) rfl (fun ls hl => ?_)
      refine lv_iconst (v := nI 0) hx hb dX1_begin_44 (by decide) ?_
      refine lv_istore (lv' := [(4, .int (nI 0)), (3, .ref vq), (0, .ref h), (1, .int x), (2, .ref kq)]) hx hb dX1_begin_45 hl (by decide) rfl (fun ls hl => ?_)
      have loop2 : ∀ (r i : Nat), i + r = 8 → ∀ (H : Heap) (locs : List Loc) (ls : Array Slot), va_P (dC, dI) vwCl [(h, .inr (0, [.ref e, .int st, .int gv, .ref k, .ref n, .ref tx, .int (nI z), .ref o])), (k, .inl (cB, 32, .inl fk)), (n, .inl (cB, 32, .inl fn)), (kq, .inl (cB, 16 + 4 * ts, .inl (cpN fk (16 + 4 * ts)))), (vq, .inl (cB, 8, .inl (cpN fn i)))] H → va_D A [(h, .inr (0, [.ref e, .int st, .int gv, .ref k, .ref n, .ref tx, .int (nI z), .ref o])), (k, .inl (cB, 32, .inl fk)), (n, .inl (cB, 32, .inl fn)), (kq, .inl (cB, 16 + 4 * ts, .inl (cpN fk (16 + 4 * ts)))), (vq, .inl (cB, 8, .inl (cpN fn i)))] → va_S A s.heap H locs → lv_has ls 5 [(0, .ref h), (1, .int x), (2, .ref kq), (3, .ref vq), (4, .int (nI i))] → W pr l ev (zRm 6 240 10 188) s m ([.ref h, .int x] : List Value).toArray below meth c H locs (2) (40) (zQv below (fun A t => ∃ (e2 es xs ks : Nat) (xt kt : Nat → Int32), zKs (initE ts fk fn) kt ∧ zB (dC, dI) A [(h, .inr (0, [.ref e2, .int (nI 1), .int (nI 0), .ref k, .ref n, .ref tx, .int (nI z), .ref o])), (e2, .inr (1, [.int (nI 20), .int (nI 0), .ref es, .ref xs, .ref ks, .int (nI 1), .int (nI 0), .int (nI 0), .int (nI 0)])), (es, .inl (cI, 16, .inl (initE ts fk fn))), (xs, .inl (cI, 16, .inl xt)), (ks, .inl (cB, 64, .inl kt))] t) A [.ref h, .int x] s 10 188) (F0 m 47 ls []) := by
        intro r
        induction r with
        | zero =>
          intro i hi H locs ls hP hD hS hl
          obtain rfl : i = 8 := by omega
          refine lv_iload hx hb dX1_begin_47 (lv_at hl 4 rfl) ?_
          refine lv_bipush (v := nI 8) hx hb dX1_begin_49 (by decide) ?_
          refine lv_icmp_ge (tgt := 71) hx hb dX1_begin_51 (by decide) (fun _ => ?_) (fun hc => absurd (nI_le (Nat.le_refl _) (by decide)) hc)
          refine va_new (ci := 2) (fs := [.null, .null]) (C := RX3) (T := TX3) (N := 2) hx hb hts in_X3 tyX3 tyX3_ok hown (hts _ q351) (hts _ q352) (hts _ q13) hK hP hD hS hA rfl (z_fsX3) (Nat.le_of_ble_eq_true rfl) (by show 40 + 2 ≤ 188; decide) dX1_begin_71 (fun pv H hP hD hS => ?_)
          have hP : va_P (dC, dI) vwCl [(h, .inr (0, [.ref e, .int st, .int gv, .ref k, .ref n, .ref tx, .int (nI z), .ref o])), (k, .inl (cB, 32, .inl fk)), (n, .inl (cB, 32, .inl fn)), (kq, .inl (cB, 16 + 4 * ts, .inl (cpN fk (16 + 4 * ts)))), (vq, .inl (cB, 8, .inl (cpN fn 8))), (pv, .inr (2, [.null, .null]))] H := hP
          have hD : va_D A [(h, .inr (0, [.ref e, .int st, .int gv, .ref k, .ref n, .ref tx, .int (nI z), .ref o])), (k, .inl (cB, 32, .inl fk)), (n, .inl (cB, 32, .inl fn)), (kq, .inl (cB, 16 + 4 * ts, .inl (cpN fk (16 + 4 * ts)))), (vq, .inl (cB, 8, .inl (cpN fn 8))), (pv, .inr (2, [.null, .null]))] := hD
          refine lv_dup hx hb dX1_begin_74 rfl ?_
          refine va_new (ci := 3) (fs := [.null]) (C := RX4) (T := TX4) (N := 1) hx hb hts in_X4 tyX4 tyX4_ok hown (hts _ q353) (hts _ q354) (hts _ q14) hK hP hD hS hA rfl (z_fsX4) (Nat.le_of_ble_eq_true rfl) (Nat.le_of_ble_eq_true rfl) dX1_begin_75 (fun kp H hP hD hS => ?_)
          have hP : va_P (dC, dI) vwCl [(h, .inr (0, [.ref e, .int st, .int gv, .ref k, .ref n, .ref tx, .int (nI z), .ref o])), (k, .inl (cB, 32, .inl fk)), (n, .inl (cB, 32, .inl fn)), (kq, .inl (cB, 16 + 4 * ts, .inl (cpN fk (16 + 4 * ts)))), (vq, .inl (cB, 8, .inl (cpN fn 8))), (pv, .inr (2, [.null, .null])), (kp, .inr (3, [.null]))] H := hP
          have hD : va_D A [(h, .inr (0, [.ref e, .int st, .int gv, .ref k, .ref n, .ref tx, .int (nI z), .ref o])), (k, .inl (cB, 32, .inl fk)), (n, .inl (cB, 32, .inl fn)), (kq, .inl (cB, 16 + 4 * ts, .inl (cpN fk (16 + 4 * ts)))), (vq, .inl (cB, 8, .inl (cpN fn 8))), (pv, .inr (2, [.null, .null])), (kp, .inr (3, [.null]))] := hD
          refine lv_dup hx hb dX1_begin_78 rfl ?_
          refine lv_aload_n hx hb dX1_begin_79 rfl (lv_at hl 2 rfl) ?_
          refine z_callvI (wr := [(h, .inr (0, [.ref e, .int st, .int gv, .ref k, .ref n, .ref tx, .int (nI z), .ref o])), (k, .inl (cB, 32, .inl fk)), (n, .inl (cB, 32, .inl fn)), (vq, .inl (cB, 8, .inl (cpN fn 8))), (pv, .inr (2, [.null, .null]))]) (As := [.ref kq]) (rest := [.ref kp, .ref pv, .ref pv]) ⟨hx, hb, hml, hown, hts⟩ (m_X4_init l dC dI cB cI H.size kp kq (16 + 4 * ts) (cpN fk (16 + 4 * ts)) (by omega) (cpN_fit fk (16 + 4 * ts))) (cwI 1 hts (lw_meth q357) rfl rfl rfl (hts _ q14) (hts _ q355) (hts _ q356) rfl hd_X4_init ⟨Nat.le_of_ble_eq_true rfl, Nat.le_of_ble_eq_true rfl⟩) ⟨zNo_good, trivial⟩ rfl hl.1 rfl (Nat.le_of_ble_eq_true rfl) dX1_begin_80 ⟨Nat.le_of_ble_eq_true rfl, Nat.le_of_ble_eq_true rfl⟩ hS hK hP hD hA [6, 3] [0, 1, 2, 4, 5] rfl (by decide) rfl (by decide) (by decide) (fun A1 t H locs hB J hS => ?_)
          obtain ⟨kk, hB⟩ := hB
          obtain ⟨hP, hD⟩ := J _ hB
          clear hB J
          have hP : va_P (dC, dI) vwCl [(h, .inr (0, [.ref e, .int st, .int gv, .ref k, .ref n, .ref tx, .int (nI z), .ref o])), (k, .inl (cB, 32, .inl fk)), (n, .inl (cB, 32, .inl fn)), (vq, .inl (cB, 8, .inl (cpN fn 8))), (pv, .inr (2, [.null, .null])), (kp, .inr (3, [.ref kk])), (kq, .inl (cB, 16 + 4 * ts, .inl (cpN fk (16 + 4 * ts)))), (kk, .inl (cB, 16 + 4 * ts, .inl (va_cpy (cpN fk (16 + 4 * ts)) (fun _ => 0) 0 0 (16 + 4 * ts))))] H := hP
          have hD : va_D A [(h, .inr (0, [.ref e, .int st, .int gv, .ref k, .ref n, .ref tx, .int (nI z), .ref o])), (k, .inl (cB, 32, .inl fk)), (n, .inl (cB, 32, .inl fn)), (vq, .inl (cB, 8, .inl (cpN fn 8))), (pv, .inr (2, [.null, .null])), (kp, .inr (3, [.ref kk])), (kq, .inl (cB, 16 + 4 * ts, .inl (cpN fk (16 + 4 * ts)))), (kk, .inl (cB, 16 + 4 * ts, .inl (va_cpy (cpN fk (16 + 4 * ts)) (fun _ => 0) 0 0 (16 + 4 * ts))))] := hD
          refine lv_aload_n hx hb dX1_begin_83 rfl (lv_at hl 3 rfl) ?_
          refine z_callvI (wr := [(h, .inr (0, [.ref e, .int st, .int gv, .ref k, .ref n, .ref tx, .int (nI z), .ref o])), (k, .inl (cB, 32, .inl fk)), (n, .inl (cB, 32, .inl fn)), (kp, .inr (3, [.ref kk])), (kq, .inl (cB, 16 + 4 * ts, .inl (cpN fk (16 + 4 * ts)))), (kk, .inl (cB, 16 + 4 * ts, .inl (va_cpy (cpN fk (16 + 4 * ts)) (fun _ => 0) 0 0 (16 + 4 * ts))))]) (As := [.ref kp, .ref vq]) (rest := [.ref pv]) ⟨hx, hb, hml, hown, hts⟩ (m_X3_init l dC dI cB cI H.size pv kp vq 8 (cpN fn 8) (by decide) (cpN_fit fn 8)) (cwI 2 hts (lw_meth q374) rfl rfl rfl (hts _ q13) (hts _ q372) (hts _ q373) rfl hd_X3_init ⟨Nat.le_of_ble_eq_true rfl, Nat.le_of_ble_eq_true rfl⟩) ⟨zNo_good, trivial⟩ rfl hl.1 rfl (Nat.le_of_ble_eq_true rfl) dX1_begin_84 ⟨Nat.le_of_ble_eq_true rfl, Nat.le_of_ble_eq_true rfl⟩ hS hK hP hD hA [4, 3] [0, 1, 2, 5, 6, 7] rfl (by decide) rfl (by decide) (by decide) (fun A1 t H locs hB J hS => ?_)
          obtain ⟨vv, hB⟩ := hB
          obtain ⟨hP, hD⟩ := J _ hB
          clear hB J
          have hP : va_P (dC, dI) vwCl [(h, .inr (0, [.ref e, .int st, .int gv, .ref k, .ref n, .ref tx, .int (nI z), .ref o])), (k, .inl (cB, 32, .inl fk)), (n, .inl (cB, 32, .inl fn)), (kp, .inr (3, [.ref kk])), (kq, .inl (cB, 16 + 4 * ts, .inl (cpN fk (16 + 4 * ts)))), (kk, .inl (cB, 16 + 4 * ts, .inl (va_cpy (cpN fk (16 + 4 * ts)) (fun _ => 0) 0 0 (16 + 4 * ts)))), (pv, .inr (2, [.ref vv, .ref kp])), (vq, .inl (cB, 8, .inl (cpN fn 8))), (vv, .inl (cB, 8, .inl (va_cpy (cpN fn 8) (fun _ => 0) 0 0 8)))] H := hP
          have hD : va_D A [(h, .inr (0, [.ref e, .int st, .int gv, .ref k, .ref n, .ref tx, .int (nI z), .ref o])), (k, .inl (cB, 32, .inl fk)), (n, .inl (cB, 32, .inl fn)), (kp, .inr (3, [.ref kk])), (kq, .inl (cB, 16 + 4 * ts, .inl (cpN fk (16 + 4 * ts)))), (kk, .inl (cB, 16 + 4 * ts, .inl (va_cpy (cpN fk (16 + 4 * ts)) (fun _ => 0) 0 0 (16 + 4 * ts)))), (pv, .inr (2, [.ref vv, .ref kp])), (vq, .inl (cB, 8, .inl (cpN fn 8))), (vv, .inl (cB, 8, .inl (va_cpy (cpN fn 8) (fun _ => 0) 0 0 8)))] := hD
          refine lv_astore (lv' := [(4, .ref pv), (0, .ref h), (1, .int x), (2, .ref kq), (3, .ref vq)]) hx hb dX1_begin_87 hl (by decide) rfl (fun ls hl => ?_)
          refine lv_aload_n hx hb dX1_begin_89 rfl (lv_at hl 1 rfl) ?_
          refine va_new (ci := 1) (fs := [.int 0, .int 0, .null, .null, .null, .int 0, .int 0, .int 0, .int 0]) (C := RX2) (T := TX2) (N := 9) hx hb hts in_X2 tyX2 tyX2_ok hown (hts _ q265) (hts _ q154) (hts _ q8) hK hP hD hS hA rfl (z_fsX2) (Nat.le_of_ble_eq_true rfl) (Nat.le_of_ble_eq_true rfl) dX1_begin_90 (fun e2 H hP hD hS => ?_)
          have hP : va_P (dC, dI) vwCl [(h, .inr (0, [.ref e, .int st, .int gv, .ref k, .ref n, .ref tx, .int (nI z), .ref o])), (k, .inl (cB, 32, .inl fk)), (n, .inl (cB, 32, .inl fn)), (kp, .inr (3, [.ref kk])), (kq, .inl (cB, 16 + 4 * ts, .inl (cpN fk (16 + 4 * ts)))), (kk, .inl (cB, 16 + 4 * ts, .inl (va_cpy (cpN fk (16 + 4 * ts)) (fun _ => 0) 0 0 (16 + 4 * ts)))), (pv, .inr (2, [.ref vv, .ref kp])), (vq, .inl (cB, 8, .inl (cpN fn 8))), (vv, .inl (cB, 8, .inl (va_cpy (cpN fn 8) (fun _ => 0) 0 0 8))), (e2, .inr (1, [.int 0, .int 0, .null, .null, .null, .int 0, .int 0, .int 0, .int 0]))] H := hP
          have hD : va_D A [(h, .inr (0, [.ref e, .int st, .int gv, .ref k, .ref n, .ref tx, .int (nI z), .ref o])), (k, .inl (cB, 32, .inl fk)), (n, .inl (cB, 32, .inl fn)), (kp, .inr (3, [.ref kk])), (kq, .inl (cB, 16 + 4 * ts, .inl (cpN fk (16 + 4 * ts)))), (kk, .inl (cB, 16 + 4 * ts, .inl (va_cpy (cpN fk (16 + 4 * ts)) (fun _ => 0) 0 0 (16 + 4 * ts)))), (pv, .inr (2, [.ref vv, .ref kp])), (vq, .inl (cB, 8, .inl (cpN fn 8))), (vv, .inl (cB, 8, .inl (va_cpy (cpN fn 8) (fun _ => 0) 0 0 8))), (e2, .inr (1, [.int 0, .int 0, .null, .null, .null, .int 0, .int 0, .int 0, .int 0]))] := hD
          refine lv_dup hx hb dX1_begin_93 rfl ?_
          refine z_callvI (wr := [(h, .inr (0, [.ref e, .int st, .int gv, .ref k, .ref n, .ref tx, .int (nI z), .ref o])), (k, .inl (cB, 32, .inl fk)), (n, .inl (cB, 32, .inl fn)), (kp, .inr (3, [.ref kk])), (kq, .inl (cB, 16 + 4 * ts, .inl (cpN fk (16 + 4 * ts)))), (kk, .inl (cB, 16 + 4 * ts, .inl (va_cpy (cpN fk (16 + 4 * ts)) (fun _ => 0) 0 0 (16 + 4 * ts)))), (pv, .inr (2, [.ref vv, .ref kp])), (vq, .inl (cB, 8, .inl (cpN fn 8))), (vv, .inl (cB, 8, .inl (va_cpy (cpN fn 8) (fun _ => 0) 0 0 8)))]) (As := []) (rest := [.ref e2, .ref h]) ⟨hx, hb, hml, hown, hts⟩ (m_X2_init l dC dI cB cI H.size e2) (cwI 0 hts (lw_meth q268) rfl rfl rfl (hts _ q8) (hts _ q266) (hts _ q267) rfl hd_X2_init ⟨Nat.le_of_ble_eq_true rfl, Nat.le_of_ble_eq_true rfl⟩) ⟨zNo_good, trivial⟩ rfl hl.1 rfl (Nat.le_of_ble_eq_true rfl) dX1_begin_94 ⟨Nat.le_of_ble_eq_true rfl, Nat.le_of_ble_eq_true rfl⟩ hS hK hP hD hA [9] [0, 1, 2, 3, 4, 5, 6, 7, 8] rfl (by decide) rfl (by decide) (by decide) (fun A1 t H locs hB J hS => ?_)
          obtain ⟨es, xs, ks, hB⟩ := hB
          obtain ⟨hP, hD⟩ := J _ hB
          clear hB J
          have hP : va_P (dC, dI) vwCl [(h, .inr (0, [.ref e, .int st, .int gv, .ref k, .ref n, .ref tx, .int (nI z), .ref o])), (k, .inl (cB, 32, .inl fk)), (n, .inl (cB, 32, .inl fn)), (kp, .inr (3, [.ref kk])), (kq, .inl (cB, 16 + 4 * ts, .inl (cpN fk (16 + 4 * ts)))), (kk, .inl (cB, 16 + 4 * ts, .inl (va_cpy (cpN fk (16 + 4 * ts)) (fun _ => 0) 0 0 (16 + 4 * ts)))), (pv, .inr (2, [.ref vv, .ref kp])), (vq, .inl (cB, 8, .inl (cpN fn 8))), (vv, .inl (cB, 8, .inl (va_cpy (cpN fn 8) (fun _ => 0) 0 0 8))), (e2, .inr (1, [.int (nI 20), .int (nI 0), .ref es, .ref xs, .ref ks, .int (nI 0), .int (nI 0), .int (nI 0), .int (nI 0)])), (es, .inl (cI, 16, .inl (fun _ => 0))), (xs, .inl (cI, 16, .inl (fun _ => 0))), (ks, .inl (cB, 64, .inl (fun _ => 0)))] H := hP
          have hD : va_D A [(h, .inr (0, [.ref e, .int st, .int gv, .ref k, .ref n, .ref tx, .int (nI z), .ref o])), (k, .inl (cB, 32, .inl fk)), (n, .inl (cB, 32, .inl fn)), (kp, .inr (3, [.ref kk])), (kq, .inl (cB, 16 + 4 * ts, .inl (cpN fk (16 + 4 * ts)))), (kk, .inl (cB, 16 + 4 * ts, .inl (va_cpy (cpN fk (16 + 4 * ts)) (fun _ => 0) 0 0 (16 + 4 * ts)))), (pv, .inr (2, [.ref vv, .ref kp])), (vq, .inl (cB, 8, .inl (cpN fn 8))), (vv, .inl (cB, 8, .inl (va_cpy (cpN fn 8) (fun _ => 0) 0 0 8))), (e2, .inr (1, [.int (nI 20), .int (nI 0), .ref es, .ref xs, .ref ks, .int (nI 0), .int (nI 0), .int (nI 0), .int (nI 0)])), (es, .inl (cI, 16, .inl (fun _ => 0))), (xs, .inl (cI, 16, .inl (fun _ => 0))), (ks, .inl (cB, 64, .inl (fun _ => 0)))] := hD
          refine va_put (D := (dC, dI)) (ci := 0) (v := .ref e2) (ty := .object "Salsa20Engine") (C := RX1) (T := TX1) (N := 8) hx hb hts in_X1 tyX1 tyX1_ok nmX1 hown hK hP hD hS 0 rfl rfl 0 (by decide) (hts _ q303) (fun _ h9 => h9) rfl (by decide +kernel) rfl rfl (Nat.le_of_ble_eq_true rfl) dX1_begin_97 (fun H locs hP hD hS => ?_)
          have hP : va_P (dC, dI) vwCl [(h, .inr (0, [.ref e2, .int st, .int gv, .ref k, .ref n, .ref tx, .int (nI z), .ref o])), (k, .inl (cB, 32, .inl fk)), (n, .inl (cB, 32, .inl fn)), (kp, .inr (3, [.ref kk])), (kq, .inl (cB, 16 + 4 * ts, .inl (cpN fk (16 + 4 * ts)))), (kk, .inl (cB, 16 + 4 * ts, .inl (va_cpy (cpN fk (16 + 4 * ts)) (fun _ => 0) 0 0 (16 + 4 * ts)))), (pv, .inr (2, [.ref vv, .ref kp])), (vq, .inl (cB, 8, .inl (cpN fn 8))), (vv, .inl (cB, 8, .inl (va_cpy (cpN fn 8) (fun _ => 0) 0 0 8))), (e2, .inr (1, [.int (nI 20), .int (nI 0), .ref es, .ref xs, .ref ks, .int (nI 0), .int (nI 0), .int (nI 0), .int (nI 0)])), (es, .inl (cI, 16, .inl (fun _ => 0))), (xs, .inl (cI, 16, .inl (fun _ => 0))), (ks, .inl (cB, 64, .inl (fun _ => 0)))] H := hP
          have hD : va_D A [(h, .inr (0, [.ref e2, .int st, .int gv, .ref k, .ref n, .ref tx, .int (nI z), .ref o])), (k, .inl (cB, 32, .inl fk)), (n, .inl (cB, 32, .inl fn)), (kp, .inr (3, [.ref kk])), (kq, .inl (cB, 16 + 4 * ts, .inl (cpN fk (16 + 4 * ts)))), (kk, .inl (cB, 16 + 4 * ts, .inl (va_cpy (cpN fk (16 + 4 * ts)) (fun _ => 0) 0 0 (16 + 4 * ts)))), (pv, .inr (2, [.ref vv, .ref kp])), (vq, .inl (cB, 8, .inl (cpN fn 8))), (vv, .inl (cB, 8, .inl (va_cpy (cpN fn 8) (fun _ => 0) 0 0 8))), (e2, .inr (1, [.int (nI 20), .int (nI 0), .ref es, .ref xs, .ref ks, .int (nI 0), .int (nI 0), .int (nI 0), .int (nI 0)])), (es, .inl (cI, 16, .inl (fun _ => 0))), (xs, .inl (cI, 16, .inl (fun _ => 0))), (ks, .inl (cB, 64, .inl (fun _ => 0)))] := hD
          refine lv_aload_n hx hb dX1_begin_100 rfl (lv_at hl 1 rfl) ?_
          refine va_get (D := (dC, dI)) (ci := 0) (v := .ref e2) (C := RX1) (T := TX1) (N := 8) hx hb hts in_X1 hown hK hP 0 rfl rfl 0 (by decide) (hts _ q303) (fun _ h9 => h9) rfl dX1_begin_101 ?_
          refine lv_iconst (v := nI 1) hx hb dX1_begin_104 (by decide) ?_
          refine lv_aload hx hb dX1_begin_105 (lv_at hl 0 rfl) ?_
          refine z_callvV (wr := [(h, .inr (0, [.ref e2, .int st, .int gv, .ref k, .ref n, .ref tx, .int (nI z), .ref o])), (k, .inl (cB, 32, .inl fk)), (n, .inl (cB, 32, .inl fn)), (kq, .inl (cB, 16 + 4 * ts, .inl (cpN fk (16 + 4 * ts)))), (vq, .inl (cB, 8, .inl (cpN fn 8)))]) (As := [.int (nI 1), .ref pv]) (rest := []) ⟨hx, hb, hml, hown, hts⟩ (m_X2_init_3 l dC dI cB cI H.size e2 es xs ks pv vv kp kk tt ts (nI 0) (nI 0) (nI 0) (nI 0) (nI 0) (fun _ => 0) (fun _ => 0) (fun _ => 0) (va_cpy (cpN fk (16 + 4 * ts)) (fun _ => 0) 0 0 (16 + 4 * ts)) (va_cpy (cpN fn 8) (fun _ => 0) 0 0 8) hts4) (cwV 2 hts (lw_V q387 q388 q389 q8 q390) rfl rfl rfl hv_X2_init_3 ⟨Nat.le_of_ble_eq_true rfl, Nat.le_of_ble_eq_true rfl⟩) ⟨zET_good tt, hE⟩ (va_recv hK hP (ci := 1) (q0 := 9) rfl rfl) rfl hl.1 rfl (Nat.le_of_ble_eq_true rfl) dX1_begin_107 ⟨Nat.le_of_ble_eq_true rfl, Nat.le_of_ble_eq_true rfl⟩ hS hK hP hD hA [9, 10, 11, 12, 6, 8, 3, 5] [0, 1, 2, 4, 7] rfl (by decide) rfl (by decide) (by decide) (fun A1 t H locs hB J hS => ?_)
          obtain ⟨xt, kt, hk, hB⟩ := hB
          obtain ⟨hP, hD⟩ := J _ hB
          clear hB J
          have hP : va_P (dC, dI) vwCl [(h, .inr (0, [.ref e2, .int st, .int gv, .ref k, .ref n, .ref tx, .int (nI z), .ref o])), (k, .inl (cB, 32, .inl fk)), (n, .inl (cB, 32, .inl fn)), (kq, .inl (cB, 16 + 4 * ts, .inl (cpN fk (16 + 4 * ts)))), (vq, .inl (cB, 8, .inl (cpN fn 8))), (e2, .inr (1, [.int (nI 20), .int (nI 0), .ref es, .ref xs, .ref ks, .int (nI 1), .int (nI 0), .int (nI 0), .int (nI 0)])), (es, .inl (cI, 16, .inl (initE ts fk fn))), (xs, .inl (cI, 16, .inl xt)), (ks, .inl (cB, 64, .inl kt))] H := hP
          have hD : va_D A [(h, .inr (0, [.ref e2, .int st, .int gv, .ref k, .ref n, .ref tx, .int (nI z), .ref o])), (k, .inl (cB, 32, .inl fk)), (n, .inl (cB, 32, .inl fn)), (kq, .inl (cB, 16 + 4 * ts, .inl (cpN fk (16 + 4 * ts)))), (vq, .inl (cB, 8, .inl (cpN fn 8))), (e2, .inr (1, [.int (nI 20), .int (nI 0), .ref es, .ref xs, .ref ks, .int (nI 1), .int (nI 0), .int (nI 0), .int (nI 0)])), (es, .inl (cI, 16, .inl (initE ts fk fn))), (xs, .inl (cI, 16, .inl xt)), (ks, .inl (cB, 64, .inl kt))] := hD
          refine lv_aload_n hx hb dX1_begin_110 rfl (lv_at hl 1 rfl) ?_
          refine lv_iconst (v := nI 1) hx hb dX1_begin_111 (by decide) ?_
          refine va_put (D := (dC, dI)) (ci := 0) (v := .int (nI 1)) (ty := .boolean) (C := RX1) (T := TX1) (N := 8) hx hb hts in_X1 tyX1 tyX1_ok nmX1 hown hK hP hD hS 0 rfl rfl 1 (by decide) (hts _ q304) (fun _ h9 => h9) rfl (by decide +kernel) rfl rfl (Nat.le_of_ble_eq_true rfl) dX1_begin_112 (fun H locs hP hD hS => ?_)
          have hP : va_P (dC, dI) vwCl [(h, .inr (0, [.ref e2, .int (nI 1), .int gv, .ref k, .ref n, .ref tx, .int (nI z), .ref o])), (k, .inl (cB, 32, .inl fk)), (n, .inl (cB, 32, .inl fn)), (kq, .inl (cB, 16 + 4 * ts, .inl (cpN fk (16 + 4 * ts)))), (vq, .inl (cB, 8, .inl (cpN fn 8))), (e2, .inr (1, [.int (nI 20), .int (nI 0), .ref es, .ref xs, .ref ks, .int (nI 1), .int (nI 0), .int (nI 0), .int (nI 0)])), (es, .inl (cI, 16, .inl (initE ts fk fn))), (xs, .inl (cI, 16, .inl xt)), (ks, .inl (cB, 64, .inl kt))] H := hP
          have hD : va_D A [(h, .inr (0, [.ref e2, .int (nI 1), .int gv, .ref k, .ref n, .ref tx, .int (nI z), .ref o])), (k, .inl (cB, 32, .inl fk)), (n, .inl (cB, 32, .inl fn)), (kq, .inl (cB, 16 + 4 * ts, .inl (cpN fk (16 + 4 * ts)))), (vq, .inl (cB, 8, .inl (cpN fn 8))), (e2, .inr (1, [.int (nI 20), .int (nI 0), .ref es, .ref xs, .ref ks, .int (nI 1), .int (nI 0), .int (nI 0), .int (nI 0)])), (es, .inl (cI, 16, .inl (initE ts fk fn))), (xs, .inl (cI, 16, .inl xt)), (ks, .inl (cB, 64, .inl kt))] := hD
          refine lv_aload_n hx hb dX1_begin_115 rfl (lv_at hl 1 rfl) ?_
          refine lv_iconst (v := nI 0) hx hb dX1_begin_116 (by decide) ?_
          refine va_put (D := (dC, dI)) (ci := 0) (v := .int (nI 0)) (ty := .int) (C := RX1) (T := TX1) (N := 8) hx hb hts in_X1 tyX1 tyX1_ok nmX1 hown hK hP hD hS 0 rfl rfl 2 (by decide) (hts _ q305) (fun _ h9 => h9) rfl (by decide +kernel) rfl rfl (Nat.le_of_ble_eq_true rfl) dX1_begin_117 (fun H locs hP hD hS => ?_)
          have hP : va_P (dC, dI) vwCl [(h, .inr (0, [.ref e2, .int (nI 1), .int (nI 0), .ref k, .ref n, .ref tx, .int (nI z), .ref o])), (k, .inl (cB, 32, .inl fk)), (n, .inl (cB, 32, .inl fn)), (kq, .inl (cB, 16 + 4 * ts, .inl (cpN fk (16 + 4 * ts)))), (vq, .inl (cB, 8, .inl (cpN fn 8))), (e2, .inr (1, [.int (nI 20), .int (nI 0), .ref es, .ref xs, .ref ks, .int (nI 1), .int (nI 0), .int (nI 0), .int (nI 0)])), (es, .inl (cI, 16, .inl (initE ts fk fn))), (xs, .inl (cI, 16, .inl xt)), (ks, .inl (cB, 64, .inl kt))] H := hP
          have hD : va_D A [(h, .inr (0, [.ref e2, .int (nI 1), .int (nI 0), .ref k, .ref n, .ref tx, .int (nI z), .ref o])), (k, .inl (cB, 32, .inl fk)), (n, .inl (cB, 32, .inl fn)), (kq, .inl (cB, 16 + 4 * ts, .inl (cpN fk (16 + 4 * ts)))), (vq, .inl (cB, 8, .inl (cpN fn 8))), (e2, .inr (1, [.int (nI 20), .int (nI 0), .ref es, .ref xs, .ref ks, .int (nI 1), .int (nI 0), .int (nI 0), .int (nI 0)])), (es, .inl (cI, 16, .inl (initE ts fk fn))), (xs, .inl (cI, 16, .inl xt)), (ks, .inl (cB, 64, .inl kt))] := hD
          exact z_vret hx hb hr hlocks hS (Nat.le_of_ble_eq_true rfl) (Nat.le_of_ble_eq_true rfl) dX1_begin_120 (fun t ht => ⟨e2, es, xs, ks, xt, kt, hk, zB_of hP hD [0, 5, 6, 7, 8] rfl (by decide) ht⟩)
        | succ r ih =>
          intro i hi H locs ls hP hD hS hl
          refine lv_iload hx hb dX1_begin_47 (lv_at hl 4 rfl) ?_
          refine lv_bipush (v := nI 8) hx hb dX1_begin_49 (by decide) ?_
          refine lv_icmp_ge (tgt := 71) hx hb dX1_begin_51 (by decide) (fun hc => absurd hc (nI_ge (by omega) (by decide))) (fun _ => ?_)
          refine lv_aload_n hx hb dX1_begin_54 rfl (lv_at hl 3 rfl) ?_
          refine lv_iload hx hb dX1_begin_55 (lv_at hl 4 rfl) ?_
          refine lv_aload_n hx hb dX1_begin_57 rfl (lv_at hl 0 rfl) ?_
          refine va_get (D := (dC, dI)) (ci := 0) (v := .ref n) (C := RX1) (T := TX1) (N := 8) hx hb hts in_X1 hown hK hP 0 rfl rfl 4 (by decide) (hts _ q307) (fun _ h9 => h9) rfl dX1_begin_58 ?_
          refine lv_iload hx hb dX1_begin_61 (lv_at hl 4 rfl) ?_
          refine z_bald (k := i) (v := fn i) hx hb hK hP 2 0 rfl rfl (by omega) (by omega) rfl dX1_begin_63 ?_
          refine z_bast (k := i) (v := vp_nar .byte (fn i)) (g := cpN fn (i + 1)) hx hb hK hP hD hS 4 0 rfl rfl (by omega) (by omega) rfl rfl dX1_begin_64 (fun H locs hP hD hS => ?_)
          have hP : va_P (dC, dI) vwCl [(h, .inr (0, [.ref e, .int st, .int gv, .ref k, .ref n, .ref tx, .int (nI z), .ref o])), (k, .inl (cB, 32, .inl fk)), (n, .inl (cB, 32, .inl fn)), (kq, .inl (cB, 16 + 4 * ts, .inl (cpN fk (16 + 4 * ts)))), (vq, .inl (cB, 8, .inl (cpN fn (i + 1))))] H := hP
          have hD : va_D A [(h, .inr (0, [.ref e, .int st, .int gv, .ref k, .ref n, .ref tx, .int (nI z), .ref o])), (k, .inl (cB, 32, .inl fk)), (n, .inl (cB, 32, .inl fn)), (kq, .inl (cB, 16 + 4 * ts, .inl (cpN fk (16 + 4 * ts)))), (vq, .inl (cB, 8, .inl (cpN fn (i + 1))))] := hD
          refine lv_iinc (v := nI (i + 1)) (lv' := [(4, .int (nI (i + 1))), (0, .ref h), (1, .int x), (2, .ref kq), (3, .ref vq)]) hx hb dX1_begin_65 hl (k := 4) rfl (z_inc _ 1) (by decide) rfl (fun ls hl => ?_)
          refine lv_goto (tgt := 47) hx hb dX1_begin_68 (by decide) ?_
          exact ih (i + 1) (by omega) H locs ls hP hD hS (lv_sub hl [1, 2, 3, 4, 0] rfl)
      exact loop2 8 0 (by decide) H locs ls hP hD hS (lv_sub hl [2, 3, 4, 1, 0] rfl)
    have loop1 : ∀ (r i : Nat), i + r = 16 + 4 * ts → ∀ (H : Heap) (locs : List Loc) (ls : Array Slot), va_P (dC, dI) vwCl [(h, .inr (0, [.ref e, .int st, .int gv, .ref k, .ref n, .ref tx, .int (nI z), .ref o])), (k, .inl (cB, 32, .inl fk)), (n, .inl (cB, 32, .inl fn)), (kq, .inl (cB, 16 + 4 * ts, .inl (cpN fk i)))] H → va_D A [(h, .inr (0, [.ref e, .int st, .int gv, .ref k, .ref n, .ref tx, .int (nI z), .ref o])), (k, .inl (cB, 32, .inl fk)), (n, .inl (cB, 32, .inl fn)), (kq, .inl (cB, 16 + 4 * ts, .inl (cpN fk i)))] → va_S A s.heap H locs → lv_has ls 5 [(0, .ref h), (1, .int x), (2, .ref kq), (3, .int (nI i))] → W pr l ev (zRm 6 240 10 188) s m ([.ref h, .int x] : List Value).toArray below meth c H locs (1) (32) (zQv below (fun A t => ∃ (e2 es xs ks : Nat) (xt kt : Nat → Int32), zKs (initE ts fk fn) kt ∧ zB (dC, dI) A [(h, .inr (0, [.ref e2, .int (nI 1), .int (nI 0), .ref k, .ref n, .ref tx, .int (nI z), .ref o])), (e2, .inr (1, [.int (nI 20), .int (nI 0), .ref es, .ref xs, .ref ks, .int (nI 1), .int (nI 0), .int (nI 0), .int (nI 0)])), (es, .inl (cI, 16, .inl (initE ts fk fn))), (xs, .inl (cI, 16, .inl xt)), (ks, .inl (cB, 64, .inl kt))] t) A [.ref h, .int x] s 10 188) (F0 m 18 ls []) := by
      intro r
      induction r with
      | zero =>
        intro i hi H locs ls hP hD hS hl
        obtain rfl : i = 16 + 4 * ts := by omega
        refine lv_iload_n hx hb dX1_begin_18 rfl (lv_at hl 3 rfl) ?_
        refine lv_aload_n hx hb dX1_begin_19 rfl (lv_at hl 2 rfl) ?_
        refine va_alen (v := nI (16 + 4 * ts)) hx hb hK hP 3 0 rfl rfl rfl dX1_begin_20 ?_
        refine lv_icmp_ge (tgt := 39) hx hb dX1_begin_21 (by decide) (fun _ => ?_) (fun hc => absurd (nI_le (Nat.le_refl _) (by omega)) hc)
        exact behind H locs ls hP hD hS hl
      | succ r ih =>
        intro i hi H locs ls hP hD hS hl
        refine lv_iload_n hx hb dX1_begin_18 rfl (lv_at hl 3 rfl) ?_
        refine lv_aload_n hx hb dX1_begin_19 rfl (lv_at hl 2 rfl) ?_
        refine va_alen (v := nI (16 + 4 * ts)) hx hb hK hP 3 0 rfl rfl rfl dX1_begin_20 ?_
        refine lv_icmp_ge (tgt := 39) hx hb dX1_begin_21 (by decide) (fun hc => absurd hc (nI_ge (by omega) (by omega))) (fun _ => ?_)
        refine lv_aload_n hx hb dX1_begin_24 rfl (lv_at hl 2 rfl) ?_
        refine lv_iload_n hx hb dX1_begin_25 rfl (lv_at hl 3 rfl) ?_
        refine lv_aload_n hx hb dX1_begin_26 rfl (lv_at hl 0 rfl) ?_
        refine va_get (D := (dC, dI)) (ci := 0) (v := .ref k) (C := RX1) (T := TX1) (N := 8) hx hb hts in_X1 hown hK hP 0 rfl rfl 3 (by decide) (hts _ q306) (fun _ h9 => h9) rfl dX1_begin_27 ?_
        refine lv_iload_n hx hb dX1_begin_30 rfl (lv_at hl 3 rfl) ?_
        refine z_bald (k := i) (v := fk i) hx hb hK hP 1 0 rfl rfl (by omega) (by omega) rfl dX1_begin_31 ?_
        refine z_bast (k := i) (v := vp_nar .byte (fk i)) (g := cpN fk (i + 1)) hx hb hK hP hD hS 3 0 rfl rfl (by omega) (by omega) rfl rfl dX1_begin_32 (fun H locs hP hD hS => ?_)
        have hP : va_P (dC, dI) vwCl [(h, .inr (0, [.ref e, .int st, .int gv, .ref k, .ref n, .ref tx, .int (nI z), .ref o])), (k, .inl (cB, 32, .inl fk)), (n, .inl (cB, 32, .inl fn)), (kq, .inl (cB, 16 + 4 * ts, .inl (cpN fk (i + 1))))] H := hP
        have hD : va_D A [(h, .inr (0, [.ref e, .int st, .int gv, .ref k, .ref n, .ref tx, .int (nI z), .ref o])), (k, .inl (cB, 32, .inl fk)), (n, .inl (cB, 32, .inl fn)), (kq, .inl (cB, 16 + 4 * ts, .inl (cpN fk (i + 1))))] := hD
        refine lv_iinc (v := nI (i + 1)) (lv' := [(3, .int (nI (i + 1))), (0, .ref h), (1, .int x), (2, .ref kq)]) hx hb dX1_begin_33 hl (k := 3) rfl (z_inc _ 1) (by decide) rfl (fun ls hl => ?_)
        refine lv_goto (tgt := 18) hx hb dX1_begin_36 (by decide) ?_
        exact ih (i + 1) (by omega) H locs ls hP hD hS (lv_sub hl [1, 2, 3, 0] rfl)
    exact loop1 (16 + 4 * ts) 0 (by omega) H [] ls hP hD hS (lv_sub hl [2, 3, 1, 0] rfl)
  refine lv_iload_n hx hb dX1_begin_0 rfl (lv_at hl 1 rfl) ?_
  refine lv_iconst (v := 1) hx hb dX1_begin_1 (by decide) ?_
  refine lv_iand hx hb dX1_begin_2 ?_
  refine lv_if_ne (tgt := 11) hx hb dX1_begin_3 (by decide) (fun hc => ?_) (fun hc => ?_)
  · have h4 : ts = 4 := hw.elim (fun q => absurd q.1 hc) (fun q => q.2)
    refine lv_bipush (v := nI 32) hx hb dX1_begin_11 (by decide) ?_
    rw [show nI 32 = nI (16 + 4 * ts) by rw [h4]]
    exact tail
  · have h4 : ts = 0 := hw.elim (fun q => q.2) (fun q => absurd hc q.1)
    refine lv_bipush (v := nI 16) hx hb dX1_begin_6 (by decide) ?_
    refine lv_goto (tgt := 13) hx hb dX1_begin_8 (by decide) ?_
    rw [show nI 16 = nI (16 + 4 * ts) by rw [h4]]
    exact tail
theorem hd_X1_run : yX1_run.cls ≠ "java/lang/invoke/MethodHandle" ∧ yX1_run.cls ≠ "java/lang/invoke/VarHandle" ∧ (parseMethodDescriptor yX1_run.desc).map (fun d => d.parameters.length) = some 2 := by decide +kernel
theorem hv_X1_run : yX1_run.cls = RX1 ∧ yX1_run.cls ≠ "java/lang/invoke/MethodHandle" ∧ yX1_run.cls ≠ "java/lang/invoke/VarHandle" ∧ (parseMethodDescriptor yX1_run.desc).map (fun d => d.parameters.length) = some 2 := ⟨rfl, hd_X1_run⟩
set_option maxHeartbeats 4000000 in
set_option maxRecDepth 100000 in
theorem m_X1_run (l : Launch) (dC : Nat → ClassId) (dI : Nat → Nat → Nat) (cB cI : ClassId) (sz : Nat) (h e k n tx o es x ks : Nat) (z q a ct : Nat) (E ft xs kz : Nat → Int32) (hz : z ≤ 256) (hac : a + ct ≤ z) (hq : q + ct ≤ 1024) (hk0 : zKs (advs (q / 64) E) kz) : zMi l yX1_run cX1_run 6 (some .int) 5 200 1 256 [.ref h, .int (nI a), .int (nI ct)] zNo (dC, dI) cB cI sz [(h, .inr (0, [.ref e, .int (nI 1), .int (nI q), .ref k, .ref n, .ref tx, .int (nI z), .ref o])), (tx, .inl (cB, 256, .inl ft)), (e, .inr (1, [.int (nI 20), .int (nI (q % 64)), .ref es, .ref x, .ref ks, .int (nI 1), .int (nI q), .int (nI 0), .int (nI 0)])), (es, .inl (cI, 16, .inl (advs (q / 64) E))), (x, .inl (cI, 16, .inl xs)), (ks, .inl (cB, 64, .inl kz))] (nI ct) (fun A t => ∃ (o : Nat) (xt kt fo : Nat → Int32), zKs (advs ((q + ct) / 64) E) kt ∧ (∀ j, j < ct → fo j = bt8 (strm E (q + j) ^^^ ft (a + j))) ∧ zB (dC, dI) A [(h, .inr (0, [.ref e, .int (nI 1), .int (nI (q + ct)), .ref k, .ref n, .ref tx, .int (nI z), .ref o])), (tx, .inl (cB, 256, .inl ft)), (e, .inr (1, [.int (nI 20), .int (nI ((q + ct) % 64)), .ref es, .ref x, .ref ks, .int (nI 1), .int (nI (q + ct)), .int (nI 0), .int (nI 0)])), (es, .inl (cI, 16, .inl (advs ((q + ct) / 64) E))), (x, .inl (cI, 16, .inl xt)), (ks, .inl (cB, 64, .inl kt)), (o, .inl (cB, ct, .inl fo))] t) := by
  refine z_ofi (C := RX1) rfl (by decide +kernel) (Nat.le_of_ble_eq_true rfl) ?_
  intro pr ev s m below meth c A hx hb hr hlocks hml hown hname hts hK hP hD hA hE hS ls hl
  have hl : lv_has ls 6 [(0, .ref h), (1, .int (nI a)), (2, .int (nI ct))] := hl
  refine lv_aload_n hx hb dX1_run_0 rfl (lv_at hl 0 rfl) ?_
  refine va_get (D := (dC, dI)) (ci := 0) (v := .int (nI 1)) (C := RX1) (T := TX1) (N := 8) hx hb hts in_X1 hown hK hP 0 rfl rfl 1 (by decide) (hts _ q304) (fun _ h9 => h9) rfl dX1_run_1 ?_
  refine lv_if_ne (tgt := 9) hx hb dX1_run_4 (by decide) (fun _ => ?_) (fun hc => absurd hc (by decide))
  refine lv_aload_n hx hb dX1_run_9 rfl (lv_at hl 0 rfl) ?_
  refine lv_iload_n hx hb dX1_run_10 rfl (lv_at hl 1 rfl) ?_
  refine z_readV (As := [.int (nI a)]) (rest := []) ⟨hx, hb, hml, hown, hts⟩ (m_X1_from l dC dI cB cI s.heap.size h e k n tx o (nI 1) (nI q) z hz (nI a)) (cwV 1 hts (lw_V q28 q30 qs0 q7 q32) rfl rfl rfl hv_X1_from ⟨Nat.le_of_ble_eq_true rfl, Nat.le_of_ble_eq_true rfl⟩) ⟨zNo_good, trivial⟩ (va_recv hK hP (ci := 0) (q0 := 0) rfl rfl) rfl hl.1 rfl (Nat.le_of_ble_eq_true rfl) dX1_run_11 ⟨Nat.le_of_ble_eq_true rfl, Nat.le_of_ble_eq_true rfl⟩ hS hK hP hD hA [0] rfl (by decide) ?_
  refine z_top (y := nI a) (by rw [m31_nI (by omega), Nat.mod_eq_of_lt (by omega)]) ?_
  refine lv_istore_n (lv' := [(3, .int (nI a)), (0, .ref h), (1, .int (nI a)), (2, .int (nI ct))]) hx hb dX1_run_14 rfl hl (by decide) rfl (fun ls hl => ?_)
  refine lv_aload_n hx hb dX1_run_15 rfl (lv_at hl 1 rfl) ?_
  refine lv_iload_n hx hb dX1_run_16 rfl (lv_at hl 0 rfl) ?_
  refine lv_iload_n hx hb dX1_run_17 rfl (lv_at hl 3 rfl) ?_
  refine z_readV (As := [.int (nI a), .int (nI ct)]) (rest := []) ⟨hx, hb, hml, hown, hts⟩ (m_X1_count l dC dI cB cI s.heap.size h e k n tx o (nI 1) (nI q) z hz a (nI ct) (by omega)) (cwV 2 hts (lw_V q34 q36 qs1 q7 q37) rfl rfl rfl hv_X1_count ⟨Nat.le_of_ble_eq_true rfl, Nat.le_of_ble_eq_true rfl⟩) ⟨zNo_good, trivial⟩ (va_recv hK hP (ci := 0) (q0 := 0) rfl rfl) rfl hl.1 rfl (Nat.le_of_ble_eq_true rfl) dX1_run_18 ⟨Nat.le_of_ble_eq_true rfl, Nat.le_of_ble_eq_true rfl⟩ hS hK hP hD hA [0] rfl (by decide) ?_
  refine z_top (y := nI ct) (by rw [m31_nI (by omega), Nat.mod_eq_of_lt (by omega)]) ?_
  refine lv_istore (lv' := [(4, .int (nI ct)), (3, .int (nI a)), (0, .ref h), (1, .int (nI a)), (2, .int (nI ct))]) hx hb dX1_run_21 hl (by decide) rfl (fun ls hl => ?_)
  refine lv_aload_n hx hb dX1_run_23 rfl (lv_at hl 2 rfl) ?_
  refine va_get (D := (dC, dI)) (ci := 0) (v := .int (nI q)) (C := RX1) (T := TX1) (N := 8) hx hb hts in_X1 hown hK hP 0 rfl rfl 2 (by decide) (hts _ q305) (fun _ h9 => h9) rfl dX1_run_24 ?_
  refine lv_iload hx hb dX1_run_27 (lv_at hl 0 rfl) ?_
  refine lv_iadd hx hb dX1_run_29 ?_
  refine z_top (y := nI (q + ct)) (nI_add q ct) ?_
  refine lv_sipush (v := nI 1024) hx hb dX1_run_30 (by decide) ?_
  refine lv_icmp_le (tgt := 39) hx hb dX1_run_33 (by decide) (fun _ => ?_) (fun hc => absurd (nI_le hq (by decide)) hc)
  refine lv_aload_n hx hb dX1_run_39 rfl (lv_at hl 2 rfl) ?_
  refine lv_dup hx hb dX1_run_40 rfl ?_
  refine va_get (D := (dC, dI)) (ci := 0) (v := .int (nI q)) (C := RX1) (T := TX1) (N := 8) hx hb hts in_X1 hown hK hP 0 rfl rfl 2 (by decide) (hts _ q305) (fun _ h9 => h9) rfl dX1_run_41 ?_
  refine lv_iload hx hb dX1_run_44 (lv_at hl 0 rfl) ?_
  refine lv_iadd hx hb dX1_run_46 ?_
  refine z_top (y := nI (q + ct)) (nI_add q ct) ?_
  refine va_put (D := (dC, dI)) (ci := 0) (v := .int (nI (q + ct))) (ty := .int) (C := RX1) (T := TX1) (N := 8) hx hb hts in_X1 tyX1 tyX1_ok nmX1 hown hK hP hD hS 0 rfl rfl 2 (by decide) (hts _ q305) (fun _ h9 => h9) rfl (by decide +kernel) rfl rfl (Nat.le_of_ble_eq_true rfl) dX1_run_47 (fun H locs hP hD hS => ?_)
  have hP : va_P (dC, dI) vwCl [(h, .inr (0, [.ref e, .int (nI 1), .int (nI (q + ct)), .ref k, .ref n, .ref tx, .int (nI z), .ref o])), (tx, .inl (cB, 256, .inl ft)), (e, .inr (1, [.int (nI 20), .int (nI (q % 64)), .ref es, .ref x, .ref ks, .int (nI 1), .int (nI q), .int (nI 0), .int (nI 0)])), (es, .inl (cI, 16, .inl (advs (q / 64) E))), (x, .inl (cI, 16, .inl xs)), (ks, .inl (cB, 64, .inl kz))] H := hP
  have hD : va_D A [(h, .inr (0, [.ref e, .int (nI 1), .int (nI (q + ct)), .ref k, .ref n, .ref tx, .int (nI z), .ref o])), (tx, .inl (cB, 256, .inl ft)), (e, .inr (1, [.int (nI 20), .int (nI (q % 64)), .ref es, .ref x, .ref ks, .int (nI 1), .int (nI q), .int (nI 0), .int (nI 0)])), (es, .inl (cI, 16, .inl (advs (q / 64) E))), (x, .inl (cI, 16, .inl xs)), (ks, .inl (cB, 64, .inl kz))] := hD
  refine lv_iload hx hb dX1_run_50 (lv_at hl 0 rfl) ?_
  refine z_newb (N := ct) hx hb (hts _ q113) hK hP hD hS hA (by omega) (Nat.le_of_ble_eq_true rfl) (by show 0 + ct ≤ 256; omega) dX1_run_52 (fun ob H hP hD hS => ?_)
  have hP : va_P (dC, dI) vwCl [(h, .inr (0, [.ref e, .int (nI 1), .int (nI (q + ct)), .ref k, .ref n, .ref tx, .int (nI z), .ref o])), (tx, .inl (cB, 256, .inl ft)), (e, .inr (1, [.int (nI 20), .int (nI (q % 64)), .ref es, .ref x, .ref ks, .int (nI 1), .int (nI q), .int (nI 0), .int (nI 0)])), (es, .inl (cI, 16, .inl (advs (q / 64) E))), (x, .inl (cI, 16, .inl xs)), (ks, .inl (cB, 64, .inl kz)), (ob, .inl (cB, ct, .inl (fun _ => 0)))] H := hP
  have hD : va_D A [(h, .inr (0, [.ref e, .int (nI 1), .int (nI (q + ct)), .ref k, .ref n, .ref tx, .int (nI z), .ref o])), (tx, .inl (cB, 256, .inl ft)), (e, .inr (1, [.int (nI 20), .int (nI (q % 64)), .ref es, .ref x, .ref ks, .int (nI 1), .int (nI q), .int (nI 0), .int (nI 0)])), (es, .inl (cI, 16, .inl (advs (q / 64) E))), (x, .inl (cI, 16, .inl xs)), (ks, .inl (cB, 64, .inl kz)), (ob, .inl (cB, ct, .inl (fun _ => 0)))] := hD
  refine lv_astore (lv' := [(5, .ref ob), (4, .int (nI ct)), (3, .int (nI a)), (0, .ref h), (1, .int (nI a)), (2, .int (nI ct))]) hx hb dX1_run_54 hl (by decide) rfl (fun ls hl => ?_)
  refine lv_aload_n hx hb dX1_run_56 rfl (lv_at hl 3 rfl) ?_
  refine va_get (D := (dC, dI)) (ci := 0) (v := .ref e) (C := RX1) (T := TX1) (N := 8) hx hb hts in_X1 hown hK hP 0 rfl rfl 0 (by decide) (hts _ q303) (fun _ h9 => h9) rfl dX1_run_57 ?_
  refine lv_aload_n hx hb dX1_run_60 rfl (lv_at hl 3 rfl) ?_
  refine va_get (D := (dC, dI)) (ci := 0) (v := .ref tx) (C := RX1) (T := TX1) (N := 8) hx hb hts in_X1 hown hK hP 0 rfl rfl 5 (by decide) (hts _ q308) (fun _ h9 => h9) rfl dX1_run_61 ?_
  refine lv_iload_n hx hb dX1_run_64 rfl (lv_at hl 2 rfl) ?_
  refine lv_iload hx hb dX1_run_65 (lv_at hl 1 rfl) ?_
  refine lv_aload hx hb dX1_run_67 (lv_at hl 0 rfl) ?_
  refine lv_iconst (v := nI 0) hx hb dX1_run_69 (by decide) ?_
  refine z_calliV (wr := [(h, .inr (0, [.ref e, .int (nI 1), .int (nI (q + ct)), .ref k, .ref n, .ref tx, .int (nI z), .ref o]))]) (As := [.ref tx, .int (nI a), .int (nI ct), .ref ob, .int (nI 0)]) (rest := []) ⟨hx, hb, hml, hown, hts⟩ (m_X2_processBytes l dC dI cB cI H.size e es x ks tx ob q 256 a ct E xs kz ft (fun _ => 0) (by omega) (by omega) (by decide) hk0) (cwV 5 hts (lw_V q38 q39 q40 q8 q41) rfl rfl rfl hv_X2_processBytes ⟨Nat.le_of_ble_eq_true rfl, Nat.le_of_ble_eq_true rfl⟩) ⟨zNo_good, trivial⟩ (va_recv hK hP (ci := 1) (q0 := 2) rfl rfl) rfl hl.1 rfl (Nat.le_of_ble_eq_true rfl) dX1_run_70 ⟨Nat.le_of_ble_eq_true rfl, (by show 0 + ct + 0 ≤ 256; omega)⟩ hS hK hP hD hA [2, 3, 4, 5, 1, 6] [0] rfl (by decide) rfl (by decide) (by decide) (fun A1 t H locs hB J hS => ?_)
  obtain ⟨xt, kt, fo, hk, hfo, hB⟩ := hB
  obtain ⟨hP, hD⟩ := J _ hB
  clear hB J
  have hP : va_P (dC, dI) vwCl [(h, .inr (0, [.ref e, .int (nI 1), .int (nI (q + ct)), .ref k, .ref n, .ref tx, .int (nI z), .ref o])), (e, .inr (1, [.int (nI 20), .int (nI ((q + ct) % 64)), .ref es, .ref x, .ref ks, .int (nI 1), .int (nI (q + ct)), .int (nI 0), .int (nI 0)])), (es, .inl (cI, 16, .inl (advs ((q + ct) / 64) E))), (x, .inl (cI, 16, .inl xt)), (ks, .inl (cB, 64, .inl kt)), (tx, .inl (cB, 256, .inl ft)), (ob, .inl (cB, ct, .inl fo))] H := hP
  have hD : va_D A [(h, .inr (0, [.ref e, .int (nI 1), .int (nI (q + ct)), .ref k, .ref n, .ref tx, .int (nI z), .ref o])), (e, .inr (1, [.int (nI 20), .int (nI ((q + ct) % 64)), .ref es, .ref x, .ref ks, .int (nI 1), .int (nI (q + ct)), .int (nI 0), .int (nI 0)])), (es, .inl (cI, 16, .inl (advs ((q + ct) / 64) E))), (x, .inl (cI, 16, .inl xt)), (ks, .inl (cB, 64, .inl kt)), (tx, .inl (cB, 256, .inl ft)), (ob, .inl (cB, ct, .inl fo))] := hD
  refine lv_pop hx hb dX1_run_73 rfl ?_
  refine lv_aload_n hx hb dX1_run_74 rfl (lv_at hl 3 rfl) ?_
  refine lv_aload hx hb dX1_run_75 (lv_at hl 0 rfl) ?_
  refine va_put (D := (dC, dI)) (ci := 0) (v := .ref ob) (ty := .array .byte) (C := RX1) (T := TX1) (N := 8) hx hb hts in_X1 tyX1 tyX1_ok nmX1 hown hK hP hD hS 0 rfl rfl 7 (by decide) (hts _ q310) (fun _ h9 => h9) rfl (by decide +kernel) rfl rfl (Nat.le_of_ble_eq_true rfl) dX1_run_77 (fun H locs hP hD hS => ?_)
  have hP : va_P (dC, dI) vwCl [(h, .inr (0, [.ref e, .int (nI 1), .int (nI (q + ct)), .ref k, .ref n, .ref tx, .int (nI z), .ref ob])), (e, .inr (1, [.int (nI 20), .int (nI ((q + ct) % 64)), .ref es, .ref x, .ref ks, .int (nI 1), .int (nI (q + ct)), .int (nI 0), .int (nI 0)])), (es, .inl (cI, 16, .inl (advs ((q + ct) / 64) E))), (x, .inl (cI, 16, .inl xt)), (ks, .inl (cB, 64, .inl kt)), (tx, .inl (cB, 256, .inl ft)), (ob, .inl (cB, ct, .inl fo))] H := hP
  have hD : va_D A [(h, .inr (0, [.ref e, .int (nI 1), .int (nI (q + ct)), .ref k, .ref n, .ref tx, .int (nI z), .ref ob])), (e, .inr (1, [.int (nI 20), .int (nI ((q + ct) % 64)), .ref es, .ref x, .ref ks, .int (nI 1), .int (nI (q + ct)), .int (nI 0), .int (nI 0)])), (es, .inl (cI, 16, .inl (advs ((q + ct) / 64) E))), (x, .inl (cI, 16, .inl xt)), (ks, .inl (cB, 64, .inl kt)), (tx, .inl (cB, 256, .inl ft)), (ob, .inl (cB, ct, .inl fo))] := hD
  refine lv_iload hx hb dX1_run_80 (lv_at hl 1 rfl) ?_
  exact z_iret hx hb hr hlocks rfl rfl hS (Nat.le_of_ble_eq_true rfl) (by omega) dX1_run_82 (fun t ht => ⟨ob, xt, kt, fo, hk, hfo, zB_of hP hD [0, 5, 1, 2, 3, 4, 6] rfl (by decide) ht⟩)
theorem hd_X1_one : yX1_one.cls ≠ "java/lang/invoke/MethodHandle" ∧ yX1_one.cls ≠ "java/lang/invoke/VarHandle" ∧ (parseMethodDescriptor yX1_one.desc).map (fun d => d.parameters.length) = some 1 := by decide +kernel
theorem hv_X1_one : yX1_one.cls = RX1 ∧ yX1_one.cls ≠ "java/lang/invoke/MethodHandle" ∧ yX1_one.cls ≠ "java/lang/invoke/VarHandle" ∧ (parseMethodDescriptor yX1_one.desc).map (fun d => d.parameters.length) = some 1 := ⟨rfl, hd_X1_one⟩
set_option maxHeartbeats 4000000 in
set_option maxRecDepth 100000 in
theorem m_X1_one (l : Launch) (dC : Nat → ClassId) (dI : Nat → Nat → Nat) (cB cI : ClassId) (sz : Nat) (h e k n tx o es x ks : Nat) (z q : Nat) (b : Int32) (E xs kz : Nat → Int32) (hq : q < 1024) (hk0 : zKs (advs (q / 64) E) kz) : zMi l yX1_one cX1_one 2 (some .int) 5 200 0 0 [.ref h, .int b] zNo (dC, dI) cB cI sz [(h, .inr (0, [.ref e, .int (nI 1), .int (nI q), .ref k, .ref n, .ref tx, .int (nI z), .ref o])), (e, .inr (1, [.int (nI 20), .int (nI (q % 64)), .ref es, .ref x, .ref ks, .int (nI 1), .int (nI q), .int (nI 0), .int (nI 0)])), (es, .inl (cI, 16, .inl (advs (q / 64) E))), (x, .inl (cI, 16, .inl xs)), (ks, .inl (cB, 64, .inl kz))] (bt8 (strm E q ^^^ bt8 b) &&& 255) (fun A t => ∃ (xt kt : Nat → Int32), zKs (advs ((q + 1) / 64) E) kt ∧ zB (dC, dI) A [(h, .inr (0, [.ref e, .int (nI 1), .int (nI (q + 1)), .ref k, .ref n, .ref tx, .int (nI z), .ref o])), (e, .inr (1, [.int (nI 20), .int (nI ((q + 1) % 64)), .ref es, .ref x, .ref ks, .int (nI 1), .int (nI (q + 1)), .int (nI 0), .int (nI 0)])), (es, .inl (cI, 16, .inl (advs ((q + 1) / 64) E))), (x, .inl (cI, 16, .inl xt)), (ks, .inl (cB, 64, .inl kt))] t) := by
  refine z_ofi (C := RX1) rfl (by decide +kernel) (Nat.le_of_ble_eq_true rfl) ?_
  intro pr ev s m below meth c A hx hb hr hlocks hml hown hname hts hK hP hD hA hE hS ls hl
  have hl : lv_has ls 2 [(0, .ref h), (1, .int b)] := hl
  refine lv_aload_n hx hb dX1_one_0 rfl (lv_at hl 0 rfl) ?_
  refine va_get (D := (dC, dI)) (ci := 0) (v := .int (nI 1)) (C := RX1) (T := TX1) (N := 8) hx hb hts in_X1 hown hK hP 0 rfl rfl 1 (by decide) (hts _ q304) (fun _ h9 => h9) rfl dX1_one_1 ?_
  refine lv_if_ne (tgt := 9) hx hb dX1_one_4 (by decide) (fun _ => ?_) (fun hc => absurd hc (by decide))
  refine lv_aload_n hx hb dX1_one_9 rfl (lv_at hl 0 rfl) ?_
  refine va_get (D := (dC, dI)) (ci := 0) (v := .int (nI q)) (C := RX1) (T := TX1) (N := 8) hx hb hts in_X1 hown hK hP 0 rfl rfl 2 (by decide) (hts _ q305) (fun _ h9 => h9) rfl dX1_one_10 ?_
  refine lv_sipush (v := nI 1024) hx hb dX1_one_13 (by decide) ?_
  refine lv_icmp_lt (tgt := 22) hx hb dX1_one_16 (by decide) (fun _ => ?_) (fun hc => absurd (nI_lt hq (by decide)) hc)
  refine lv_aload_n hx hb dX1_one_22 rfl (lv_at hl 0 rfl) ?_
  refine lv_dup hx hb dX1_one_23 rfl ?_
  refine va_get (D := (dC, dI)) (ci := 0) (v := .int (nI q)) (C := RX1) (T := TX1) (N := 8) hx hb hts in_X1 hown hK hP 0 rfl rfl 2 (by decide) (hts _ q305) (fun _ h9 => h9) rfl dX1_one_24 ?_
  refine lv_iconst (v := nI 1) hx hb dX1_one_27 (by decide) ?_
  refine lv_iadd hx hb dX1_one_28 ?_
  refine z_top (y := nI (q + 1)) (nI_add q 1) ?_
  refine va_put (D := (dC, dI)) (ci := 0) (v := .int (nI (q + 1))) (ty := .int) (C := RX1) (T := TX1) (N := 8) hx hb hts in_X1 tyX1 tyX1_ok nmX1 hown hK hP hD hS 0 rfl rfl 2 (by decide) (hts _ q305) (fun _ h9 => h9) rfl (by decide +kernel) rfl rfl (Nat.le_of_ble_eq_true rfl) dX1_one_29 (fun H locs hP hD hS => ?_)
  have hP : va_P (dC, dI) vwCl [(h, .inr (0, [.ref e, .int (nI 1), .int (nI (q + 1)), .ref k, .ref n, .ref tx, .int (nI z), .ref o])), (e, .inr (1, [.int (nI 20), .int (nI (q % 64)), .ref es, .ref x, .ref ks, .int (nI 1), .int (nI q), .int (nI 0), .int (nI 0)])), (es, .inl (cI, 16, .inl (advs (q / 64) E))), (x, .inl (cI, 16, .inl xs)), (ks, .inl (cB, 64, .inl kz))] H := hP
  have hD : va_D A [(h, .inr (0, [.ref e, .int (nI 1), .int (nI (q + 1)), .ref k, .ref n, .ref tx, .int (nI z), .ref o])), (e, .inr (1, [.int (nI 20), .int (nI (q % 64)), .ref es, .ref x, .ref ks, .int (nI 1), .int (nI q), .int (nI 0), .int (nI 0)])), (es, .inl (cI, 16, .inl (advs (q / 64) E))), (x, .inl (cI, 16, .inl xs)), (ks, .inl (cB, 64, .inl kz))] := hD
  refine lv_aload_n hx hb dX1_one_32 rfl (lv_at hl 0 rfl) ?_
  refine va_get (D := (dC, dI)) (ci := 0) (v := .ref e) (C := RX1) (T := TX1) (N := 8) hx hb hts in_X1 hown hK hP 0 rfl rfl 0 (by decide) (hts _ q303) (fun _ h9 => h9) rfl dX1_one_33 ?_
  refine lv_iload_n hx hb dX1_one_36 rfl (lv_at hl 1 rfl) ?_
  refine lv_i2b (v := bt8 b) hx hb dX1_one_37 rfl ?_
  refine z_calliV (wr := [(h, .inr (0, [.ref e, .int (nI 1), .int (nI (q + 1)), .ref k, .ref n, .ref tx, .int (nI z), .ref o]))]) (As := [.int (bt8 b)]) (rest := []) ⟨hx, hb, hml, hown, hts⟩ (m_X2_returnByte l dC dI cB cI H.size e es x ks (nI 1) q E xs kz (bt8 b) (by omega) hk0) (cwV 1 hts (lw_V q225 q226 q227 q8 q228) rfl rfl rfl hv_X2_returnByte ⟨Nat.le_of_ble_eq_true rfl, Nat.le_of_ble_eq_true rfl⟩) ⟨zNo_good, trivial⟩ (va_recv hK hP (ci := 1) (q0 := 1) rfl rfl) rfl hl.1 rfl (Nat.le_of_ble_eq_true rfl) dX1_one_38 ⟨Nat.le_of_ble_eq_true rfl, Nat.le_of_ble_eq_true rfl⟩ hS hK hP hD hA [1, 2, 3, 4] [0] rfl (by decide) rfl (by decide) (by decide) (fun A1 t H locs hB J hS => ?_)
  obtain ⟨xt, kt, hk, hB⟩ := hB
  obtain ⟨hP, hD⟩ := J _ hB
  clear hB J
  have hP : va_P (dC, dI) vwCl [(h, .inr (0, [.ref e, .int (nI 1), .int (nI (q + 1)), .ref k, .ref n, .ref tx, .int (nI z), .ref o])), (e, .inr (1, [.int (nI 20), .int (nI ((q + 1) % 64)), .ref es, .ref x, .ref ks, .int (nI 1), .int (nI (q + 1)), .int (nI 0), .int (nI 0)])), (es, .inl (cI, 16, .inl (advs ((q + 1) / 64) E))), (x, .inl (cI, 16, .inl xt)), (ks, .inl (cB, 64, .inl kt))] H := hP
  have hD : va_D A [(h, .inr (0, [.ref e, .int (nI 1), .int (nI (q + 1)), .ref k, .ref n, .ref tx, .int (nI z), .ref o])), (e, .inr (1, [.int (nI 20), .int (nI ((q + 1) % 64)), .ref es, .ref x, .ref ks, .int (nI 1), .int (nI (q + 1)), .int (nI 0), .int (nI 0)])), (es, .inl (cI, 16, .inl (advs ((q + 1) / 64) E))), (x, .inl (cI, 16, .inl xt)), (ks, .inl (cB, 64, .inl kt))] := hD
  refine lv_sipush (v := 255) hx hb dX1_one_41 (by decide) ?_
  refine lv_iand hx hb dX1_one_44 ?_
  exact z_iret hx hb hr hlocks rfl rfl hS (Nat.le_of_ble_eq_true rfl) (Nat.le_of_ble_eq_true rfl) dX1_one_45 (fun t ht => ⟨xt, kt, hk, zB_of hP hD [0, 1, 2, 3, 4] rfl (by decide) ht⟩)
theorem hd_X1_again : yX1_again.cls ≠ "java/lang/invoke/MethodHandle" ∧ yX1_again.cls ≠ "java/lang/invoke/VarHandle" ∧ (parseMethodDescriptor yX1_again.desc).map (fun d => d.parameters.length) = some 0 := by decide +kernel
theorem hv_X1_again : yX1_again.cls = RX1 ∧ yX1_again.cls ≠ "java/lang/invoke/MethodHandle" ∧ yX1_again.cls ≠ "java/lang/invoke/VarHandle" ∧ (parseMethodDescriptor yX1_again.desc).map (fun d => d.parameters.length) = some 0 := ⟨rfl, hd_X1_again⟩
set_option maxHeartbeats 4000000 in
set_option maxRecDepth 100000 in
theorem m_X1_again (l : Launch) (dC : Nat → ClassId) (dI : Nat → Nat → Nat) (cB cI : ClassId) (sz : Nat) (h e k n tx o es x ks : Nat) (z : Nat) (gv ix ini c0 c1 c2 : Int32) (E xs kz : Nat → Int32) : zMv l yX1_again cX1_again 1 none 5 200 0 0 [.ref h] zNo (dC, dI) cB cI sz [(h, .inr (0, [.ref e, .int (nI 1), .int gv, .ref k, .ref n, .ref tx, .int (nI z), .ref o])), (e, .inr (1, [.int (nI 20), .int ix, .ref es, .ref x, .ref ks, .int ini, .int c0, .int c1, .int c2])), (es, .inl (cI, 16, .inl E)), (x, .inl (cI, 16, .inl xs)), (ks, .inl (cB, 64, .inl kz))] (fun A t => ∃ (xt kt : Nat → Int32), zKs (rst E) kt ∧ zB (dC, dI) A [(h, .inr (0, [.ref e, .int (nI 1), .int (nI 0), .ref k, .ref n, .ref tx, .int (nI z), .ref o])), (e, .inr (1, [.int (nI 20), .int (nI 0), .ref es, .ref x, .ref ks, .int ini, .int (nI 0), .int (nI 0), .int (nI 0)])), (es, .inl (cI, 16, .inl (rst E))), (x, .inl (cI, 16, .inl xt)), (ks, .inl (cB, 64, .inl kt))] t) := by
  refine z_ofv (C := RX1) rfl (by decide +kernel) (Nat.le_of_ble_eq_true rfl) ?_
  intro pr ev s m below meth c A hx hb hr hlocks hml hown hname hts hK hP hD hA hE hS ls hl
  have hl : lv_has ls 1 [(0, .ref h)] := hl
  refine lv_aload_n hx hb dX1_again_0 rfl (lv_at hl 0 rfl) ?_
  refine va_get (D := (dC, dI)) (ci := 0) (v := .int (nI 1)) (C := RX1) (T := TX1) (N := 8) hx hb hts in_X1 hown hK hP 0 rfl rfl 1 (by decide) (hts _ q304) (fun _ h9 => h9) rfl dX1_again_1 ?_
  refine lv_if_eq (tgt := 19) hx hb dX1_again_4 (by decide) (fun hc => absurd hc (by decide)) (fun _ => ?_)
  refine lv_aload_n hx hb dX1_again_7 rfl (lv_at hl 0 rfl) ?_
  refine va_get (D := (dC, dI)) (ci := 0) (v := .ref e) (C := RX1) (T := TX1) (N := 8) hx hb hts in_X1 hown hK hP 0 rfl rfl 0 (by decide) (hts _ q303) (fun _ h9 => h9) rfl dX1_again_8 ?_
  refine z_callvV (wr := [(h, .inr (0, [.ref e, .int (nI 1), .int gv, .ref k, .ref n, .ref tx, .int (nI z), .ref o]))]) (As := []) (rest := []) ⟨hx, hb, hml, hown, hts⟩ (m_X2_reset l dC dI cB cI s.heap.size e es x ks ix ini c0 c1 c2 E xs kz) (cwV 0 hts (lw_V q238 q239 q240 q8 q241) rfl rfl rfl hv_X2_reset ⟨Nat.le_of_ble_eq_true rfl, Nat.le_of_ble_eq_true rfl⟩) ⟨zNo_good, trivial⟩ (va_recv hK hP (ci := 1) (q0 := 1) rfl rfl) rfl hl.1 rfl (Nat.le_of_ble_eq_true rfl) dX1_again_11 ⟨Nat.le_of_ble_eq_true rfl, Nat.le_of_ble_eq_true rfl⟩ hS hK hP hD hA [1, 2, 3, 4] [0] rfl (by decide) rfl (by decide) (by decide) (fun A1 t H locs hB J hS => ?_)
  obtain ⟨xt, kt, hk, hB⟩ := hB
  obtain ⟨hP, hD⟩ := J _ hB
  clear hB J
  have hP : va_P (dC, dI) vwCl [(h, .inr (0, [.ref e, .int (nI 1), .int gv, .ref k, .ref n, .ref tx, .int (nI z), .ref o])), (e, .inr (1, [.int (nI 20), .int (nI 0), .ref es, .ref x, .ref ks, .int ini, .int (nI 0), .int (nI 0), .int (nI 0)])), (es, .inl (cI, 16, .inl (rst E))), (x, .inl (cI, 16, .inl xt)), (ks, .inl (cB, 64, .inl kt))] H := hP
  have hD : va_D A [(h, .inr (0, [.ref e, .int (nI 1), .int gv, .ref k, .ref n, .ref tx, .int (nI z), .ref o])), (e, .inr (1, [.int (nI 20), .int (nI 0), .ref es, .ref x, .ref ks, .int ini, .int (nI 0), .int (nI 0), .int (nI 0)])), (es, .inl (cI, 16, .inl (rst E))), (x, .inl (cI, 16, .inl xt)), (ks, .inl (cB, 64, .inl kt))] := hD
  refine lv_aload_n hx hb dX1_again_14 rfl (lv_at hl 0 rfl) ?_
  refine lv_iconst (v := nI 0) hx hb dX1_again_15 (by decide) ?_
  refine va_put (D := (dC, dI)) (ci := 0) (v := .int (nI 0)) (ty := .int) (C := RX1) (T := TX1) (N := 8) hx hb hts in_X1 tyX1 tyX1_ok nmX1 hown hK hP hD hS 0 rfl rfl 2 (by decide) (hts _ q305) (fun _ h9 => h9) rfl (by decide +kernel) rfl rfl (Nat.le_of_ble_eq_true rfl) dX1_again_16 (fun H locs hP hD hS => ?_)
  have hP : va_P (dC, dI) vwCl [(h, .inr (0, [.ref e, .int (nI 1), .int (nI 0), .ref k, .ref n, .ref tx, .int (nI z), .ref o])), (e, .inr (1, [.int (nI 20), .int (nI 0), .ref es, .ref x, .ref ks, .int ini, .int (nI 0), .int (nI 0), .int (nI 0)])), (es, .inl (cI, 16, .inl (rst E))), (x, .inl (cI, 16, .inl xt)), (ks, .inl (cB, 64, .inl kt))] H := hP
  have hD : va_D A [(h, .inr (0, [.ref e, .int (nI 1), .int (nI 0), .ref k, .ref n, .ref tx, .int (nI z), .ref o])), (e, .inr (1, [.int (nI 20), .int (nI 0), .ref es, .ref x, .ref ks, .int ini, .int (nI 0), .int (nI 0), .int (nI 0)])), (es, .inl (cI, 16, .inl (rst E))), (x, .inl (cI, 16, .inl xt)), (ks, .inl (cB, 64, .inl kt))] := hD
  exact z_vret hx hb hr hlocks hS (Nat.le_of_ble_eq_true rfl) (Nat.le_of_ble_eq_true rfl) dX1_again_19 (fun t ht => ⟨xt, kt, hk, zB_of hP hD [0, 1, 2, 3, 4] rfl (by decide) ht⟩)
theorem hd_X1_out : yX1_out.cls ≠ "java/lang/invoke/MethodHandle" ∧ yX1_out.cls ≠ "java/lang/invoke/VarHandle" ∧ (parseMethodDescriptor yX1_out.desc).map (fun d => d.parameters.length) = some 1 := by decide +kernel
theorem hv_X1_out : yX1_out.cls = RX1 ∧ yX1_out.cls ≠ "java/lang/invoke/MethodHandle" ∧ yX1_out.cls ≠ "java/lang/invoke/VarHandle" ∧ (parseMethodDescriptor yX1_out.desc).map (fun d => d.parameters.length) = some 1 := ⟨rfl, hd_X1_out⟩
set_option maxHeartbeats 4000000 in
set_option maxRecDepth 100000 in
theorem m_X1_out (l : Launch) (dC : Nat → ClassId) (dI : Nat → Nat → Nat) (cB cI : ClassId) (sz : Nat) (h e k n tx o : Nat) (st gv sz0 : Int32) (ct i : Nat) (fo : Nat → Int32) (hi : i < ct) (hc0 : ct ≤ 256) : zRi l yX1_out cX1_out 2 (some .int) 0 0 [.ref h, .int (nI i)] zNo (dC, dI) cB cI sz [(h, .inr (0, [.ref e, .int st, .int gv, .ref k, .ref n, .ref tx, .int sz0, .ref o])), (o, .inl (cB, ct, .inl fo))] (fo i &&& 255) := by
  refine z_ofR (C := RX1) rfl (by decide +kernel) (Nat.le_of_ble_eq_true rfl) ?_
  intro pr ev s m below meth c A hx hb hr hlocks hml hown hname hts hK hP hD hA hE hS ls hl
  have hl : lv_has ls 2 [(0, .ref h), (1, .int (nI i))] := hl
  refine lv_aload_n hx hb dX1_out_0 rfl (lv_at hl 0 rfl) ?_
  refine va_get (D := (dC, dI)) (ci := 0) (v := .ref o) (C := RX1) (T := TX1) (N := 8) hx hb hts in_X1 hown hK hP 0 rfl rfl 7 (by decide) (hts _ q310) (fun _ h9 => h9) rfl dX1_out_1 ?_
  refine va_alen (v := nI ct) hx hb hK hP 1 0 rfl rfl rfl dX1_out_4 ?_
  refine lv_if_ne (tgt := 12) hx hb dX1_out_5 (by decide) (fun _ => ?_) (fun hc => absurd hc (nI_ne0 (by omega) (by omega)))
  refine lv_aload_n hx hb dX1_out_12 rfl (lv_at hl 0 rfl) ?_
  refine va_get (D := (dC, dI)) (ci := 0) (v := .ref o) (C := RX1) (T := TX1) (N := 8) hx hb hts in_X1 hown hK hP 0 rfl rfl 7 (by decide) (hts _ q310) (fun _ h9 => h9) rfl dX1_out_13 ?_
  refine lv_iload_n hx hb dX1_out_16 rfl (lv_at hl 1 rfl) ?_
  refine lv_ldc (v := 2147483647) hx hb hown (hts _ q33) dX1_out_17 ?_
  refine lv_iand hx hb dX1_out_19 ?_
  refine z_top (y := nI i) ((m31_and (nI i)).trans (congrArg nI (m31_nI (by omega)))) ?_
  refine lv_aload_n hx hb dX1_out_20 rfl (lv_at hl 0 rfl) ?_
  refine va_get (D := (dC, dI)) (ci := 0) (v := .ref o) (C := RX1) (T := TX1) (N := 8) hx hb hts in_X1 hown hK hP 0 rfl rfl 7 (by decide) (hts _ q310) (fun _ h9 => h9) rfl dX1_out_21 ?_
  refine va_alen (v := nI ct) hx hb hK hP 1 0 rfl rfl rfl dX1_out_24 ?_
  refine lv_irem hx hb dX1_out_25 (nI_ne0 (by omega) (by omega)) ?_
  refine z_top (y := nI i) ((pk_rem (by omega) (by omega) (by omega)).trans (congrArg nI (Nat.mod_eq_of_lt hi))) ?_
  refine z_bald (k := i) (v := fo i) hx hb hK hP 1 0 rfl rfl (by omega) (by omega) rfl dX1_out_26 ?_
  refine lv_sipush (v := 255) hx hb dX1_out_27 (by decide) ?_
  refine lv_iand hx hb dX1_out_30 ?_
  exact z_iretR hx hb hr hlocks rfl rfl dX1_out_31
end
section
/-! SalsaDeskLaw: cell, made, known -/
set_option maxRecDepth 100000
theorem hd_X0_cell : yX0_cell.cls ≠ "java/lang/invoke/MethodHandle" ∧ yX0_cell.cls ≠ "java/lang/invoke/VarHandle" ∧ (parseMethodDescriptor yX0_cell.desc).map (fun d => d.parameters.length) = some 2 := by decide +kernel
set_option maxHeartbeats 4000000 in
set_option maxRecDepth 100000 in
theorem m_X0_cell (l : Launch) (dC : Nat → ClassId) (dI : Nat → Nat → Nat) (cB cI : ClassId) (sz : Nat) (b L k : Nat) (xs : Nat → Int32) (hL : L ≤ 64) (hk : k ≤ 4096) : zRi l yX0_cell cX0_cell 2 (some .int) 0 0 [.ref b, .int (nI k)] (zES b L xs) (dC, dI) cB cI sz [] (cvf L xs k) := by
  refine z_ofR (C := RX0) rfl (by decide +kernel) (Nat.le_of_ble_eq_true rfl) ?_
  intro pr ev s m below meth c A hx hb hr hlocks hml hown hname hts hK hP hD hA hE hS ls hl
  have hl : lv_has ls 2 [(0, .ref b), (1, .int (nI k))] := hl
  refine lv_iload_n hx hb dX0_cell_0 rfl (lv_at hl 1 rfl) ?_
  refine lv_aload_n hx hb dX0_cell_1 rfl (lv_at hl 0 rfl) ?_
  refine va_slen hx hb hE.1 hE.2.1 hE.2.2 hS dX0_cell_2 ?_
  refine lv_icmp_ge (tgt := 12) hx hb dX0_cell_3 (by decide) (fun hc => ?_) (fun hc => ?_)
  · have hkL : ¬ k < L := fun q => absurd hc (nI_ge q (by omega))
    refine lv_iconst (v := nI 0) hx hb dX0_cell_12 (by decide) ?_
    exact z_iretR hx hb hr hlocks rfl (if_neg hkL).symm dX0_cell_13
  · have hkL : k < L := (Nat.lt_or_ge k L).resolve_right (fun q => hc (nI_le q (by omega)))
    refine lv_aload_n hx hb dX0_cell_6 rfl (lv_at hl 0 rfl) ?_
    refine lv_iload_n hx hb dX0_cell_7 rfl (lv_at hl 1 rfl) ?_
    refine z_sld (k := k) hx hb hE hS hkL (by omega) dX0_cell_8 ?_
    refine lv_goto (tgt := 13) hx hb dX0_cell_9 (by decide) ?_
    exact z_iretR hx hb hr hlocks rfl (if_pos hkL).symm dX0_cell_13
theorem hd_X0_made : yX0_made.cls ≠ "java/lang/invoke/MethodHandle" ∧ yX0_made.cls ≠ "java/lang/invoke/VarHandle" ∧ (parseMethodDescriptor yX0_made.desc).map (fun d => d.parameters.length) = some 1 := by decide +kernel
set_option maxHeartbeats 4000000 in
set_option maxRecDepth 100000 in
theorem m_X0_made (l : Launch) (dC : Nat → ClassId) (dI : Nat → Nat → Nat) (cB cI : ClassId) (sz : Nat) (tt b L : Nat) (xs : Nat → Int32) (hL : L ≤ 64) : zMr l yX0_made cX0_made 3 (some (.object "SalsaDesk")) 7 280 19 621 [.ref b] (zEB tt b L xs) (dC, dI) cB cI sz [] (fun A d t => ∃ (e es x ks k n tx o : Nat) (xt kt : Nat → Int32), zKs (madeE (cvf L xs)) kt ∧ zB (dC, dI) A [(d, .inr (0, [.ref e, .int (nI 1), .int (nI 0), .ref k, .ref n, .ref tx, .int (nI (m31 (cvf L xs 13) % 129)), .ref o])), (tx, .inl (cB, 256, .inl (txt (cvf L xs) 8))), (e, .inr (1, [.int (nI 20), .int (nI 0), .ref es, .ref x, .ref ks, .int (nI 1), .int (nI 0), .int (nI 0), .int (nI 0)])), (es, .inl (cI, 16, .inl (madeE (cvf L xs)))), (x, .inl (cI, 16, .inl xt)), (ks, .inl (cB, 64, .inl kt))] t) := by
  refine z_ofr (C := RX0) rfl (by decide +kernel) (Nat.le_of_ble_eq_true rfl) ?_
  intro pr ev s m below meth c A hx hb hr hlocks hml hown hname hts hK hP hD hA hE hS ls hl
  have hl : lv_has ls 3 [(0, .ref b)] := hl
  refine va_new (ci := 0) (fs := [.null, .int 0, .int 0, .null, .null, .null, .int 0, .null]) (C := RX1) (T := TX1) (N := 8) hx hb hts in_X1 tyX1 tyX1_ok hown (hts _ q260) (hts _ q31) (hts _ q7) hK hP hD hS hA rfl (z_fsX1) (Nat.le_of_ble_eq_true rfl) (Nat.le_of_ble_eq_true rfl) dX0_made_0 (fun d H hP hD hS => ?_)
  have hP : va_P (dC, dI) vwCl [(d, .inr (0, [.null, .int 0, .int 0, .null, .null, .null, .int 0, .null]))] H := hP
  have hD : va_D A [(d, .inr (0, [.null, .int 0, .int 0, .null, .null, .null, .int 0, .null]))] := hD
  refine lv_dup hx hb dX0_made_3 rfl ?_
  refine z_callvI (wr := []) (As := []) (rest := [.ref d]) ⟨hx, hb, hml, hown, hts⟩ (m_X1_init l dC dI cB cI H.size d) (cwI 0 hts (lw_meth q263) rfl rfl rfl (hts _ q7) (hts _ q261) (hts _ q262) rfl hd_X1_init ⟨Nat.le_of_ble_eq_true rfl, Nat.le_of_ble_eq_true rfl⟩) ⟨zNo_good, trivial⟩ rfl hl.1 rfl (Nat.le_of_ble_eq_true rfl) dX0_made_4 ⟨Nat.le_of_ble_eq_true rfl, Nat.le_of_ble_eq_true rfl⟩ hS hK hP hD hA [0] [] rfl (by decide) rfl (by decide) (by decide) (fun A1 t H locs hB J hS => ?_)
  obtain ⟨e, k, n, tx, o, hB⟩ := hB
  obtain ⟨hP, hD⟩ := J _ hB
  clear hB J
  have hP : va_P (dC, dI) vwCl [(d, .inr (0, [.ref e, .int (nI 0), .int (nI 0), .ref k, .ref n, .ref tx, .int (nI 0), .ref o])), (k, .inl (cB, 32, .inl (fun _ => 0))), (n, .inl (cB, 32, .inl (fun _ => 0))), (tx, .inl (cB, 256, .inl (fun _ => 0)))] H := hP
  have hD : va_D A [(d, .inr (0, [.ref e, .int (nI 0), .int (nI 0), .ref k, .ref n, .ref tx, .int (nI 0), .ref o])), (k, .inl (cB, 32, .inl (fun _ => 0))), (n, .inl (cB, 32, .inl (fun _ => 0))), (tx, .inl (cB, 256, .inl (fun _ => 0)))] := hD
  refine lv_astore_n (lv' := [(1, .ref d), (0, .ref b)]) hx hb dX0_made_7 rfl hl (by decide) rfl (fun ls hl => ?_)
  refine lv_bipush (v := nI 20) hx hb dX0_made_8 (by decide) ?_
  refine lv_istore_n (lv' := [(2, .int (nI 20)), (1, .ref d), (0, .ref b)]) hx hb dX0_made_10 rfl hl (by decide) rfl (fun ls hl => ?_)
  have loop : ∀ (r i : Nat), i + r = 8 → ∀ (H : Heap) (locs : List Loc) (ls : Array Slot), va_P (dC, dI) vwCl [(d, .inr (0, [.ref e, .int (nI 0), .int (nI 0), .ref k, .ref n, .ref tx, .int (nI (16 * i)), .ref o])), (k, .inl (cB, 32, .inl (fun _ => 0))), (n, .inl (cB, 32, .inl (fun _ => 0))), (tx, .inl (cB, 256, .inl (txt (cvf L xs) i)))] H → va_D A [(d, .inr (0, [.ref e, .int (nI 0), .int (nI 0), .ref k, .ref n, .ref tx, .int (nI (16 * i)), .ref o])), (k, .inl (cB, 32, .inl (fun _ => 0))), (n, .inl (cB, 32, .inl (fun _ => 0))), (tx, .inl (cB, 256, .inl (txt (cvf L xs) i)))] → va_S A s.heap H locs → lv_has ls 3 [(0, .ref b), (1, .ref d), (2, .int (nI (20 + 4 * i)))] → W pr l ev (zRm 7 280 19 621) s m ([.ref b] : List Value).toArray below meth c H locs (9) (433) (zQr below (fun A d t => ∃ (e es x ks k n tx o : Nat) (xt kt : Nat → Int32), zKs (madeE (cvf L xs)) kt ∧ zB (dC, dI) A [(d, .inr (0, [.ref e, .int (nI 1), .int (nI 0), .ref k, .ref n, .ref tx, .int (nI (m31 (cvf L xs 13) % 129)), .ref o])), (tx, .inl (cB, 256, .inl (txt (cvf L xs) 8))), (e, .inr (1, [.int (nI 20), .int (nI 0), .ref es, .ref x, .ref ks, .int (nI 1), .int (nI 0), .int (nI 0), .int (nI 0)])), (es, .inl (cI, 16, .inl (madeE (cvf L xs)))), (x, .inl (cI, 16, .inl xt)), (ks, .inl (cB, 64, .inl kt))] t) A [.ref b] s 19 621) (F0 m 11 ls []) := by
    intro r
    induction r with
    | zero =>
      intro i hi H locs ls hP hD hS hl
      obtain rfl : i = 8 := by omega
      refine lv_iload_n hx hb dX0_made_11 rfl (lv_at hl 2 rfl) ?_
      refine lv_bipush (v := nI 52) hx hb dX0_made_12 (by decide) ?_
      refine lv_icmp_ge (tgt := 54) hx hb dX0_made_14 (by decide) (fun _ => ?_) (fun hc => absurd (nI_le (by decide) (by decide)) hc)
      refine lv_aload_n hx hb dX0_made_54 rfl (lv_at hl 1 rfl) ?_
      refine lv_aload_n hx hb dX0_made_55 rfl (lv_at hl 0 rfl) ?_
      refine lv_bipush (v := nI 13) hx hb dX0_made_56 (by decide) ?_
      refine z_readS (As := [.ref b, .int (nI 13)]) (rest := [.ref d]) ⟨hx, hb, hml, hown, hts⟩ (m_X0_cell l dC dI cB cI H.size b L (13) xs hL (by omega)) (va_cwS 2 hts (lw_S q254 q255 q6 q256) rfl rfl rfl hd_X0_cell ⟨Nat.le_of_ble_eq_true rfl, Nat.le_of_ble_eq_true rfl⟩) ⟨zES_good b L xs, hE.2⟩ rfl hl.1 rfl (Nat.le_of_ble_eq_true rfl) dX0_made_58 ⟨Nat.le_of_ble_eq_true rfl, Nat.le_of_ble_eq_true rfl⟩ hS hK hP hD hA [] rfl (by decide) ?_
      refine z_callvV (wr := [(k, .inl (cB, 32, .inl (fun _ => 0))), (n, .inl (cB, 32, .inl (fun _ => 0))), (tx, .inl (cB, 256, .inl (txt (cvf L xs) 8)))]) (As := [.int (cvf L xs 13)]) (rest := []) ⟨hx, hb, hml, hown, hts⟩ (m_X1_trim l dC dI cB cI H.size d e k n tx o (nI 0) (nI 0) (16 * 8) (by decide) (cvf L xs 13)) (cwV 1 hts (lw_V q335 q336 q337 q7 q338) rfl rfl rfl hv_X1_trim ⟨Nat.le_of_ble_eq_true rfl, Nat.le_of_ble_eq_true rfl⟩) ⟨zNo_good, trivial⟩ (va_recv hK hP (ci := 0) (q0 := 0) rfl rfl) rfl hl.1 rfl (Nat.le_of_ble_eq_true rfl) dX0_made_61 ⟨Nat.le_of_ble_eq_true rfl, Nat.le_of_ble_eq_true rfl⟩ hS hK hP hD hA [0] [1, 2, 3] rfl (by decide) rfl (by decide) (by decide) (fun A1 t H locs hB J hS => ?_)
      skip
      obtain ⟨hP, hD⟩ := J _ hB
      clear hB J
      have hP : va_P (dC, dI) vwCl [(k, .inl (cB, 32, .inl (fun _ => 0))), (n, .inl (cB, 32, .inl (fun _ => 0))), (tx, .inl (cB, 256, .inl (txt (cvf L xs) 8))), (d, .inr (0, [.ref e, .int (nI 0), .int (nI 0), .ref k, .ref n, .ref tx, .int (nI (m31 (cvf L xs 13) % 129)), .ref o]))] H := hP
      have hD : va_D A [(k, .inl (cB, 32, .inl (fun _ => 0))), (n, .inl (cB, 32, .inl (fun _ => 0))), (tx, .inl (cB, 256, .inl (txt (cvf L xs) 8))), (d, .inr (0, [.ref e, .int (nI 0), .int (nI 0), .ref k, .ref n, .ref tx, .int (nI (m31 (cvf L xs 13) % 129)), .ref o]))] := hD
      have hz9 : m31 (cvf L xs 13) % 129 ≤ 256 := by omega
      refine lv_aload_n hx hb dX0_made_64 rfl (lv_at hl 1 rfl) ?_
      refine lv_iconst (v := nI 0) hx hb dX0_made_65 (by decide) ?_
      refine lv_aload_n hx hb dX0_made_66 rfl (lv_at hl 0 rfl) ?_
      refine lv_iconst (v := nI 0) hx hb dX0_made_67 (by decide) ?_
      refine z_readS (As := [.ref b, .int (nI 0)]) (rest := [.int (nI 0), .ref d]) ⟨hx, hb, hml, hown, hts⟩ (m_X0_cell l dC dI cB cI H.size b L (0) xs hL (by omega)) (va_cwS 2 hts (lw_S q254 q255 q6 q256) rfl rfl rfl hd_X0_cell ⟨Nat.le_of_ble_eq_true rfl, Nat.le_of_ble_eq_true rfl⟩) ⟨zES_good b L xs, hE.2⟩ rfl hl.1 rfl (Nat.le_of_ble_eq_true rfl) dX0_made_68 ⟨Nat.le_of_ble_eq_true rfl, Nat.le_of_ble_eq_true rfl⟩ hS hK hP hD hA [] rfl (by decide) ?_
      refine lv_aload_n hx hb dX0_made_71 rfl (lv_at hl 0 rfl) ?_
      refine lv_iconst (v := nI 1) hx hb dX0_made_72 (by decide) ?_
      refine z_readS (As := [.ref b, .int (nI 1)]) (rest := [.int (cvf L xs 0), .int (nI 0), .ref d]) ⟨hx, hb, hml, hown, hts⟩ (m_X0_cell l dC dI cB cI H.size b L (1) xs hL (by omega)) (va_cwS 2 hts (lw_S q254 q255 q6 q256) rfl rfl rfl hd_X0_cell ⟨Nat.le_of_ble_eq_true rfl, Nat.le_of_ble_eq_true rfl⟩) ⟨zES_good b L xs, hE.2⟩ rfl hl.1 rfl (Nat.le_of_ble_eq_true rfl) dX0_made_73 ⟨Nat.le_of_ble_eq_true rfl, Nat.le_of_ble_eq_true rfl⟩ hS hK hP hD hA [] rfl (by decide) ?_
      refine lv_aload_n hx hb dX0_made_76 rfl (lv_at hl 0 rfl) ?_
      refine lv_iconst (v := nI 2) hx hb dX0_made_77 (by decide) ?_
      refine z_readS (As := [.ref b, .int (nI 2)]) (rest := [.int (cvf L xs 1), .int (cvf L xs 0), .int (nI 0), .ref d]) ⟨hx, hb, hml, hown, hts⟩ (m_X0_cell l dC dI cB cI H.size b L (2) xs hL (by omega)) (va_cwS 2 hts (lw_S q254 q255 q6 q256) rfl rfl rfl hd_X0_cell ⟨Nat.le_of_ble_eq_true rfl, Nat.le_of_ble_eq_true rfl⟩) ⟨zES_good b L xs, hE.2⟩ rfl hl.1 rfl (Nat.le_of_ble_eq_true rfl) dX0_made_78 ⟨Nat.le_of_ble_eq_true rfl, Nat.le_of_ble_eq_true rfl⟩ hS hK hP hD hA [] rfl (by decide) ?_
      refine lv_aload_n hx hb dX0_made_81 rfl (lv_at hl 0 rfl) ?_
      refine lv_iconst (v := nI 3) hx hb dX0_made_82 (by decide) ?_
      refine z_readS (As := [.ref b, .int (nI 3)]) (rest := [.int (cvf L xs 2), .int (cvf L xs 1), .int (cvf L xs 0), .int (nI 0), .ref d]) ⟨hx, hb, hml, hown, hts⟩ (m_X0_cell l dC dI cB cI H.size b L (3) xs hL (by omega)) (va_cwS 2 hts (lw_S q254 q255 q6 q256) rfl rfl rfl hd_X0_cell ⟨Nat.le_of_ble_eq_true rfl, Nat.le_of_ble_eq_true rfl⟩) ⟨zES_good b L xs, hE.2⟩ rfl hl.1 rfl (Nat.le_of_ble_eq_true rfl) dX0_made_83 ⟨Nat.le_of_ble_eq_true rfl, Nat.le_of_ble_eq_true rfl⟩ hS hK hP hD hA [] rfl (by decide) ?_
      refine z_callvV (wr := [(n, .inl (cB, 32, .inl (fun _ => 0))), (tx, .inl (cB, 256, .inl (txt (cvf L xs) 8)))]) (As := [.int (nI 0), .int (cvf L xs 0), .int (cvf L xs 1), .int (cvf L xs 2), .int (cvf L xs 3)]) (rest := []) ⟨hx, hb, hml, hown, hts⟩ (m_X1_key l dC dI cB cI H.size d e k n tx o (nI 0) (nI 0) (m31 (cvf L xs 13) % 129) hz9 (fun _ => 0) 0 (cvf L xs 0) (cvf L xs 1) (cvf L xs 2) (cvf L xs 3) (by decide)) (cwV 5 hts (lw_V q339 q340 q341 q7 q342) rfl rfl rfl hv_X1_key ⟨Nat.le_of_ble_eq_true rfl, Nat.le_of_ble_eq_true rfl⟩) ⟨zNo_good, trivial⟩ (va_recv hK hP (ci := 0) (q0 := 3) rfl rfl) rfl hl.1 rfl (Nat.le_of_ble_eq_true rfl) dX0_made_86 ⟨Nat.le_of_ble_eq_true rfl, Nat.le_of_ble_eq_true rfl⟩ hS hK hP hD hA [3, 0] [1, 2] rfl (by decide) rfl (by decide) (by decide) (fun A1 t H locs hB J hS => ?_)
      skip
      obtain ⟨hP, hD⟩ := J _ hB
      clear hB J
      have hP : va_P (dC, dI) vwCl [(n, .inl (cB, 32, .inl (fun _ => 0))), (tx, .inl (cB, 256, .inl (txt (cvf L xs) 8))), (d, .inr (0, [.ref e, .int (nI 0), .int (nI 0), .ref k, .ref n, .ref tx, .int (nI (m31 (cvf L xs 13) % 129)), .ref o])), (k, .inl (cB, 32, .inl (wr16 (fun _ => 0) (16 * 0) (cvf L xs 0) (cvf L xs 1) (cvf L xs 2) (cvf L xs 3))))] H := hP
      have hD : va_D A [(n, .inl (cB, 32, .inl (fun _ => 0))), (tx, .inl (cB, 256, .inl (txt (cvf L xs) 8))), (d, .inr (0, [.ref e, .int (nI 0), .int (nI 0), .ref k, .ref n, .ref tx, .int (nI (m31 (cvf L xs 13) % 129)), .ref o])), (k, .inl (cB, 32, .inl (wr16 (fun _ => 0) (16 * 0) (cvf L xs 0) (cvf L xs 1) (cvf L xs 2) (cvf L xs 3))))] := hD
      refine lv_aload_n hx hb dX0_made_89 rfl (lv_at hl 1 rfl) ?_
      refine lv_iconst (v := nI 1) hx hb dX0_made_90 (by decide) ?_
      refine lv_aload_n hx hb dX0_made_91 rfl (lv_at hl 0 rfl) ?_
      refine lv_iconst (v := nI 4) hx hb dX0_made_92 (by decide) ?_
      refine z_readS (As := [.ref b, .int (nI 4)]) (rest := [.int (nI 1), .ref d]) ⟨hx, hb, hml, hown, hts⟩ (m_X0_cell l dC dI cB cI H.size b L (4) xs hL (by omega)) (va_cwS 2 hts (lw_S q254 q255 q6 q256) rfl rfl rfl hd_X0_cell ⟨Nat.le_of_ble_eq_true rfl, Nat.le_of_ble_eq_true rfl⟩) ⟨zES_good b L xs, hE.2⟩ rfl hl.1 rfl (Nat.le_of_ble_eq_true rfl) dX0_made_93 ⟨Nat.le_of_ble_eq_true rfl, Nat.le_of_ble_eq_true rfl⟩ hS hK hP hD hA [] rfl (by decide) ?_
      refine lv_aload_n hx hb dX0_made_96 rfl (lv_at hl 0 rfl) ?_
      refine lv_iconst (v := nI 5) hx hb dX0_made_97 (by decide) ?_
      refine z_readS (As := [.ref b, .int (nI 5)]) (rest := [.int (cvf L xs 4), .int (nI 1), .ref d]) ⟨hx, hb, hml, hown, hts⟩ (m_X0_cell l dC dI cB cI H.size b L (5) xs hL (by omega)) (va_cwS 2 hts (lw_S q254 q255 q6 q256) rfl rfl rfl hd_X0_cell ⟨Nat.le_of_ble_eq_true rfl, Nat.le_of_ble_eq_true rfl⟩) ⟨zES_good b L xs, hE.2⟩ rfl hl.1 rfl (Nat.le_of_ble_eq_true rfl) dX0_made_98 ⟨Nat.le_of_ble_eq_true rfl, Nat.le_of_ble_eq_true rfl⟩ hS hK hP hD hA [] rfl (by decide) ?_
      refine lv_aload_n hx hb dX0_made_101 rfl (lv_at hl 0 rfl) ?_
      refine lv_bipush (v := nI 6) hx hb dX0_made_102 (by decide) ?_
      refine z_readS (As := [.ref b, .int (nI 6)]) (rest := [.int (cvf L xs 5), .int (cvf L xs 4), .int (nI 1), .ref d]) ⟨hx, hb, hml, hown, hts⟩ (m_X0_cell l dC dI cB cI H.size b L (6) xs hL (by omega)) (va_cwS 2 hts (lw_S q254 q255 q6 q256) rfl rfl rfl hd_X0_cell ⟨Nat.le_of_ble_eq_true rfl, Nat.le_of_ble_eq_true rfl⟩) ⟨zES_good b L xs, hE.2⟩ rfl hl.1 rfl (Nat.le_of_ble_eq_true rfl) dX0_made_104 ⟨Nat.le_of_ble_eq_true rfl, Nat.le_of_ble_eq_true rfl⟩ hS hK hP hD hA [] rfl (by decide) ?_
      refine lv_aload_n hx hb dX0_made_107 rfl (lv_at hl 0 rfl) ?_
      refine lv_bipush (v := nI 7) hx hb dX0_made_108 (by decide) ?_
      refine z_readS (As := [.ref b, .int (nI 7)]) (rest := [.int (cvf L xs 6), .int (cvf L xs 5), .int (cvf L xs 4), .int (nI 1), .ref d]) ⟨hx, hb, hml, hown, hts⟩ (m_X0_cell l dC dI cB cI H.size b L (7) xs hL (by omega)) (va_cwS 2 hts (lw_S q254 q255 q6 q256) rfl rfl rfl hd_X0_cell ⟨Nat.le_of_ble_eq_true rfl, Nat.le_of_ble_eq_true rfl⟩) ⟨zES_good b L xs, hE.2⟩ rfl hl.1 rfl (Nat.le_of_ble_eq_true rfl) dX0_made_110 ⟨Nat.le_of_ble_eq_true rfl, Nat.le_of_ble_eq_true rfl⟩ hS hK hP hD hA [] rfl (by decide) ?_
      refine z_callvV (wr := [(n, .inl (cB, 32, .inl (fun _ => 0))), (tx, .inl (cB, 256, .inl (txt (cvf L xs) 8)))]) (As := [.int (nI 1), .int (cvf L xs 4), .int (cvf L xs 5), .int (cvf L xs 6), .int (cvf L xs 7)]) (rest := []) ⟨hx, hb, hml, hown, hts⟩ (m_X1_key l dC dI cB cI H.size d e k n tx o (nI 0) (nI 0) (m31 (cvf L xs 13) % 129) hz9 (wr16 (fun _ => 0) (16 * 0) (cvf L xs 0) (cvf L xs 1) (cvf L xs 2) (cvf L xs 3)) 1 (cvf L xs 4) (cvf L xs 5) (cvf L xs 6) (cvf L xs 7) (by decide)) (cwV 5 hts (lw_V q339 q340 q341 q7 q342) rfl rfl rfl hv_X1_key ⟨Nat.le_of_ble_eq_true rfl, Nat.le_of_ble_eq_true rfl⟩) ⟨zNo_good, trivial⟩ (va_recv hK hP (ci := 0) (q0 := 2) rfl rfl) rfl hl.1 rfl (Nat.le_of_ble_eq_true rfl) dX0_made_113 ⟨Nat.le_of_ble_eq_true rfl, Nat.le_of_ble_eq_true rfl⟩ hS hK hP hD hA [2, 3] [0, 1] rfl (by decide) rfl (by decide) (by decide) (fun A1 t H locs hB J hS => ?_)
      skip
      obtain ⟨hP, hD⟩ := J _ hB
      clear hB J
      have hP : va_P (dC, dI) vwCl [(n, .inl (cB, 32, .inl (fun _ => 0))), (tx, .inl (cB, 256, .inl (txt (cvf L xs) 8))), (d, .inr (0, [.ref e, .int (nI 0), .int (nI 0), .ref k, .ref n, .ref tx, .int (nI (m31 (cvf L xs 13) % 129)), .ref o])), (k, .inl (cB, 32, .inl (wr16 (wr16 (fun _ => 0) (16 * 0) (cvf L xs 0) (cvf L xs 1) (cvf L xs 2) (cvf L xs 3)) (16 * 1) (cvf L xs 4) (cvf L xs 5) (cvf L xs 6) (cvf L xs 7))))] H := hP
      have hD : va_D A [(n, .inl (cB, 32, .inl (fun _ => 0))), (tx, .inl (cB, 256, .inl (txt (cvf L xs) 8))), (d, .inr (0, [.ref e, .int (nI 0), .int (nI 0), .ref k, .ref n, .ref tx, .int (nI (m31 (cvf L xs 13) % 129)), .ref o])), (k, .inl (cB, 32, .inl (wr16 (wr16 (fun _ => 0) (16 * 0) (cvf L xs 0) (cvf L xs 1) (cvf L xs 2) (cvf L xs 3)) (16 * 1) (cvf L xs 4) (cvf L xs 5) (cvf L xs 6) (cvf L xs 7))))] := hD
      refine lv_aload_n hx hb dX0_made_116 rfl (lv_at hl 1 rfl) ?_
      refine lv_iconst (v := nI 0) hx hb dX0_made_117 (by decide) ?_
      refine lv_aload_n hx hb dX0_made_118 rfl (lv_at hl 0 rfl) ?_
      refine lv_bipush (v := nI 8) hx hb dX0_made_119 (by decide) ?_
      refine z_readS (As := [.ref b, .int (nI 8)]) (rest := [.int (nI 0), .ref d]) ⟨hx, hb, hml, hown, hts⟩ (m_X0_cell l dC dI cB cI H.size b L (8) xs hL (by omega)) (va_cwS 2 hts (lw_S q254 q255 q6 q256) rfl rfl rfl hd_X0_cell ⟨Nat.le_of_ble_eq_true rfl, Nat.le_of_ble_eq_true rfl⟩) ⟨zES_good b L xs, hE.2⟩ rfl hl.1 rfl (Nat.le_of_ble_eq_true rfl) dX0_made_121 ⟨Nat.le_of_ble_eq_true rfl, Nat.le_of_ble_eq_true rfl⟩ hS hK hP hD hA [] rfl (by decide) ?_
      refine lv_aload_n hx hb dX0_made_124 rfl (lv_at hl 0 rfl) ?_
      refine lv_bipush (v := nI 9) hx hb dX0_made_125 (by decide) ?_
      refine z_readS (As := [.ref b, .int (nI 9)]) (rest := [.int (cvf L xs 8), .int (nI 0), .ref d]) ⟨hx, hb, hml, hown, hts⟩ (m_X0_cell l dC dI cB cI H.size b L (9) xs hL (by omega)) (va_cwS 2 hts (lw_S q254 q255 q6 q256) rfl rfl rfl hd_X0_cell ⟨Nat.le_of_ble_eq_true rfl, Nat.le_of_ble_eq_true rfl⟩) ⟨zES_good b L xs, hE.2⟩ rfl hl.1 rfl (Nat.le_of_ble_eq_true rfl) dX0_made_127 ⟨Nat.le_of_ble_eq_true rfl, Nat.le_of_ble_eq_true rfl⟩ hS hK hP hD hA [] rfl (by decide) ?_
      refine lv_aload_n hx hb dX0_made_130 rfl (lv_at hl 0 rfl) ?_
      refine lv_bipush (v := nI 10) hx hb dX0_made_131 (by decide) ?_
      refine z_readS (As := [.ref b, .int (nI 10)]) (rest := [.int (cvf L xs 9), .int (cvf L xs 8), .int (nI 0), .ref d]) ⟨hx, hb, hml, hown, hts⟩ (m_X0_cell l dC dI cB cI H.size b L (10) xs hL (by omega)) (va_cwS 2 hts (lw_S q254 q255 q6 q256) rfl rfl rfl hd_X0_cell ⟨Nat.le_of_ble_eq_true rfl, Nat.le_of_ble_eq_true rfl⟩) ⟨zES_good b L xs, hE.2⟩ rfl hl.1 rfl (Nat.le_of_ble_eq_true rfl) dX0_made_133 ⟨Nat.le_of_ble_eq_true rfl, Nat.le_of_ble_eq_true rfl⟩ hS hK hP hD hA [] rfl (by decide) ?_
      refine lv_aload_n hx hb dX0_made_136 rfl (lv_at hl 0 rfl) ?_
      refine lv_bipush (v := nI 11) hx hb dX0_made_137 (by decide) ?_
      refine z_readS (As := [.ref b, .int (nI 11)]) (rest := [.int (cvf L xs 10), .int (cvf L xs 9), .int (cvf L xs 8), .int (nI 0), .ref d]) ⟨hx, hb, hml, hown, hts⟩ (m_X0_cell l dC dI cB cI H.size b L (11) xs hL (by omega)) (va_cwS 2 hts (lw_S q254 q255 q6 q256) rfl rfl rfl hd_X0_cell ⟨Nat.le_of_ble_eq_true rfl, Nat.le_of_ble_eq_true rfl⟩) ⟨zES_good b L xs, hE.2⟩ rfl hl.1 rfl (Nat.le_of_ble_eq_true rfl) dX0_made_139 ⟨Nat.le_of_ble_eq_true rfl, Nat.le_of_ble_eq_true rfl⟩ hS hK hP hD hA [] rfl (by decide) ?_
      refine z_callvV (wr := [(tx, .inl (cB, 256, .inl (txt (cvf L xs) 8))), (k, .inl (cB, 32, .inl (wr16 (wr16 (fun _ => 0) (16 * 0) (cvf L xs 0) (cvf L xs 1) (cvf L xs 2) (cvf L xs 3)) (16 * 1) (cvf L xs 4) (cvf L xs 5) (cvf L xs 6) (cvf L xs 7))))]) (As := [.int (nI 0), .int (cvf L xs 8), .int (cvf L xs 9), .int (cvf L xs 10), .int (cvf L xs 11)]) (rest := []) ⟨hx, hb, hml, hown, hts⟩ (m_X1_nonce l dC dI cB cI H.size d e k n tx o (nI 0) (nI 0) (m31 (cvf L xs 13) % 129) hz9 (fun _ => 0) 0 (cvf L xs 8) (cvf L xs 9) (cvf L xs 10) (cvf L xs 11) (by decide)) (cwV 5 hts (lw_V q343 q344 q345 q7 q346) rfl rfl rfl hv_X1_nonce ⟨Nat.le_of_ble_eq_true rfl, Nat.le_of_ble_eq_true rfl⟩) ⟨zNo_good, trivial⟩ (va_recv hK hP (ci := 0) (q0 := 2) rfl rfl) rfl hl.1 rfl (Nat.le_of_ble_eq_true rfl) dX0_made_142 ⟨Nat.le_of_ble_eq_true rfl, Nat.le_of_ble_eq_true rfl⟩ hS hK hP hD hA [2, 0] [1, 3] rfl (by decide) rfl (by decide) (by decide) (fun A1 t H locs hB J hS => ?_)
      skip
      obtain ⟨hP, hD⟩ := J _ hB
      clear hB J
      have hP : va_P (dC, dI) vwCl [(tx, .inl (cB, 256, .inl (txt (cvf L xs) 8))), (k, .inl (cB, 32, .inl (wr16 (wr16 (fun _ => 0) (16 * 0) (cvf L xs 0) (cvf L xs 1) (cvf L xs 2) (cvf L xs 3)) (16 * 1) (cvf L xs 4) (cvf L xs 5) (cvf L xs 6) (cvf L xs 7)))), (d, .inr (0, [.ref e, .int (nI 0), .int (nI 0), .ref k, .ref n, .ref tx, .int (nI (m31 (cvf L xs 13) % 129)), .ref o])), (n, .inl (cB, 32, .inl (wr16 (fun _ => 0) (16 * 0) (cvf L xs 8) (cvf L xs 9) (cvf L xs 10) (cvf L xs 11))))] H := hP
      have hD : va_D A [(tx, .inl (cB, 256, .inl (txt (cvf L xs) 8))), (k, .inl (cB, 32, .inl (wr16 (wr16 (fun _ => 0) (16 * 0) (cvf L xs 0) (cvf L xs 1) (cvf L xs 2) (cvf L xs 3)) (16 * 1) (cvf L xs 4) (cvf L xs 5) (cvf L xs 6) (cvf L xs 7)))), (d, .inr (0, [.ref e, .int (nI 0), .int (nI 0), .ref k, .ref n, .ref tx, .int (nI (m31 (cvf L xs 13) % 129)), .ref o])), (n, .inl (cB, 32, .inl (wr16 (fun _ => 0) (16 * 0) (cvf L xs 8) (cvf L xs 9) (cvf L xs 10) (cvf L xs 11))))] := hD
      refine lv_aload_n hx hb dX0_made_145 rfl (lv_at hl 1 rfl) ?_
      refine lv_iconst (v := nI 1) hx hb dX0_made_146 (by decide) ?_
      refine lv_aload_n hx hb dX0_made_147 rfl (lv_at hl 0 rfl) ?_
      refine lv_bipush (v := nI 52) hx hb dX0_made_148 (by decide) ?_
      refine z_readS (As := [.ref b, .int (nI 52)]) (rest := [.int (nI 1), .ref d]) ⟨hx, hb, hml, hown, hts⟩ (m_X0_cell l dC dI cB cI H.size b L (52) xs hL (by omega)) (va_cwS 2 hts (lw_S q254 q255 q6 q256) rfl rfl rfl hd_X0_cell ⟨Nat.le_of_ble_eq_true rfl, Nat.le_of_ble_eq_true rfl⟩) ⟨zES_good b L xs, hE.2⟩ rfl hl.1 rfl (Nat.le_of_ble_eq_true rfl) dX0_made_150 ⟨Nat.le_of_ble_eq_true rfl, Nat.le_of_ble_eq_true rfl⟩ hS hK hP hD hA [] rfl (by decide) ?_
      refine lv_aload_n hx hb dX0_made_153 rfl (lv_at hl 0 rfl) ?_
      refine lv_bipush (v := nI 53) hx hb dX0_made_154 (by decide) ?_
      refine z_readS (As := [.ref b, .int (nI 53)]) (rest := [.int (cvf L xs 52), .int (nI 1), .ref d]) ⟨hx, hb, hml, hown, hts⟩ (m_X0_cell l dC dI cB cI H.size b L (53) xs hL (by omega)) (va_cwS 2 hts (lw_S q254 q255 q6 q256) rfl rfl rfl hd_X0_cell ⟨Nat.le_of_ble_eq_true rfl, Nat.le_of_ble_eq_true rfl⟩) ⟨zES_good b L xs, hE.2⟩ rfl hl.1 rfl (Nat.le_of_ble_eq_true rfl) dX0_made_156 ⟨Nat.le_of_ble_eq_true rfl, Nat.le_of_ble_eq_true rfl⟩ hS hK hP hD hA [] rfl (by decide) ?_
      refine lv_aload_n hx hb dX0_made_159 rfl (lv_at hl 0 rfl) ?_
      refine lv_bipush (v := nI 54) hx hb dX0_made_160 (by decide) ?_
      refine z_readS (As := [.ref b, .int (nI 54)]) (rest := [.int (cvf L xs 53), .int (cvf L xs 52), .int (nI 1), .ref d]) ⟨hx, hb, hml, hown, hts⟩ (m_X0_cell l dC dI cB cI H.size b L (54) xs hL (by omega)) (va_cwS 2 hts (lw_S q254 q255 q6 q256) rfl rfl rfl hd_X0_cell ⟨Nat.le_of_ble_eq_true rfl, Nat.le_of_ble_eq_true rfl⟩) ⟨zES_good b L xs, hE.2⟩ rfl hl.1 rfl (Nat.le_of_ble_eq_true rfl) dX0_made_162 ⟨Nat.le_of_ble_eq_true rfl, Nat.le_of_ble_eq_true rfl⟩ hS hK hP hD hA [] rfl (by decide) ?_
      refine lv_aload_n hx hb dX0_made_165 rfl (lv_at hl 0 rfl) ?_
      refine lv_bipush (v := nI 55) hx hb dX0_made_166 (by decide) ?_
      refine z_readS (As := [.ref b, .int (nI 55)]) (rest := [.int (cvf L xs 54), .int (cvf L xs 53), .int (cvf L xs 52), .int (nI 1), .ref d]) ⟨hx, hb, hml, hown, hts⟩ (m_X0_cell l dC dI cB cI H.size b L (55) xs hL (by omega)) (va_cwS 2 hts (lw_S q254 q255 q6 q256) rfl rfl rfl hd_X0_cell ⟨Nat.le_of_ble_eq_true rfl, Nat.le_of_ble_eq_true rfl⟩) ⟨zES_good b L xs, hE.2⟩ rfl hl.1 rfl (Nat.le_of_ble_eq_true rfl) dX0_made_168 ⟨Nat.le_of_ble_eq_true rfl, Nat.le_of_ble_eq_true rfl⟩ hS hK hP hD hA [] rfl (by decide) ?_
      refine z_callvV (wr := [(tx, .inl (cB, 256, .inl (txt (cvf L xs) 8))), (k, .inl (cB, 32, .inl (wr16 (wr16 (fun _ => 0) (16 * 0) (cvf L xs 0) (cvf L xs 1) (cvf L xs 2) (cvf L xs 3)) (16 * 1) (cvf L xs 4) (cvf L xs 5) (cvf L xs 6) (cvf L xs 7))))]) (As := [.int (nI 1), .int (cvf L xs 52), .int (cvf L xs 53), .int (cvf L xs 54), .int (cvf L xs 55)]) (rest := []) ⟨hx, hb, hml, hown, hts⟩ (m_X1_nonce l dC dI cB cI H.size d e k n tx o (nI 0) (nI 0) (m31 (cvf L xs 13) % 129) hz9 (wr16 (fun _ => 0) (16 * 0) (cvf L xs 8) (cvf L xs 9) (cvf L xs 10) (cvf L xs 11)) 1 (cvf L xs 52) (cvf L xs 53) (cvf L xs 54) (cvf L xs 55) (by decide)) (cwV 5 hts (lw_V q343 q344 q345 q7 q346) rfl rfl rfl hv_X1_nonce ⟨Nat.le_of_ble_eq_true rfl, Nat.le_of_ble_eq_true rfl⟩) ⟨zNo_good, trivial⟩ (va_recv hK hP (ci := 0) (q0 := 2) rfl rfl) rfl hl.1 rfl (Nat.le_of_ble_eq_true rfl) dX0_made_171 ⟨Nat.le_of_ble_eq_true rfl, Nat.le_of_ble_eq_true rfl⟩ hS hK hP hD hA [2, 3] [0, 1] rfl (by decide) rfl (by decide) (by decide) (fun A1 t H locs hB J hS => ?_)
      skip
      obtain ⟨hP, hD⟩ := J _ hB
      clear hB J
      have hP : va_P (dC, dI) vwCl [(tx, .inl (cB, 256, .inl (txt (cvf L xs) 8))), (k, .inl (cB, 32, .inl (wr16 (wr16 (fun _ => 0) (16 * 0) (cvf L xs 0) (cvf L xs 1) (cvf L xs 2) (cvf L xs 3)) (16 * 1) (cvf L xs 4) (cvf L xs 5) (cvf L xs 6) (cvf L xs 7)))), (d, .inr (0, [.ref e, .int (nI 0), .int (nI 0), .ref k, .ref n, .ref tx, .int (nI (m31 (cvf L xs 13) % 129)), .ref o])), (n, .inl (cB, 32, .inl (wr16 (wr16 (fun _ => 0) (16 * 0) (cvf L xs 8) (cvf L xs 9) (cvf L xs 10) (cvf L xs 11)) (16 * 1) (cvf L xs 52) (cvf L xs 53) (cvf L xs 54) (cvf L xs 55))))] H := hP
      have hD : va_D A [(tx, .inl (cB, 256, .inl (txt (cvf L xs) 8))), (k, .inl (cB, 32, .inl (wr16 (wr16 (fun _ => 0) (16 * 0) (cvf L xs 0) (cvf L xs 1) (cvf L xs 2) (cvf L xs 3)) (16 * 1) (cvf L xs 4) (cvf L xs 5) (cvf L xs 6) (cvf L xs 7)))), (d, .inr (0, [.ref e, .int (nI 0), .int (nI 0), .ref k, .ref n, .ref tx, .int (nI (m31 (cvf L xs 13) % 129)), .ref o])), (n, .inl (cB, 32, .inl (wr16 (wr16 (fun _ => 0) (16 * 0) (cvf L xs 8) (cvf L xs 9) (cvf L xs 10) (cvf L xs 11)) (16 * 1) (cvf L xs 52) (cvf L xs 53) (cvf L xs 54) (cvf L xs 55))))] := hD
      refine lv_aload_n hx hb dX0_made_174 rfl (lv_at hl 1 rfl) ?_
      refine lv_aload_n hx hb dX0_made_175 rfl (lv_at hl 0 rfl) ?_
      refine lv_bipush (v := nI 12) hx hb dX0_made_176 (by decide) ?_
      refine z_readS (As := [.ref b, .int (nI 12)]) (rest := [.ref d]) ⟨hx, hb, hml, hown, hts⟩ (m_X0_cell l dC dI cB cI H.size b L (12) xs hL (by omega)) (va_cwS 2 hts (lw_S q254 q255 q6 q256) rfl rfl rfl hd_X0_cell ⟨Nat.le_of_ble_eq_true rfl, Nat.le_of_ble_eq_true rfl⟩) ⟨zES_good b L xs, hE.2⟩ rfl hl.1 rfl (Nat.le_of_ble_eq_true rfl) dX0_made_178 ⟨Nat.le_of_ble_eq_true rfl, Nat.le_of_ble_eq_true rfl⟩ hS hK hP hD hA [] rfl (by decide) ?_
      refine z_callvV (wr := [(tx, .inl (cB, 256, .inl (txt (cvf L xs) 8)))]) (As := [.int (cvf L xs 12)]) (rest := []) ⟨hx, hb, hml, hown, hts⟩ (m_X1_begin l dC dI cB cI H.size d e k n tx o (nI 0) (nI 0) (m31 (cvf L xs 13) % 129) hz9 tt (tsOf (cvf L xs 12)) (cvf L xs 12) (wr16 (wr16 (fun _ => 0) (16 * 0) (cvf L xs 0) (cvf L xs 1) (cvf L xs 2) (cvf L xs 3)) (16 * 1) (cvf L xs 4) (cvf L xs 5) (cvf L xs 6) (cvf L xs 7)) (wr16 (wr16 (fun _ => 0) (16 * 0) (cvf L xs 8) (cvf L xs 9) (cvf L xs 10) (cvf L xs 11)) (16 * 1) (cvf L xs 52) (cvf L xs 53) (cvf L xs 54) (cvf L xs 55)) (ts_ok _)) (cwV 1 hts (lw_V q347 q348 q349 q7 q350) rfl rfl rfl hv_X1_begin ⟨Nat.le_of_ble_eq_true rfl, Nat.le_of_ble_eq_true rfl⟩) ⟨zET_good tt, hE.1⟩ (va_recv hK hP (ci := 0) (q0 := 2) rfl rfl) rfl hl.1 rfl (Nat.le_of_ble_eq_true rfl) dX0_made_181 ⟨Nat.le_of_ble_eq_true rfl, Nat.le_of_ble_eq_true rfl⟩ hS hK hP hD hA [2, 1, 3] [0] rfl (by decide) rfl (by decide) (by decide) (fun A1 t H locs hB J hS => ?_)
      obtain ⟨e2, es, x, ks, xt, kt, hk, hB⟩ := hB
      obtain ⟨hP, hD⟩ := J _ hB
      clear hB J
      have hP : va_P (dC, dI) vwCl [(tx, .inl (cB, 256, .inl (txt (cvf L xs) 8))), (d, .inr (0, [.ref e2, .int (nI 1), .int (nI 0), .ref k, .ref n, .ref tx, .int (nI (m31 (cvf L xs 13) % 129)), .ref o])), (e2, .inr (1, [.int (nI 20), .int (nI 0), .ref es, .ref x, .ref ks, .int (nI 1), .int (nI 0), .int (nI 0), .int (nI 0)])), (es, .inl (cI, 16, .inl (madeE (cvf L xs)))), (x, .inl (cI, 16, .inl xt)), (ks, .inl (cB, 64, .inl kt))] H := hP
      have hD : va_D A [(tx, .inl (cB, 256, .inl (txt (cvf L xs) 8))), (d, .inr (0, [.ref e2, .int (nI 1), .int (nI 0), .ref k, .ref n, .ref tx, .int (nI (m31 (cvf L xs 13) % 129)), .ref o])), (e2, .inr (1, [.int (nI 20), .int (nI 0), .ref es, .ref x, .ref ks, .int (nI 1), .int (nI 0), .int (nI 0), .int (nI 0)])), (es, .inl (cI, 16, .inl (madeE (cvf L xs)))), (x, .inl (cI, 16, .inl xt)), (ks, .inl (cB, 64, .inl kt))] := hD
      refine lv_aload_n hx hb dX0_made_184 rfl (lv_at hl 1 rfl) ?_
      exact z_rret hx hb hr (Or.inl ⟨_, rfl⟩) hlocks hS (Nat.le_of_ble_eq_true rfl) (Nat.le_of_ble_eq_true rfl) dX0_made_185 (fun t ht => ⟨e2, es, x, ks, k, n, tx, o, xt, kt, hk, zB_of hP hD [1, 0, 2, 3, 4, 5] rfl (by decide) ht⟩)
    | succ r ih =>
      intro i hi H locs ls hP hD hS hl
      refine lv_iload_n hx hb dX0_made_11 rfl (lv_at hl 2 rfl) ?_
      refine lv_bipush (v := nI 52) hx hb dX0_made_12 (by decide) ?_
      refine lv_icmp_ge (tgt := 54) hx hb dX0_made_14 (by decide) (fun hc => absurd hc (nI_ge (by omega) (by decide))) (fun _ => ?_)
      refine lv_aload_n hx hb dX0_made_17 rfl (lv_at hl 1 rfl) ?_
      refine lv_aload_n hx hb dX0_made_18 rfl (lv_at hl 0 rfl) ?_
      refine lv_iload_n hx hb dX0_made_19 rfl (lv_at hl 2 rfl) ?_
      refine z_readS (As := [.ref b, .int (nI (20 + 4 * i))]) (rest := [.ref d]) ⟨hx, hb, hml, hown, hts⟩ (m_X0_cell l dC dI cB cI H.size b L (20 + 4 * i) xs hL (by omega)) (va_cwS 2 hts (lw_S q254 q255 q6 q256) rfl rfl rfl hd_X0_cell ⟨Nat.le_of_ble_eq_true rfl, Nat.le_of_ble_eq_true rfl⟩) ⟨zES_good b L xs, hE.2⟩ rfl hl.1 rfl (Nat.le_of_ble_eq_true rfl) dX0_made_20 ⟨Nat.le_of_ble_eq_true rfl, Nat.le_of_ble_eq_true rfl⟩ hS hK hP hD hA [] rfl (by decide) ?_
      refine lv_aload_n hx hb dX0_made_23 rfl (lv_at hl 0 rfl) ?_
      refine lv_iload_n hx hb dX0_made_24 rfl (lv_at hl 2 rfl) ?_
      refine lv_iconst (v := nI 1) hx hb dX0_made_25 (by decide) ?_
      refine lv_iadd hx hb dX0_made_26 ?_
      refine z_top (y := nI (20 + 4 * i + 1)) (nI_add _ 1) ?_
      refine z_readS (As := [.ref b, .int (nI (20 + 4 * i + 1))]) (rest := [.int (cvf L xs (20 + 4 * i)), .ref d]) ⟨hx, hb, hml, hown, hts⟩ (m_X0_cell l dC dI cB cI H.size b L (20 + 4 * i + 1) xs hL (by omega)) (va_cwS 2 hts (lw_S q254 q255 q6 q256) rfl rfl rfl hd_X0_cell ⟨Nat.le_of_ble_eq_true rfl, Nat.le_of_ble_eq_true rfl⟩) ⟨zES_good b L xs, hE.2⟩ rfl hl.1 rfl (Nat.le_of_ble_eq_true rfl) dX0_made_27 ⟨Nat.le_of_ble_eq_true rfl, Nat.le_of_ble_eq_true rfl⟩ hS hK hP hD hA [] rfl (by decide) ?_
      refine lv_aload_n hx hb dX0_made_30 rfl (lv_at hl 0 rfl) ?_
      refine lv_iload_n hx hb dX0_made_31 rfl (lv_at hl 2 rfl) ?_
      refine lv_iconst (v := nI 2) hx hb dX0_made_32 (by decide) ?_
      refine lv_iadd hx hb dX0_made_33 ?_
      refine z_top (y := nI (20 + 4 * i + 2)) (nI_add _ 2) ?_
      refine z_readS (As := [.ref b, .int (nI (20 + 4 * i + 2))]) (rest := [.int (cvf L xs (20 + 4 * i + 1)), .int (cvf L xs (20 + 4 * i)), .ref d]) ⟨hx, hb, hml, hown, hts⟩ (m_X0_cell l dC dI cB cI H.size b L (20 + 4 * i + 2) xs hL (by omega)) (va_cwS 2 hts (lw_S q254 q255 q6 q256) rfl rfl rfl hd_X0_cell ⟨Nat.le_of_ble_eq_true rfl, Nat.le_of_ble_eq_true rfl⟩) ⟨zES_good b L xs, hE.2⟩ rfl hl.1 rfl (Nat.le_of_ble_eq_true rfl) dX0_made_34 ⟨Nat.le_of_ble_eq_true rfl, Nat.le_of_ble_eq_true rfl⟩ hS hK hP hD hA [] rfl (by decide) ?_
      refine lv_aload_n hx hb dX0_made_37 rfl (lv_at hl 0 rfl) ?_
      refine lv_iload_n hx hb dX0_made_38 rfl (lv_at hl 2 rfl) ?_
      refine lv_iconst (v := nI 3) hx hb dX0_made_39 (by decide) ?_
      refine lv_iadd hx hb dX0_made_40 ?_
      refine z_top (y := nI (20 + 4 * i + 3)) (nI_add _ 3) ?_
      refine z_readS (As := [.ref b, .int (nI (20 + 4 * i + 3))]) (rest := [.int (cvf L xs (20 + 4 * i + 2)), .int (cvf L xs (20 + 4 * i + 1)), .int (cvf L xs (20 + 4 * i)), .ref d]) ⟨hx, hb, hml, hown, hts⟩ (m_X0_cell l dC dI cB cI H.size b L (20 + 4 * i + 3) xs hL (by omega)) (va_cwS 2 hts (lw_S q254 q255 q6 q256) rfl rfl rfl hd_X0_cell ⟨Nat.le_of_ble_eq_true rfl, Nat.le_of_ble_eq_true rfl⟩) ⟨zES_good b L xs, hE.2⟩ rfl hl.1 rfl (Nat.le_of_ble_eq_true rfl) dX0_made_41 ⟨Nat.le_of_ble_eq_true rfl, Nat.le_of_ble_eq_true rfl⟩ hS hK hP hD hA [] rfl (by decide) ?_
      refine z_calliV (wr := [(k, .inl (cB, 32, .inl (fun _ => 0))), (n, .inl (cB, 32, .inl (fun _ => 0)))]) (As := [.int (cvf L xs (20 + 4 * i)), .int (cvf L xs (20 + 4 * i + 1)), .int (cvf L xs (20 + 4 * i + 2)), .int (cvf L xs (20 + 4 * i + 3))]) (rest := []) ⟨hx, hb, hml, hown, hts⟩ (m_X1_put l dC dI cB cI H.size d e k n tx o (nI 0) (nI 0) (16 * i) (by omega) (txt (cvf L xs) i) (cvf L xs (20 + 4 * i)) (cvf L xs (20 + 4 * i + 1)) (cvf L xs (20 + 4 * i + 2)) (cvf L xs (20 + 4 * i + 3)) (by omega)) (cwV 4 hts (lw_V q328 q329 q330 q7 q331) rfl rfl rfl hv_X1_put ⟨Nat.le_of_ble_eq_true rfl, Nat.le_of_ble_eq_true rfl⟩) ⟨zNo_good, trivial⟩ (va_recv hK hP (ci := 0) (q0 := 0) rfl rfl) rfl hl.1 rfl (Nat.le_of_ble_eq_true rfl) dX0_made_44 ⟨Nat.le_of_ble_eq_true rfl, Nat.le_of_ble_eq_true rfl⟩ hS hK hP hD hA [0, 3] [1, 2] rfl (by decide) rfl (by decide) (by decide) (fun A1 t H locs hB J hS => ?_)
      skip
      obtain ⟨hP, hD⟩ := J _ hB
      clear hB J
      have hP : va_P (dC, dI) vwCl [(k, .inl (cB, 32, .inl (fun _ => 0))), (n, .inl (cB, 32, .inl (fun _ => 0))), (d, .inr (0, [.ref e, .int (nI 0), .int (nI 0), .ref k, .ref n, .ref tx, .int (nI (16 * (i + 1))), .ref o])), (tx, .inl (cB, 256, .inl (txt (cvf L xs) (i + 1))))] H := hP
      have hD : va_D A [(k, .inl (cB, 32, .inl (fun _ => 0))), (n, .inl (cB, 32, .inl (fun _ => 0))), (d, .inr (0, [.ref e, .int (nI 0), .int (nI 0), .ref k, .ref n, .ref tx, .int (nI (16 * (i + 1))), .ref o])), (tx, .inl (cB, 256, .inl (txt (cvf L xs) (i + 1))))] := hD
      refine lv_pop hx hb dX0_made_47 rfl ?_
      refine lv_iinc (v := nI (20 + 4 * (i + 1))) (lv' := [(2, .int (nI (20 + 4 * (i + 1)))), (0, .ref b), (1, .ref d)]) hx hb dX0_made_48 hl (k := 2) rfl ((z_inc _ 4).trans (congrArg nI (by omega))) (by decide) rfl (fun ls hl => ?_)
      refine lv_goto (tgt := 11) hx hb dX0_made_51 (by decide) ?_
      have hP := z_subP hP [2, 0, 1, 3] (ws' := [(d, .inr (0, [.ref e, .int (nI 0), .int (nI 0), .ref k, .ref n, .ref tx, .int (nI (16 * (i + 1))), .ref o])), (k, .inl (cB, 32, .inl (fun _ => 0))), (n, .inl (cB, 32, .inl (fun _ => 0))), (tx, .inl (cB, 256, .inl (txt (cvf L xs) (i + 1))))]) rfl
      have hD := hD.sub (ws' := [(d, .inr (0, [.ref e, .int (nI 0), .int (nI 0), .ref k, .ref n, .ref tx, .int (nI (16 * (i + 1))), .ref o])), (k, .inl (cB, 32, .inl (fun _ => 0))), (n, .inl (cB, 32, .inl (fun _ => 0))), (tx, .inl (cB, 256, .inl (txt (cvf L xs) (i + 1))))]) [2, 0, 1, 3] (by decide) rfl
      exact ih (i + 1) (by omega) H locs ls hP hD hS (lv_sub hl [1, 2, 0] rfl)
  exact loop 8 0 (by decide) H locs ls hP hD hS (lv_sub hl [2, 1, 0] rfl)
theorem hd_X0_known : yX0_known.cls ≠ "java/lang/invoke/MethodHandle" ∧ yX0_known.cls ≠ "java/lang/invoke/VarHandle" ∧ (parseMethodDescriptor yX0_known.desc).map (fun d => d.parameters.length) = some 0 := by decide +kernel
set_option maxHeartbeats 4000000 in
set_option maxRecDepth 100000 in
theorem m_X0_known (l : Launch) (dC : Nat → ClassId) (dI : Nat → Nat → Nat) (cB cI : ClassId) (sz : Nat) (tt : Nat) : zMi l yX0_known cX0_known 3 (some .boolean) 7 280 21 893 [] (zET tt) (dC, dI) cB cI sz [] (nI 1) (fun _ _ => True) := by
  refine z_ofi (C := RX0) rfl (by decide +kernel) (Nat.le_of_ble_eq_true rfl) ?_
  intro pr ev s m below meth c A hx hb hr hlocks hml hown hname hts hK hP hD hA hE hS ls hl
  have hl : lv_has ls 3 [] := hl
  refine va_new (ci := 0) (fs := [.null, .int 0, .int 0, .null, .null, .null, .int 0, .null]) (C := RX1) (T := TX1) (N := 8) hx hb hts in_X1 tyX1 tyX1_ok hown (hts _ q260) (hts _ q31) (hts _ q7) hK hP hD hS hA rfl (z_fsX1) (Nat.le_of_ble_eq_true rfl) (Nat.le_of_ble_eq_true rfl) dX0_known_0 (fun d H hP hD hS => ?_)
  have hP : va_P (dC, dI) vwCl [(d, .inr (0, [.null, .int 0, .int 0, .null, .null, .null, .int 0, .null]))] H := hP
  have hD : va_D A [(d, .inr (0, [.null, .int 0, .int 0, .null, .null, .null, .int 0, .null]))] := hD
  refine lv_dup hx hb dX0_known_3 rfl ?_
  refine z_callvI (wr := []) (As := []) (rest := [.ref d]) ⟨hx, hb, hml, hown, hts⟩ (m_X1_init l dC dI cB cI H.size d) (cwI 0 hts (lw_meth q263) rfl rfl rfl (hts _ q7) (hts _ q261) (hts _ q262) rfl hd_X1_init ⟨Nat.le_of_ble_eq_true rfl, Nat.le_of_ble_eq_true rfl⟩) ⟨zNo_good, trivial⟩ rfl hl.1 rfl (Nat.le_of_ble_eq_true rfl) dX0_known_4 ⟨Nat.le_of_ble_eq_true rfl, Nat.le_of_ble_eq_true rfl⟩ hS hK hP hD hA [0] [] rfl (by decide) rfl (by decide) (by decide) (fun A1 t H locs hB J hS => ?_)
  obtain ⟨e, k, n, tx, o, hB⟩ := hB
  obtain ⟨hP, hD⟩ := J _ hB
  clear hB J
  have hP : va_P (dC, dI) vwCl [(d, .inr (0, [.ref e, .int (nI 0), .int (nI 0), .ref k, .ref n, .ref tx, .int (nI 0), .ref o])), (k, .inl (cB, 32, .inl (fun _ => 0))), (n, .inl (cB, 32, .inl (fun _ => 0))), (tx, .inl (cB, 256, .inl (fun _ => 0)))] H := hP
  have hD : va_D A [(d, .inr (0, [.ref e, .int (nI 0), .int (nI 0), .ref k, .ref n, .ref tx, .int (nI 0), .ref o])), (k, .inl (cB, 32, .inl (fun _ => 0))), (n, .inl (cB, 32, .inl (fun _ => 0))), (tx, .inl (cB, 256, .inl (fun _ => 0)))] := hD
  refine lv_astore_n (lv' := [(0, .ref d)]) hx hb dX0_known_7 rfl hl (by decide) rfl (fun ls hl => ?_)
  refine lv_iconst (v := nI 0) hx hb dX0_known_8 (by decide) ?_
  refine lv_istore_n (lv' := [(1, .int (nI 0)), (0, .ref d)]) hx hb dX0_known_9 rfl hl (by decide) rfl (fun ls hl => ?_)
  have loop : ∀ (r i : Nat), i + r = 2 → ∀ (H : Heap) (locs : List Loc) (ls : Array Slot), va_P (dC, dI) vwCl [(d, .inr (0, [.ref e, .int (nI 0), .int (nI 0), .ref k, .ref n, .ref tx, .int (nI (16 * i)), .ref o])), (k, .inl (cB, 32, .inl (fun _ => 0))), (n, .inl (cB, 32, .inl (fun _ => 0))), (tx, .inl (cB, 256, .inl (txt (fun _ => nI 0) i)))] H → va_D A [(d, .inr (0, [.ref e, .int (nI 0), .int (nI 0), .ref k, .ref n, .ref tx, .int (nI (16 * i)), .ref o])), (k, .inl (cB, 32, .inl (fun _ => 0))), (n, .inl (cB, 32, .inl (fun _ => 0))), (tx, .inl (cB, 256, .inl (txt (fun _ => nI 0) i)))] → va_S A s.heap H locs → lv_has ls 3 [(0, .ref d), (1, .int (nI i))] → W pr l ev (zRm 7 280 21 893) s m ([] : List Value).toArray below meth c H locs (9) (433) (zQi below (nI 1) (fun _ _ => True) A [] s 21 893) (F0 m 10 ls []) := by
    intro r
    induction r with
    | zero =>
      intro i hi H locs ls hP hD hS hl
      obtain rfl : i = 2 := by omega
      refine lv_iload_n hx hb dX0_known_10 rfl (lv_at hl 1 rfl) ?_
      refine lv_iconst (v := nI 2) hx hb dX0_known_11 (by decide) ?_
      refine lv_icmp_ge (tgt := 30) hx hb dX0_known_12 (by decide) (fun _ => ?_) (fun hc => absurd (nI_le (by decide) (by decide)) hc)
      refine lv_aload_n hx hb dX0_known_30 rfl (lv_at hl 0 rfl) ?_
      refine lv_iconst (v := nI 0) hx hb dX0_known_31 (by decide) ?_
      refine lv_ldc (v := -2147483648) hx hb hown (hts _ q425) dX0_known_32 ?_
      refine lv_iconst (v := nI 0) hx hb dX0_known_34 (by decide) ?_
      refine lv_iconst (v := nI 0) hx hb dX0_known_35 (by decide) ?_
      refine lv_iconst (v := nI 0) hx hb dX0_known_36 (by decide) ?_
      refine z_callvV (wr := [(n, .inl (cB, 32, .inl (fun _ => 0))), (tx, .inl (cB, 256, .inl (txt (fun _ => nI 0) 2)))]) (As := [.int (nI 0), .int (-2147483648), .int (nI 0), .int (nI 0), .int (nI 0)]) (rest := []) ⟨hx, hb, hml, hown, hts⟩ (m_X1_key l dC dI cB cI H.size d e k n tx o (nI 0) (nI 0) (16 * 2) (by decide) (fun _ => 0) 0 (-2147483648) (nI 0) (nI 0) (nI 0) (by decide)) (cwV 5 hts (lw_V q339 q340 q341 q7 q342) rfl rfl rfl hv_X1_key ⟨Nat.le_of_ble_eq_true rfl, Nat.le_of_ble_eq_true rfl⟩) ⟨zNo_good, trivial⟩ (va_recv hK hP (ci := 0) (q0 := 0) rfl rfl) rfl hl.1 rfl (Nat.le_of_ble_eq_true rfl) dX0_known_37 ⟨Nat.le_of_ble_eq_true rfl, Nat.le_of_ble_eq_true rfl⟩ hS hK hP hD hA [0, 1] [2, 3] rfl (by decide) rfl (by decide) (by decide) (fun A1 t H locs hB J hS => ?_)
      skip
      obtain ⟨hP, hD⟩ := J _ hB
      clear hB J
      have hP : va_P (dC, dI) vwCl [(n, .inl (cB, 32, .inl (fun _ => 0))), (tx, .inl (cB, 256, .inl (txt (fun _ => nI 0) 2))), (d, .inr (0, [.ref e, .int (nI 0), .int (nI 0), .ref k, .ref n, .ref tx, .int (nI (16 * 2)), .ref o])), (k, .inl (cB, 32, .inl (wr16 (fun _ => 0) (16 * 0) (-2147483648) (nI 0) (nI 0) (nI 0))))] H := hP
      have hD : va_D A [(n, .inl (cB, 32, .inl (fun _ => 0))), (tx, .inl (cB, 256, .inl (txt (fun _ => nI 0) 2))), (d, .inr (0, [.ref e, .int (nI 0), .int (nI 0), .ref k, .ref n, .ref tx, .int (nI (16 * 2)), .ref o])), (k, .inl (cB, 32, .inl (wr16 (fun _ => 0) (16 * 0) (-2147483648) (nI 0) (nI 0) (nI 0))))] := hD
      refine lv_aload_n hx hb dX0_known_40 rfl (lv_at hl 0 rfl) ?_
      refine lv_iconst (v := nI 1) hx hb dX0_known_41 (by decide) ?_
      refine lv_iconst (v := nI 0) hx hb dX0_known_42 (by decide) ?_
      refine lv_iconst (v := nI 0) hx hb dX0_known_43 (by decide) ?_
      refine lv_iconst (v := nI 0) hx hb dX0_known_44 (by decide) ?_
      refine lv_iconst (v := nI 0) hx hb dX0_known_45 (by decide) ?_
      refine z_callvV (wr := [(n, .inl (cB, 32, .inl (fun _ => 0))), (tx, .inl (cB, 256, .inl (txt (fun _ => nI 0) 2)))]) (As := [.int (nI 1), .int (nI 0), .int (nI 0), .int (nI 0), .int (nI 0)]) (rest := []) ⟨hx, hb, hml, hown, hts⟩ (m_X1_key l dC dI cB cI H.size d e k n tx o (nI 0) (nI 0) (16 * 2) (by decide) (wr16 (fun _ => 0) (16 * 0) (-2147483648) (nI 0) (nI 0) (nI 0)) 1 (nI 0) (nI 0) (nI 0) (nI 0) (by decide)) (cwV 5 hts (lw_V q339 q340 q341 q7 q342) rfl rfl rfl hv_X1_key ⟨Nat.le_of_ble_eq_true rfl, Nat.le_of_ble_eq_true rfl⟩) ⟨zNo_good, trivial⟩ (va_recv hK hP (ci := 0) (q0 := 2) rfl rfl) rfl hl.1 rfl (Nat.le_of_ble_eq_true rfl) dX0_known_46 ⟨Nat.le_of_ble_eq_true rfl, Nat.le_of_ble_eq_true rfl⟩ hS hK hP hD hA [2, 3] [0, 1] rfl (by decide) rfl (by decide) (by decide) (fun A1 t H locs hB J hS => ?_)
      skip
      obtain ⟨hP, hD⟩ := J _ hB
      clear hB J
      have hP : va_P (dC, dI) vwCl [(n, .inl (cB, 32, .inl (fun _ => 0))), (tx, .inl (cB, 256, .inl (txt (fun _ => nI 0) 2))), (d, .inr (0, [.ref e, .int (nI 0), .int (nI 0), .ref k, .ref n, .ref tx, .int (nI (16 * 2)), .ref o])), (k, .inl (cB, 32, .inl kK))] H := hP
      have hD : va_D A [(n, .inl (cB, 32, .inl (fun _ => 0))), (tx, .inl (cB, 256, .inl (txt (fun _ => nI 0) 2))), (d, .inr (0, [.ref e, .int (nI 0), .int (nI 0), .ref k, .ref n, .ref tx, .int (nI (16 * 2)), .ref o])), (k, .inl (cB, 32, .inl kK))] := hD
      refine lv_aload_n hx hb dX0_known_49 rfl (lv_at hl 0 rfl) ?_
      refine lv_iconst (v := nI 0) hx hb dX0_known_50 (by decide) ?_
      refine lv_iconst (v := nI 0) hx hb dX0_known_51 (by decide) ?_
      refine lv_iconst (v := nI 0) hx hb dX0_known_52 (by decide) ?_
      refine lv_iconst (v := nI 0) hx hb dX0_known_53 (by decide) ?_
      refine lv_iconst (v := nI 0) hx hb dX0_known_54 (by decide) ?_
      refine z_callvV (wr := [(tx, .inl (cB, 256, .inl (txt (fun _ => nI 0) 2))), (k, .inl (cB, 32, .inl kK))]) (As := [.int (nI 0), .int (nI 0), .int (nI 0), .int (nI 0), .int (nI 0)]) (rest := []) ⟨hx, hb, hml, hown, hts⟩ (m_X1_nonce l dC dI cB cI H.size d e k n tx o (nI 0) (nI 0) (16 * 2) (by decide) (fun _ => 0) 0 (nI 0) (nI 0) (nI 0) (nI 0) (by decide)) (cwV 5 hts (lw_V q343 q344 q345 q7 q346) rfl rfl rfl hv_X1_nonce ⟨Nat.le_of_ble_eq_true rfl, Nat.le_of_ble_eq_true rfl⟩) ⟨zNo_good, trivial⟩ (va_recv hK hP (ci := 0) (q0 := 2) rfl rfl) rfl hl.1 rfl (Nat.le_of_ble_eq_true rfl) dX0_known_55 ⟨Nat.le_of_ble_eq_true rfl, Nat.le_of_ble_eq_true rfl⟩ hS hK hP hD hA [2, 0] [1, 3] rfl (by decide) rfl (by decide) (by decide) (fun A1 t H locs hB J hS => ?_)
      skip
      obtain ⟨hP, hD⟩ := J _ hB
      clear hB J
      have hP : va_P (dC, dI) vwCl [(tx, .inl (cB, 256, .inl (txt (fun _ => nI 0) 2))), (k, .inl (cB, 32, .inl kK)), (d, .inr (0, [.ref e, .int (nI 0), .int (nI 0), .ref k, .ref n, .ref tx, .int (nI (16 * 2)), .ref o])), (n, .inl (cB, 32, .inl (wr16 (fun _ => 0) (16 * 0) (nI 0) (nI 0) (nI 0) (nI 0))))] H := hP
      have hD : va_D A [(tx, .inl (cB, 256, .inl (txt (fun _ => nI 0) 2))), (k, .inl (cB, 32, .inl kK)), (d, .inr (0, [.ref e, .int (nI 0), .int (nI 0), .ref k, .ref n, .ref tx, .int (nI (16 * 2)), .ref o])), (n, .inl (cB, 32, .inl (wr16 (fun _ => 0) (16 * 0) (nI 0) (nI 0) (nI 0) (nI 0))))] := hD
      refine lv_aload_n hx hb dX0_known_58 rfl (lv_at hl 0 rfl) ?_
      refine lv_iconst (v := nI 1) hx hb dX0_known_59 (by decide) ?_
      refine lv_iconst (v := nI 0) hx hb dX0_known_60 (by decide) ?_
      refine lv_iconst (v := nI 0) hx hb dX0_known_61 (by decide) ?_
      refine lv_iconst (v := nI 0) hx hb dX0_known_62 (by decide) ?_
      refine lv_iconst (v := nI 0) hx hb dX0_known_63 (by decide) ?_
      refine z_callvV (wr := [(tx, .inl (cB, 256, .inl (txt (fun _ => nI 0) 2))), (k, .inl (cB, 32, .inl kK))]) (As := [.int (nI 1), .int (nI 0), .int (nI 0), .int (nI 0), .int (nI 0)]) (rest := []) ⟨hx, hb, hml, hown, hts⟩ (m_X1_nonce l dC dI cB cI H.size d e k n tx o (nI 0) (nI 0) (16 * 2) (by decide) (wr16 (fun _ => 0) (16 * 0) (nI 0) (nI 0) (nI 0) (nI 0)) 1 (nI 0) (nI 0) (nI 0) (nI 0) (by decide)) (cwV 5 hts (lw_V q343 q344 q345 q7 q346) rfl rfl rfl hv_X1_nonce ⟨Nat.le_of_ble_eq_true rfl, Nat.le_of_ble_eq_true rfl⟩) ⟨zNo_good, trivial⟩ (va_recv hK hP (ci := 0) (q0 := 2) rfl rfl) rfl hl.1 rfl (Nat.le_of_ble_eq_true rfl) dX0_known_64 ⟨Nat.le_of_ble_eq_true rfl, Nat.le_of_ble_eq_true rfl⟩ hS hK hP hD hA [2, 3] [0, 1] rfl (by decide) rfl (by decide) (by decide) (fun A1 t H locs hB J hS => ?_)
      skip
      obtain ⟨hP, hD⟩ := J _ hB
      clear hB J
      have hP : va_P (dC, dI) vwCl [(tx, .inl (cB, 256, .inl (txt (fun _ => nI 0) 2))), (k, .inl (cB, 32, .inl kK)), (d, .inr (0, [.ref e, .int (nI 0), .int (nI 0), .ref k, .ref n, .ref tx, .int (nI (16 * 2)), .ref o])), (n, .inl (cB, 32, .inl kN))] H := hP
      have hD : va_D A [(tx, .inl (cB, 256, .inl (txt (fun _ => nI 0) 2))), (k, .inl (cB, 32, .inl kK)), (d, .inr (0, [.ref e, .int (nI 0), .int (nI 0), .ref k, .ref n, .ref tx, .int (nI (16 * 2)), .ref o])), (n, .inl (cB, 32, .inl kN))] := hD
      refine lv_aload_n hx hb dX0_known_67 rfl (lv_at hl 0 rfl) ?_
      refine lv_iconst (v := nI 0) hx hb dX0_known_68 (by decide) ?_
      refine z_callvV (wr := [(tx, .inl (cB, 256, .inl (txt (fun _ => nI 0) 2)))]) (As := [.int (nI 0)]) (rest := []) ⟨hx, hb, hml, hown, hts⟩ (m_X1_begin l dC dI cB cI H.size d e k n tx o (nI 0) (nI 0) (16 * 2) (by decide) tt 0 (nI 0) kK kN (Or.inl ⟨by decide, rfl⟩)) (cwV 1 hts (lw_V q347 q348 q349 q7 q350) rfl rfl rfl hv_X1_begin ⟨Nat.le_of_ble_eq_true rfl, Nat.le_of_ble_eq_true rfl⟩) ⟨zET_good tt, hE⟩ (va_recv hK hP (ci := 0) (q0 := 2) rfl rfl) rfl hl.1 rfl (Nat.le_of_ble_eq_true rfl) dX0_known_69 ⟨Nat.le_of_ble_eq_true rfl, Nat.le_of_ble_eq_true rfl⟩ hS hK hP hD hA [2, 1, 3] [0] rfl (by decide) rfl (by decide) (by decide) (fun A1 t H locs hB J hS => ?_)
      obtain ⟨e2, es, x, ks, xt, kt, hk, hB⟩ := hB
      obtain ⟨hP, hD⟩ := J _ hB
      clear hB J
      have hP : va_P (dC, dI) vwCl [(tx, .inl (cB, 256, .inl (txt (fun _ => nI 0) 2))), (d, .inr (0, [.ref e2, .int (nI 1), .int (nI 0), .ref k, .ref n, .ref tx, .int (nI (16 * 2)), .ref o])), (e2, .inr (1, [.int (nI 20), .int (nI 0), .ref es, .ref x, .ref ks, .int (nI 1), .int (nI 0), .int (nI 0), .int (nI 0)])), (es, .inl (cI, 16, .inl kE)), (x, .inl (cI, 16, .inl xt)), (ks, .inl (cB, 64, .inl kt))] H := hP
      have hD : va_D A [(tx, .inl (cB, 256, .inl (txt (fun _ => nI 0) 2))), (d, .inr (0, [.ref e2, .int (nI 1), .int (nI 0), .ref k, .ref n, .ref tx, .int (nI (16 * 2)), .ref o])), (e2, .inr (1, [.int (nI 20), .int (nI 0), .ref es, .ref x, .ref ks, .int (nI 1), .int (nI 0), .int (nI 0), .int (nI 0)])), (es, .inl (cI, 16, .inl kE)), (x, .inl (cI, 16, .inl xt)), (ks, .inl (cB, 64, .inl kt))] := hD
      refine lv_aload_n hx hb dX0_known_72 rfl (lv_at hl 0 rfl) ?_
      refine lv_iconst (v := nI 0) hx hb dX0_known_73 (by decide) ?_
      refine lv_bipush (v := nI 16) hx hb dX0_known_74 (by decide) ?_
      refine z_calliV (wr := []) (As := [.int (nI 0), .int (nI 16)]) (rest := []) ⟨hx, hb, hml, hown, hts⟩ (m_X1_run l dC dI cB cI H.size d e2 k n tx o es x ks (16 * 2) 0 0 16 kE (txt (fun _ => nI 0) 2) xt kt (by decide) (by decide) (by decide) hk) (cwV 2 hts (lw_V q24 q25 q26 q7 q27) rfl rfl rfl hv_X1_run ⟨Nat.le_of_ble_eq_true rfl, Nat.le_of_ble_eq_true rfl⟩) ⟨zNo_good, trivial⟩ (va_recv hK hP (ci := 0) (q0 := 1) rfl rfl) rfl hl.1 rfl (Nat.le_of_ble_eq_true rfl) dX0_known_76 ⟨Nat.le_of_ble_eq_true rfl, Nat.le_of_ble_eq_true rfl⟩ hS hK hP hD hA [1, 0, 2, 3, 4, 5] [] rfl (by decide) rfl (by decide) (by decide) (fun A1 t H locs hB J hS => ?_)
      obtain ⟨ob, xt1, kt1, fo, hk1, hfo, hB⟩ := hB
      obtain ⟨hP, hD⟩ := J _ hB
      clear hB J
      have hP : va_P (dC, dI) vwCl [(d, .inr (0, [.ref e2, .int (nI 1), .int (nI (0 + 16)), .ref k, .ref n, .ref tx, .int (nI (16 * 2)), .ref ob])), (tx, .inl (cB, 256, .inl (txt (fun _ => nI 0) 2))), (e2, .inr (1, [.int (nI 20), .int (nI ((0 + 16) % 64)), .ref es, .ref x, .ref ks, .int (nI 1), .int (nI (0 + 16)), .int (nI 0), .int (nI 0)])), (es, .inl (cI, 16, .inl (advs ((0 + 16) / 64) kE))), (x, .inl (cI, 16, .inl xt1)), (ks, .inl (cB, 64, .inl kt1)), (ob, .inl (cB, 16, .inl fo))] H := hP
      have hD : va_D A [(d, .inr (0, [.ref e2, .int (nI 1), .int (nI (0 + 16)), .ref k, .ref n, .ref tx, .int (nI (16 * 2)), .ref ob])), (tx, .inl (cB, 256, .inl (txt (fun _ => nI 0) 2))), (e2, .inr (1, [.int (nI 20), .int (nI ((0 + 16) % 64)), .ref es, .ref x, .ref ks, .int (nI 1), .int (nI (0 + 16)), .int (nI 0), .int (nI 0)])), (es, .inl (cI, 16, .inl (advs ((0 + 16) / 64) kE))), (x, .inl (cI, 16, .inl xt1)), (ks, .inl (cB, 64, .inl kt1)), (ob, .inl (cB, 16, .inl fo))] := hD
      have hP := z_subP hP [0, 6] (ws' := [(d, .inr (0, [.ref e2, .int (nI 1), .int (nI (0 + 16)), .ref k, .ref n, .ref tx, .int (nI (16 * 2)), .ref ob])), (ob, .inl (cB, 16, .inl fo))]) rfl
      have hD := hD.sub (ws' := [(d, .inr (0, [.ref e2, .int (nI 1), .int (nI (0 + 16)), .ref k, .ref n, .ref tx, .int (nI (16 * 2)), .ref ob])), (ob, .inl (cB, 16, .inl fo))]) [0, 6] (by decide) rfl
      refine lv_pop hx hb dX0_known_79 rfl ?_
      refine lv_bipush (v := nI 16) hx hb dX0_known_80 (by decide) ?_
      refine z_newi (N := 16) hx hb (hts _ q302) hK hP hD hS hA (by omega) (Nat.le_of_ble_eq_true rfl) (Nat.le_of_ble_eq_true rfl) dX0_known_82 (fun xo H hP hD hS => ?_)
      have hP : va_P (dC, dI) vwCl [(d, .inr (0, [.ref e2, .int (nI 1), .int (nI (0 + 16)), .ref k, .ref n, .ref tx, .int (nI (16 * 2)), .ref ob])), (ob, .inl (cB, 16, .inl fo)), (xo, .inl (cI, 16, .inl (fun _ => 0)))] H := hP
      have hD : va_D A [(d, .inr (0, [.ref e2, .int (nI 1), .int (nI (0 + 16)), .ref k, .ref n, .ref tx, .int (nI (16 * 2)), .ref ob])), (ob, .inl (cB, 16, .inl fo)), (xo, .inl (cI, 16, .inl (fun _ => 0)))] := hD
      have hP : va_P (dC, dI) vwCl [(d, .inr (0, [.ref e2, .int (nI 1), .int (nI (0 + 16)), .ref k, .ref n, .ref tx, .int (nI (16 * 2)), .ref ob])), (ob, .inl (cB, 16, .inl fo)), (xo, .inl (cI, 16, .inl (xoN 0)))] H := hP
      have hD : va_D A [(d, .inr (0, [.ref e2, .int (nI 1), .int (nI (0 + 16)), .ref k, .ref n, .ref tx, .int (nI (16 * 2)), .ref ob])), (ob, .inl (cB, 16, .inl fo)), (xo, .inl (cI, 16, .inl (xoN 0)))] := hD
      refine lv_dup hx hb dX0_known_84 rfl ?_
      refine lv_iconst (v := nI 0) hx hb dX0_known_85 (by decide) ?_
      refine lv_bipush (v := nI 77) hx hb dX0_known_86 (by decide) ?_
      refine z_iast (k := 0) (g := xoN 1) hx hb hK hP hD hS 2 1 rfl rfl (by decide) (by decide) rfl dX0_known_88 (fun H locs hP hD hS => ?_)
      have hP : va_P (dC, dI) vwCl [(d, .inr (0, [.ref e2, .int (nI 1), .int (nI (0 + 16)), .ref k, .ref n, .ref tx, .int (nI (16 * 2)), .ref ob])), (ob, .inl (cB, 16, .inl fo)), (xo, .inl (cI, 16, .inl (xoN 1)))] H := hP
      have hD : va_D A [(d, .inr (0, [.ref e2, .int (nI 1), .int (nI (0 + 16)), .ref k, .ref n, .ref tx, .int (nI (16 * 2)), .ref ob])), (ob, .inl (cB, 16, .inl fo)), (xo, .inl (cI, 16, .inl (xoN 1)))] := hD
      refine lv_dup hx hb dX0_known_89 rfl ?_
      refine lv_iconst (v := nI 1) hx hb dX0_known_90 (by decide) ?_
      refine lv_sipush (v := nI 250) hx hb dX0_known_91 (by decide) ?_
      refine z_iast (k := 1) (g := xoN 2) hx hb hK hP hD hS 2 1 rfl rfl (by decide) (by decide) rfl dX0_known_94 (fun H locs hP hD hS => ?_)
      have hP : va_P (dC, dI) vwCl [(d, .inr (0, [.ref e2, .int (nI 1), .int (nI (0 + 16)), .ref k, .ref n, .ref tx, .int (nI (16 * 2)), .ref ob])), (ob, .inl (cB, 16, .inl fo)), (xo, .inl (cI, 16, .inl (xoN 2)))] H := hP
      have hD : va_D A [(d, .inr (0, [.ref e2, .int (nI 1), .int (nI (0 + 16)), .ref k, .ref n, .ref tx, .int (nI (16 * 2)), .ref ob])), (ob, .inl (cB, 16, .inl fo)), (xo, .inl (cI, 16, .inl (xoN 2)))] := hD
      refine lv_dup hx hb dX0_known_95 rfl ?_
      refine lv_iconst (v := nI 2) hx hb dX0_known_96 (by decide) ?_
      refine lv_bipush (v := nI 94) hx hb dX0_known_97 (by decide) ?_
      refine z_iast (k := 2) (g := xoN 3) hx hb hK hP hD hS 2 1 rfl rfl (by decide) (by decide) rfl dX0_known_99 (fun H locs hP hD hS => ?_)
      have hP : va_P (dC, dI) vwCl [(d, .inr (0, [.ref e2, .int (nI 1), .int (nI (0 + 16)), .ref k, .ref n, .ref tx, .int (nI (16 * 2)), .ref ob])), (ob, .inl (cB, 16, .inl fo)), (xo, .inl (cI, 16, .inl (xoN 3)))] H := hP
      have hD : va_D A [(d, .inr (0, [.ref e2, .int (nI 1), .int (nI (0 + 16)), .ref k, .ref n, .ref tx, .int (nI (16 * 2)), .ref ob])), (ob, .inl (cB, 16, .inl fo)), (xo, .inl (cI, 16, .inl (xoN 3)))] := hD
      refine lv_dup hx hb dX0_known_100 rfl ?_
      refine lv_iconst (v := nI 3) hx hb dX0_known_101 (by decide) ?_
      refine lv_bipush (v := nI 72) hx hb dX0_known_102 (by decide) ?_
      refine z_iast (k := 3) (g := xoN 4) hx hb hK hP hD hS 2 1 rfl rfl (by decide) (by decide) rfl dX0_known_104 (fun H locs hP hD hS => ?_)
      have hP : va_P (dC, dI) vwCl [(d, .inr (0, [.ref e2, .int (nI 1), .int (nI (0 + 16)), .ref k, .ref n, .ref tx, .int (nI (16 * 2)), .ref ob])), (ob, .inl (cB, 16, .inl fo)), (xo, .inl (cI, 16, .inl (xoN 4)))] H := hP
      have hD : va_D A [(d, .inr (0, [.ref e2, .int (nI 1), .int (nI (0 + 16)), .ref k, .ref n, .ref tx, .int (nI (16 * 2)), .ref ob])), (ob, .inl (cB, 16, .inl fo)), (xo, .inl (cI, 16, .inl (xoN 4)))] := hD
      refine lv_dup hx hb dX0_known_105 rfl ?_
      refine lv_iconst (v := nI 4) hx hb dX0_known_106 (by decide) ?_
      refine lv_bipush (v := nI 29) hx hb dX0_known_107 (by decide) ?_
      refine z_iast (k := 4) (g := xoN 5) hx hb hK hP hD hS 2 1 rfl rfl (by decide) (by decide) rfl dX0_known_109 (fun H locs hP hD hS => ?_)
      have hP : va_P (dC, dI) vwCl [(d, .inr (0, [.ref e2, .int (nI 1), .int (nI (0 + 16)), .ref k, .ref n, .ref tx, .int (nI (16 * 2)), .ref ob])), (ob, .inl (cB, 16, .inl fo)), (xo, .inl (cI, 16, .inl (xoN 5)))] H := hP
      have hD : va_D A [(d, .inr (0, [.ref e2, .int (nI 1), .int (nI (0 + 16)), .ref k, .ref n, .ref tx, .int (nI (16 * 2)), .ref ob])), (ob, .inl (cB, 16, .inl fo)), (xo, .inl (cI, 16, .inl (xoN 5)))] := hD
      refine lv_dup hx hb dX0_known_110 rfl ?_
      refine lv_iconst (v := nI 5) hx hb dX0_known_111 (by decide) ?_
      refine lv_sipush (v := nI 162) hx hb dX0_known_112 (by decide) ?_
      refine z_iast (k := 5) (g := xoN 6) hx hb hK hP hD hS 2 1 rfl rfl (by decide) (by decide) rfl dX0_known_115 (fun H locs hP hD hS => ?_)
      have hP : va_P (dC, dI) vwCl [(d, .inr (0, [.ref e2, .int (nI 1), .int (nI (0 + 16)), .ref k, .ref n, .ref tx, .int (nI (16 * 2)), .ref ob])), (ob, .inl (cB, 16, .inl fo)), (xo, .inl (cI, 16, .inl (xoN 6)))] H := hP
      have hD : va_D A [(d, .inr (0, [.ref e2, .int (nI 1), .int (nI (0 + 16)), .ref k, .ref n, .ref tx, .int (nI (16 * 2)), .ref ob])), (ob, .inl (cB, 16, .inl fo)), (xo, .inl (cI, 16, .inl (xoN 6)))] := hD
      refine lv_dup hx hb dX0_known_116 rfl ?_
      refine lv_bipush (v := nI 6) hx hb dX0_known_117 (by decide) ?_
      refine lv_bipush (v := nI 62) hx hb dX0_known_119 (by decide) ?_
      refine z_iast (k := 6) (g := xoN 7) hx hb hK hP hD hS 2 1 rfl rfl (by decide) (by decide) rfl dX0_known_121 (fun H locs hP hD hS => ?_)
      have hP : va_P (dC, dI) vwCl [(d, .inr (0, [.ref e2, .int (nI 1), .int (nI (0 + 16)), .ref k, .ref n, .ref tx, .int (nI (16 * 2)), .ref ob])), (ob, .inl (cB, 16, .inl fo)), (xo, .inl (cI, 16, .inl (xoN 7)))] H := hP
      have hD : va_D A [(d, .inr (0, [.ref e2, .int (nI 1), .int (nI (0 + 16)), .ref k, .ref n, .ref tx, .int (nI (16 * 2)), .ref ob])), (ob, .inl (cB, 16, .inl fo)), (xo, .inl (cI, 16, .inl (xoN 7)))] := hD
      refine lv_dup hx hb dX0_known_122 rfl ?_
      refine lv_bipush (v := nI 7) hx hb dX0_known_123 (by decide) ?_
      refine lv_sipush (v := nI 160) hx hb dX0_known_125 (by decide) ?_
      refine z_iast (k := 7) (g := xoN 8) hx hb hK hP hD hS 2 1 rfl rfl (by decide) (by decide) rfl dX0_known_128 (fun H locs hP hD hS => ?_)
      have hP : va_P (dC, dI) vwCl [(d, .inr (0, [.ref e2, .int (nI 1), .int (nI (0 + 16)), .ref k, .ref n, .ref tx, .int (nI (16 * 2)), .ref ob])), (ob, .inl (cB, 16, .inl fo)), (xo, .inl (cI, 16, .inl (xoN 8)))] H := hP
      have hD : va_D A [(d, .inr (0, [.ref e2, .int (nI 1), .int (nI (0 + 16)), .ref k, .ref n, .ref tx, .int (nI (16 * 2)), .ref ob])), (ob, .inl (cB, 16, .inl fo)), (xo, .inl (cI, 16, .inl (xoN 8)))] := hD
      refine lv_dup hx hb dX0_known_129 rfl ?_
      refine lv_bipush (v := nI 8) hx hb dX0_known_130 (by decide) ?_
      refine lv_sipush (v := nI 154) hx hb dX0_known_132 (by decide) ?_
      refine z_iast (k := 8) (g := xoN 9) hx hb hK hP hD hS 2 1 rfl rfl (by decide) (by decide) rfl dX0_known_135 (fun H locs hP hD hS => ?_)
      have hP : va_P (dC, dI) vwCl [(d, .inr (0, [.ref e2, .int (nI 1), .int (nI (0 + 16)), .ref k, .ref n, .ref tx, .int (nI (16 * 2)), .ref ob])), (ob, .inl (cB, 16, .inl fo)), (xo, .inl (cI, 16, .inl (xoN 9)))] H := hP
      have hD : va_D A [(d, .inr (0, [.ref e2, .int (nI 1), .int (nI (0 + 16)), .ref k, .ref n, .ref tx, .int (nI (16 * 2)), .ref ob])), (ob, .inl (cB, 16, .inl fo)), (xo, .inl (cI, 16, .inl (xoN 9)))] := hD
      refine lv_dup hx hb dX0_known_136 rfl ?_
      refine lv_bipush (v := nI 9) hx hb dX0_known_137 (by decide) ?_
      refine lv_bipush (v := nI 49) hx hb dX0_known_139 (by decide) ?_
      refine z_iast (k := 9) (g := xoN 10) hx hb hK hP hD hS 2 1 rfl rfl (by decide) (by decide) rfl dX0_known_141 (fun H locs hP hD hS => ?_)
      have hP : va_P (dC, dI) vwCl [(d, .inr (0, [.ref e2, .int (nI 1), .int (nI (0 + 16)), .ref k, .ref n, .ref tx, .int (nI (16 * 2)), .ref ob])), (ob, .inl (cB, 16, .inl fo)), (xo, .inl (cI, 16, .inl (xoN 10)))] H := hP
      have hD : va_D A [(d, .inr (0, [.ref e2, .int (nI 1), .int (nI (0 + 16)), .ref k, .ref n, .ref tx, .int (nI (16 * 2)), .ref ob])), (ob, .inl (cB, 16, .inl fo)), (xo, .inl (cI, 16, .inl (xoN 10)))] := hD
      refine lv_dup hx hb dX0_known_142 rfl ?_
      refine lv_bipush (v := nI 10) hx hb dX0_known_143 (by decide) ?_
      refine lv_iconst (v := nI 2) hx hb dX0_known_145 (by decide) ?_
      refine z_iast (k := 10) (g := xoN 11) hx hb hK hP hD hS 2 1 rfl rfl (by decide) (by decide) rfl dX0_known_146 (fun H locs hP hD hS => ?_)
      have hP : va_P (dC, dI) vwCl [(d, .inr (0, [.ref e2, .int (nI 1), .int (nI (0 + 16)), .ref k, .ref n, .ref tx, .int (nI (16 * 2)), .ref ob])), (ob, .inl (cB, 16, .inl fo)), (xo, .inl (cI, 16, .inl (xoN 11)))] H := hP
      have hD : va_D A [(d, .inr (0, [.ref e2, .int (nI 1), .int (nI (0 + 16)), .ref k, .ref n, .ref tx, .int (nI (16 * 2)), .ref ob])), (ob, .inl (cB, 16, .inl fo)), (xo, .inl (cI, 16, .inl (xoN 11)))] := hD
      refine lv_dup hx hb dX0_known_147 rfl ?_
      refine lv_bipush (v := nI 11) hx hb dX0_known_148 (by decide) ?_
      refine lv_bipush (v := nI 32) hx hb dX0_known_150 (by decide) ?_
      refine z_iast (k := 11) (g := xoN 12) hx hb hK hP hD hS 2 1 rfl rfl (by decide) (by decide) rfl dX0_known_152 (fun H locs hP hD hS => ?_)
      have hP : va_P (dC, dI) vwCl [(d, .inr (0, [.ref e2, .int (nI 1), .int (nI (0 + 16)), .ref k, .ref n, .ref tx, .int (nI (16 * 2)), .ref ob])), (ob, .inl (cB, 16, .inl fo)), (xo, .inl (cI, 16, .inl (xoN 12)))] H := hP
      have hD : va_D A [(d, .inr (0, [.ref e2, .int (nI 1), .int (nI (0 + 16)), .ref k, .ref n, .ref tx, .int (nI (16 * 2)), .ref ob])), (ob, .inl (cB, 16, .inl fo)), (xo, .inl (cI, 16, .inl (xoN 12)))] := hD
      refine lv_dup hx hb dX0_known_153 rfl ?_
      refine lv_bipush (v := nI 12) hx hb dX0_known_154 (by decide) ?_
      refine lv_bipush (v := nI 80) hx hb dX0_known_156 (by decide) ?_
      refine z_iast (k := 12) (g := xoN 13) hx hb hK hP hD hS 2 1 rfl rfl (by decide) (by decide) rfl dX0_known_158 (fun H locs hP hD hS => ?_)
      have hP : va_P (dC, dI) vwCl [(d, .inr (0, [.ref e2, .int (nI 1), .int (nI (0 + 16)), .ref k, .ref n, .ref tx, .int (nI (16 * 2)), .ref ob])), (ob, .inl (cB, 16, .inl fo)), (xo, .inl (cI, 16, .inl (xoN 13)))] H := hP
      have hD : va_D A [(d, .inr (0, [.ref e2, .int (nI 1), .int (nI (0 + 16)), .ref k, .ref n, .ref tx, .int (nI (16 * 2)), .ref ob])), (ob, .inl (cB, 16, .inl fo)), (xo, .inl (cI, 16, .inl (xoN 13)))] := hD
      refine lv_dup hx hb dX0_known_159 rfl ?_
      refine lv_bipush (v := nI 13) hx hb dX0_known_160 (by decide) ?_
      refine lv_sipush (v := nI 133) hx hb dX0_known_162 (by decide) ?_
      refine z_iast (k := 13) (g := xoN 14) hx hb hK hP hD hS 2 1 rfl rfl (by decide) (by decide) rfl dX0_known_165 (fun H locs hP hD hS => ?_)
      have hP : va_P (dC, dI) vwCl [(d, .inr (0, [.ref e2, .int (nI 1), .int (nI (0 + 16)), .ref k, .ref n, .ref tx, .int (nI (16 * 2)), .ref ob])), (ob, .inl (cB, 16, .inl fo)), (xo, .inl (cI, 16, .inl (xoN 14)))] H := hP
      have hD : va_D A [(d, .inr (0, [.ref e2, .int (nI 1), .int (nI (0 + 16)), .ref k, .ref n, .ref tx, .int (nI (16 * 2)), .ref ob])), (ob, .inl (cB, 16, .inl fo)), (xo, .inl (cI, 16, .inl (xoN 14)))] := hD
      refine lv_dup hx hb dX0_known_166 rfl ?_
      refine lv_bipush (v := nI 14) hx hb dX0_known_167 (by decide) ?_
      refine lv_sipush (v := nI 153) hx hb dX0_known_169 (by decide) ?_
      refine z_iast (k := 14) (g := xoN 15) hx hb hK hP hD hS 2 1 rfl rfl (by decide) (by decide) rfl dX0_known_172 (fun H locs hP hD hS => ?_)
      have hP : va_P (dC, dI) vwCl [(d, .inr (0, [.ref e2, .int (nI 1), .int (nI (0 + 16)), .ref k, .ref n, .ref tx, .int (nI (16 * 2)), .ref ob])), (ob, .inl (cB, 16, .inl fo)), (xo, .inl (cI, 16, .inl (xoN 15)))] H := hP
      have hD : va_D A [(d, .inr (0, [.ref e2, .int (nI 1), .int (nI (0 + 16)), .ref k, .ref n, .ref tx, .int (nI (16 * 2)), .ref ob])), (ob, .inl (cB, 16, .inl fo)), (xo, .inl (cI, 16, .inl (xoN 15)))] := hD
      refine lv_dup hx hb dX0_known_173 rfl ?_
      refine lv_bipush (v := nI 15) hx hb dX0_known_174 (by decide) ?_
      refine lv_bipush (v := nI 54) hx hb dX0_known_176 (by decide) ?_
      refine z_iast (k := 15) (g := xoN 16) hx hb hK hP hD hS 2 1 rfl rfl (by decide) (by decide) rfl dX0_known_178 (fun H locs hP hD hS => ?_)
      have hP : va_P (dC, dI) vwCl [(d, .inr (0, [.ref e2, .int (nI 1), .int (nI (0 + 16)), .ref k, .ref n, .ref tx, .int (nI (16 * 2)), .ref ob])), (ob, .inl (cB, 16, .inl fo)), (xo, .inl (cI, 16, .inl (xoN 16)))] H := hP
      have hD : va_D A [(d, .inr (0, [.ref e2, .int (nI 1), .int (nI (0 + 16)), .ref k, .ref n, .ref tx, .int (nI (16 * 2)), .ref ob])), (ob, .inl (cB, 16, .inl fo)), (xo, .inl (cI, 16, .inl (xoN 16)))] := hD
      refine lv_astore_n (lv' := [(1, .ref xo), (0, .ref d)]) hx hb dX0_known_179 rfl hl (by decide) rfl (fun ls hl => ?_)
      refine lv_iconst (v := nI 0) hx hb dX0_known_180 (by decide) ?_
      refine lv_istore_n (lv' := [(2, .int (nI 0)), (1, .ref xo), (0, .ref d)]) hx hb dX0_known_181 rfl hl (by decide) rfl (fun ls hl => ?_)
      have loop2 : ∀ (r i : Nat), i + r = 16 → ∀ (ls : Array Slot), lv_has ls 3 [(0, .ref d), (1, .ref xo), (2, .int (nI i))] → W pr l ev (zRm 7 280 21 893) s m ([] : List Value).toArray below meth c H locs (21) (893) (zQi below (nI 1) (fun _ _ => True) A [] s 21 893) (F0 m 182 ls []) := by
        intro r
        induction r with
        | zero =>
          intro i hi ls hl
          obtain rfl : i = 16 := by omega
          refine lv_iload_n hx hb dX0_known_182 rfl (lv_at hl 2 rfl) ?_
          refine lv_bipush (v := nI 16) hx hb dX0_known_183 (by decide) ?_
          refine lv_icmp_ge (tgt := 207) hx hb dX0_known_185 (by decide) (fun _ => ?_) (fun hc => absurd (nI_le (by decide) (by decide)) hc)
          refine lv_iconst (v := nI 1) hx hb dX0_known_207 (by decide) ?_
          exact z_iret hx hb hr hlocks rfl rfl hS (Nat.le_of_ble_eq_true rfl) (Nat.le_of_ble_eq_true rfl) dX0_known_208 (fun t ht => trivial)
        | succ r ih =>
          intro i hi ls hl
          refine lv_iload_n hx hb dX0_known_182 rfl (lv_at hl 2 rfl) ?_
          refine lv_bipush (v := nI 16) hx hb dX0_known_183 (by decide) ?_
          refine lv_icmp_ge (tgt := 207) hx hb dX0_known_185 (by decide) (fun hc => absurd hc (nI_ge (by omega) (by decide))) (fun _ => ?_)
          refine lv_aload_n hx hb dX0_known_188 rfl (lv_at hl 0 rfl) ?_
          refine lv_iload_n hx hb dX0_known_189 rfl (lv_at hl 2 rfl) ?_
          refine z_readV (As := [.int (nI i)]) (rest := []) ⟨hx, hb, hml, hown, hts⟩ (m_X1_out l dC dI cB cI H.size d e2 k n tx ob (nI 1) (nI (0 + 16)) (nI (16 * 2)) 16 i fo (by omega) (by decide)) (cwV 1 hts (lw_V q250 q251 q252 q7 q253) rfl rfl rfl hv_X1_out ⟨Nat.le_of_ble_eq_true rfl, Nat.le_of_ble_eq_true rfl⟩) ⟨zNo_good, trivial⟩ (va_recv hK hP (ci := 0) (q0 := 0) rfl rfl) rfl hl.1 rfl (Nat.le_of_ble_eq_true rfl) dX0_known_190 ⟨Nat.le_of_ble_eq_true rfl, Nat.le_of_ble_eq_true rfl⟩ hS hK hP hD hA [0, 1] rfl (by decide) ?_
          refine lv_aload_n hx hb dX0_known_193 rfl (lv_at hl 1 rfl) ?_
          refine lv_iload_n hx hb dX0_known_194 rfl (lv_at hl 2 rfl) ?_
          refine z_iald (k := i) (v := (xoN 16) i) hx hb hK hP 2 1 rfl rfl (by omega) (by decide) rfl dX0_known_195 ?_
          refine lv_icmp_eq (tgt := 201) hx hb dX0_known_196 (by decide) (fun _ => ?_) (fun hc => absurd (by rw [hfo i (by omega)]; exact known_ok i (by omega)) hc)
          refine lv_iinc (v := nI (i + 1)) (lv' := [(2, .int (nI (i + 1))), (0, .ref d), (1, .ref xo)]) hx hb dX0_known_201 hl (k := 2) rfl (z_inc _ 1) (by decide) rfl (fun ls hl => ?_)
          refine lv_goto (tgt := 182) hx hb dX0_known_204 (by decide) ?_
          exact ih (i + 1) (by omega) ls (lv_sub hl [1, 2, 0] rfl)
      exact loop2 16 0 (by decide) ls (lv_sub hl [2, 1, 0] rfl)
    | succ r ih =>
      intro i hi H locs ls hP hD hS hl
      refine lv_iload_n hx hb dX0_known_10 rfl (lv_at hl 1 rfl) ?_
      refine lv_iconst (v := nI 2) hx hb dX0_known_11 (by decide) ?_
      refine lv_icmp_ge (tgt := 30) hx hb dX0_known_12 (by decide) (fun hc => absurd hc (nI_ge (by omega) (by decide))) (fun _ => ?_)
      refine lv_aload_n hx hb dX0_known_15 rfl (lv_at hl 0 rfl) ?_
      refine lv_iconst (v := nI 0) hx hb dX0_known_16 (by decide) ?_
      refine lv_iconst (v := nI 0) hx hb dX0_known_17 (by decide) ?_
      refine lv_iconst (v := nI 0) hx hb dX0_known_18 (by decide) ?_
      refine lv_iconst (v := nI 0) hx hb dX0_known_19 (by decide) ?_
      refine z_calliV (wr := [(k, .inl (cB, 32, .inl (fun _ => 0))), (n, .inl (cB, 32, .inl (fun _ => 0)))]) (As := [.int (nI 0), .int (nI 0), .int (nI 0), .int (nI 0)]) (rest := []) ⟨hx, hb, hml, hown, hts⟩ (m_X1_put l dC dI cB cI H.size d e k n tx o (nI 0) (nI 0) (16 * i) (by omega) (txt (fun _ => nI 0) i) (nI 0) (nI 0) (nI 0) (nI 0) (by omega)) (cwV 4 hts (lw_V q328 q329 q330 q7 q331) rfl rfl rfl hv_X1_put ⟨Nat.le_of_ble_eq_true rfl, Nat.le_of_ble_eq_true rfl⟩) ⟨zNo_good, trivial⟩ (va_recv hK hP (ci := 0) (q0 := 0) rfl rfl) rfl hl.1 rfl (Nat.le_of_ble_eq_true rfl) dX0_known_20 ⟨Nat.le_of_ble_eq_true rfl, Nat.le_of_ble_eq_true rfl⟩ hS hK hP hD hA [0, 3] [1, 2] rfl (by decide) rfl (by decide) (by decide) (fun A1 t H locs hB J hS => ?_)
      skip
      obtain ⟨hP, hD⟩ := J _ hB
      clear hB J
      have hP : va_P (dC, dI) vwCl [(k, .inl (cB, 32, .inl (fun _ => 0))), (n, .inl (cB, 32, .inl (fun _ => 0))), (d, .inr (0, [.ref e, .int (nI 0), .int (nI 0), .ref k, .ref n, .ref tx, .int (nI (16 * (i + 1))), .ref o])), (tx, .inl (cB, 256, .inl (txt (fun _ => nI 0) (i + 1))))] H := hP
      have hD : va_D A [(k, .inl (cB, 32, .inl (fun _ => 0))), (n, .inl (cB, 32, .inl (fun _ => 0))), (d, .inr (0, [.ref e, .int (nI 0), .int (nI 0), .ref k, .ref n, .ref tx, .int (nI (16 * (i + 1))), .ref o])), (tx, .inl (cB, 256, .inl (txt (fun _ => nI 0) (i + 1))))] := hD
      refine lv_pop hx hb dX0_known_23 rfl ?_
      refine lv_iinc (v := nI (i + 1)) (lv' := [(1, .int (nI (i + 1))), (0, .ref d)]) hx hb dX0_known_24 hl (k := 1) rfl (z_inc _ 1) (by decide) rfl (fun ls hl => ?_)
      refine lv_goto (tgt := 10) hx hb dX0_known_27 (by decide) ?_
      have hP := z_subP hP [2, 0, 1, 3] (ws' := [(d, .inr (0, [.ref e, .int (nI 0), .int (nI 0), .ref k, .ref n, .ref tx, .int (nI (16 * (i + 1))), .ref o])), (k, .inl (cB, 32, .inl (fun _ => 0))), (n, .inl (cB, 32, .inl (fun _ => 0))), (tx, .inl (cB, 256, .inl (txt (fun _ => nI 0) (i + 1))))]) rfl
      have hD := hD.sub (ws' := [(d, .inr (0, [.ref e, .int (nI 0), .int (nI 0), .ref k, .ref n, .ref tx, .int (nI (16 * (i + 1))), .ref o])), (k, .inl (cB, 32, .inl (fun _ => 0))), (n, .inl (cB, 32, .inl (fun _ => 0))), (tx, .inl (cB, 256, .inl (txt (fun _ => nI 0) (i + 1))))]) [2, 0, 1, 3] (by decide) rfl
      exact ih (i + 1) (by omega) H locs ls hP hD hS (lv_sub hl [1, 0] rfl)
  exact loop 2 0 (by decide) H locs ls hP hD hS (lv_sub hl [1, 0] rfl)
end
section
/-! THE CLAIM -/
set_option maxRecDepth 100000
/-! THE CLAIM OUT OF ONE WALK OF THE LAW'S BODY. Your part is whole_start (and what it stands on); all else here is the same for every law, but numbers. -/
def R_law : String := "SalsaDeskLaw"
def lw_P (b : Addr) (xs : List Int32) (args : Array Value) (s : State) : Prop := args = #[.ref b] ∧ s.IntsAt b xs ∧ xs.length ≤ 64 ∧ (Jvm.Cond.and given_1 narrow_1).before args s = true
def lw_Q (_ : Array Value) (s : State) (o : Outcome) (t : State) : Prop := o = .returned (some (.int 1)) ∧ Framed s o t [] 600128 7301098
def lw_Z (below : List Frame) (a : Array Value) (s : State) : State → Prop := fun t => ∃ o, t.status = .running ∧ Ended t below o ∧ lw_Q a s o t
/-- the law's own end, with 1 on the stack, nothing written that was there before, its room as the claim has it -/
theorem lw_ret {p : Program} {l : Launch} {e : Env} {s : State} {m : MethodId} {below : List Frame} {meth : Method} {c : Code} {b : Nat} (hx : p.tables.exec = Jvm.exec) (hb : c.code = code) (hr : meth.sig.returnType = ret) (hlocks : meth.locks = false) {pc : Nat} {H : Heap} {ls : Array Slot} (hdg : decode code pc = .ok (.ireturn, 1)) : W p l e room_1 s m #[Value.ref b] below meth c H [] 600128 7301098 (lw_Z below #[Value.ref b] s) (F0 m pc ls [.int 1]) := by
  intro T hT X
  obtain ⟨fs, hret, hrun, hended, hW, hframe⟩ := X.leave (v := some (.int 1)) (hlocks := hlocks) (fun h => by rw [hr] at h; cases h)
  have hmeth' : T.vm.method? m = some meth := X.method'
  refine ⟨T.setFrames fs, ?_, .returned (some (.int 1)), hrun, hended, rfl, ⟨_, rfl⟩, hW, hframe⟩
  jvm_step X.here [X.here.top, hx, hb, hdg, hmeth', hr, ret, narrow_b1]
  (try refine ⟨rfl, ?_⟩); (try refine ⟨rfl, ?_⟩)
  first | (intro acts; rw [hret _ acts rfl rfl rfl]) | rw [hret _ _ rfl rfl rfl]
  exact Steps.refl _
/-- what holds at the law's entry: the machine, the code, the tables' words (any of lw_tbl by 'hts w (by decide +kernel)'), the script of L ints xs at the cell b, what the Statement gives of the start (any of its parts by flat_of_before) -/
def lw_At (p : Program) (s : State) (m : MethodId) (meth : Method) (c : Code) (b L : Nat) (xs : Nat → Int32) : Prop :=
  p.tables.exec = Jvm.exec ∧ c.code = code ∧ meth.sig.returnType = ret ∧ c.maxLocals = 10 ∧ s.vm.findClass R_law = some m.cls ∧ (∀ w ∈ lw_tbl, w.before #[Value.ref b] s = true) ∧ va_X b L xs s s.heap ∧ b < s.heap.size ∧ meth.locks = false ∧ (Jvm.Cond.and given_1 narrow_1).before #[Value.ref b] s = true
/-- the array types' numbers, known at the start -/
theorem z_arrs {args : Array Value} {s : State} {ty : FieldType} (h : (Cond.arrayClass ty).before args s = true) : ∃ cA : ClassId, ArrOfT s cA ty ∧ s.vm.findClass ("[" ++ ty.toString) = some cA := by
  obtain ⟨cA, kA, comp, h1, h2, h3⟩ := Cond.arrayClass_spec h
  exact ⟨cA, fun n z => ⟨fun k h => (by cases h), kA, h2, comp, h3⟩, h1⟩
/-- the table's cells, as the Statement gives them -/
theorem z_tauOf {args : Array Value} {s : State} {A : Nat → Prop} (hts : ∀ w ∈ lw_tbl, w.before args s = true) (hg : (Jvm.Cond.and given_1 narrow_1).before args s = true) (hA : ∀ a : Nat, a < s.heap.size → ¬ A a) : ∃ tt : Nat, zET tt A s := by
  have hs := flat_of_before _ hg
  have harr : (Cond.arrayOf (Term.static "Salsa20Engine" "TAU_SIGMA" "[I") .int).before args s = true := hs _ (by decide +kernel)
  have hlen : (Cond.eq (Term.length (Term.static "Salsa20Engine" "TAU_SIGMA" "[I")) (Term.int (8 : Int32))).before args s = true := hs _ (by decide +kernel)
  have e0 : (Cond.eq (Term.elem (Term.static "Salsa20Engine" "TAU_SIGMA" "[I") (Term.int (0 : Int32))) (Term.int (1634760805 : Int32))).before args s = true := hs _ (by decide +kernel)
  have e1 : (Cond.eq (Term.elem (Term.static "Salsa20Engine" "TAU_SIGMA" "[I") (Term.int (1 : Int32))) (Term.int (824206446 : Int32))).before args s = true := hs _ (by decide +kernel)
  have e2 : (Cond.eq (Term.elem (Term.static "Salsa20Engine" "TAU_SIGMA" "[I") (Term.int (2 : Int32))) (Term.int (2036477238 : Int32))).before args s = true := hs _ (by decide +kernel)
  have e3 : (Cond.eq (Term.elem (Term.static "Salsa20Engine" "TAU_SIGMA" "[I") (Term.int (3 : Int32))) (Term.int (1797285236 : Int32))).before args s = true := hs _ (by decide +kernel)
  have e4 : (Cond.eq (Term.elem (Term.static "Salsa20Engine" "TAU_SIGMA" "[I") (Term.int (4 : Int32))) (Term.int (1634760805 : Int32))).before args s = true := hs _ (by decide +kernel)
  have e5 : (Cond.eq (Term.elem (Term.static "Salsa20Engine" "TAU_SIGMA" "[I") (Term.int (5 : Int32))) (Term.int (857760878 : Int32))).before args s = true := hs _ (by decide +kernel)
  have e6 : (Cond.eq (Term.elem (Term.static "Salsa20Engine" "TAU_SIGMA" "[I") (Term.int (6 : Int32))) (Term.int (2036477234 : Int32))).before args s = true := hs _ (by decide +kernel)
  have e7 : (Cond.eq (Term.elem (Term.static "Salsa20Engine" "TAU_SIGMA" "[I") (Term.int (7 : Int32))) (Term.int (1797285236 : Int32))).before args s = true := hs _ (by decide +kernel)
  obtain ⟨tt, h1, h2⟩ := va_Tof (tm := Term.static "Salsa20Engine" "TAU_SIGMA" "[I") (ty := .int) (N := 8) (f := fun j => .int (zTau j)) (A := A) (by decide) harr (va_eqt hlen) (fun j hj => by
    rcases (show j = 0 ∨ j = 1 ∨ j = 2 ∨ j = 3 ∨ j = 4 ∨ j = 5 ∨ j = 6 ∨ j = 7 by omega) with rfl | rfl | rfl | rfl | rfl | rfl | rfl | rfl
    · exact va_eqt e0
    · exact va_eqt e1
    · exact va_eqt e2
    · exact va_eqt e3
    · exact va_eqt e4
    · exact va_eqt e5
    · exact va_eqt e6
    · exact va_eqt e7) hA
  exact ⟨tt, va_Zref (hts _ q409) (hts _ (lw_all_tbl q8)) h1 hA, h2⟩
set_option maxHeartbeats 8000000 in
set_option maxRecDepth 100000 in
theorem whole_start {p : Program} {e : Env} {s : State} {m : MethodId} {below : List Frame} {meth : Method} {c : Code} (l : Launch) (hflags : l.flags = flags0) {b L : Nat} {xs : Nat → Int32} (hL : L ≤ 64) (C0 : lw_At p s m meth c b L xs) : W p l e room_1 s m #[Value.ref b] below meth c s.heap [] 0 0 (lw_Z below #[Value.ref b] s) (entryFrame m ([Value.ref b] : List Value).toArray 10) := by
  obtain ⟨hx, hb, hr, hml, hown, hts0, hX, hbl, hlocks, hgv⟩ := C0
  have hts : ∀ w ∈ lw_all, w.before #[Value.ref b] s = true := fun w h => hts0 w (lw_all_tbl h)
  obtain ⟨c0, i0, hKn0⟩ := u_known (C := RX1) (T := TX1) (N := 8) (n := 8) hts in_X1 (hts _ q31)
  obtain ⟨c1, i1, hKn1⟩ := u_known (C := RX2) (T := TX2) (N := 9) (n := 9) hts in_X2 (hts _ q154)
  obtain ⟨c2, i2, hKn2⟩ := u_known (C := RX3) (T := TX3) (N := 2) (n := 2) hts in_X3 (hts _ q352)
  obtain ⟨c3, i3, hKn3⟩ := u_known (C := RX4) (T := TX4) (N := 1) (n := 1) hts in_X4 (hts _ q354)
  obtain ⟨dC, dI, hKc⟩ : ∃ (dC : Nat → ClassId) (dI : Nat → Nat → Nat), ∀ (k : Nat) (q : vw_C), vwCl[k]? = some q → u_Kn s q.1 q.2.1 q.2.2 (dC k) (dI k) := by
    refine ⟨fun k => match k with | 0 => c0 | 1 => c1 | 2 => c2 | _ => c3, fun k => match k with | 0 => i0 | 1 => i1 | 2 => i2 | _ => i3, ?_⟩
    intro k q hq
    match k, hq with
    | 0, hq => cases hq; exact hKn0
    | 1, hq => cases hq; exact hKn1
    | 2, hq => cases hq; exact hKn2
    | 3, hq => cases hq; exact hKn3
    | k + 4, hq => simp [vwCl] at hq
  obtain ⟨cB, hB1, hB2⟩ := z_arrs (hts _ q113)
  obtain ⟨cI, hI1, hI2⟩ := z_arrs (hts _ q302)
  have hK : va_K (dC, dI) vwCl (zTy cB cI) s := by
    refine ⟨hKc, fun k q hq => ?_⟩
    match k, hq with
    | 0, hq => cases hq; exact ⟨hB1, hB2⟩
    | 1, hq => cases hq; exact ⟨hI1, hI2⟩
    | k + 2, hq => simp [zTy] at hq
  obtain ⟨A, hAe⟩ : ∃ A : Nat → Prop, A = fun q : Nat => s.heap.size ≤ q := ⟨_, rfl⟩
  have hA : ∀ q : Nat, s.heap.size ≤ q → A q := fun q h => by rw [hAe]; exact h
  have hAr : ∀ q : Nat, A q → s.heap.size ≤ q := fun q h => by rw [hAe] at h; exact h
  have hAn : ∀ q : Nat, q < s.heap.size → ¬ A q := fun q h h1 => absurd (hAr q h1) (Nat.not_le.mpr h)
  obtain ⟨tt, hTau⟩ := z_tauOf (A := A) hts0 hgv hAn
  have hE : zEB tt b L xs A s := ⟨hTau, hX, hbl, hAn b hbl⟩
  clear hAe
  have hS : va_S A s.heap s.heap [] := va_S.rf
  have hP : va_P (dC, dI) vwCl [] s.heap := fun k q h => by simp at h
  have hD : va_D A [] := ⟨fun i j p q h => by simp at h, fun k q h => by simp at h⟩
  have hl := lv_entry ([.ref b]) (n := 10) (Nat.le_of_ble_eq_true rfl)
  rw [lg_entry_eq]
  generalize (lg_sl ([.ref b]) ++ List.replicate (10 - (lg_sl ([.ref b])).length) Slot.unset).toArray = ls at hl ⊢
  have hl : lv_has ls 10 [(0, .ref b)] := hl
  refine z_calliS (wr := []) (As := []) (rest := []) ⟨hx, hb, hml, hown, hts⟩ (m_X0_known l dC dI cB cI s.heap.size tt) (va_cwS 0 hts (lw_S q422 q423 q6 q424) rfl rfl rfl hd_X0_known ⟨Nat.le_of_ble_eq_true rfl, Nat.le_of_ble_eq_true rfl⟩) ⟨zET_good tt, hE.1⟩ rfl hl.1 rfl (Nat.le_of_ble_eq_true rfl) dL_law_0 ⟨Nat.le_of_ble_eq_true rfl, Nat.le_of_ble_eq_true rfl⟩ hS hK hP hD hA [] [] rfl (by decide) rfl (by decide) (by decide) (fun A1 t H locs _ _ hS => ?_)
  have hP : va_P (dC, dI) vwCl [] H := fun k q h => by simp at h
  refine lv_if_ne (tgt := 8) hx hb dL_law_3 (by decide) (fun _ => ?_) (fun hc => absurd hc (by decide))
  refine lv_aload_n hx hb dL_law_8 rfl (lv_at hl 0 rfl) ?_
  refine z_callrS (wr := []) (As := [.ref b]) (rest := []) ⟨hx, hb, hml, hown, hts⟩ (m_X0_made l dC dI cB cI H.size tt b L xs hL) (va_cwS 1 hts (lw_S q257 q258 q6 q259) rfl rfl rfl hd_X0_made ⟨Nat.le_of_ble_eq_true rfl, Nat.le_of_ble_eq_true rfl⟩) ⟨zEB_good tt b L xs, hE⟩ rfl hl.1 rfl (Nat.le_of_ble_eq_true rfl) dL_law_9 ⟨Nat.le_of_ble_eq_true rfl, Nat.le_of_ble_eq_true rfl⟩ hS hK hP hD hA [] [] rfl (by decide) rfl (by decide) (by decide) (fun ra_ A1 t H locs hB J hS => ?_)
  obtain ⟨d1, rfl⟩ : ∃ z, z = ra_ := ⟨_, rfl⟩
  obtain ⟨e1, es1, x1, ks1, k1, n1, tx1, o1, xt1, kt1, hk1, hB⟩ := hB
  obtain ⟨hP, hD⟩ := J _ hB
  clear hB J
  have hP : va_P (dC, dI) vwCl [(d1, .inr (0, [.ref e1, .int (nI 1), .int (nI 0), .ref k1, .ref n1, .ref tx1, .int (nI (m31 (cvf L xs 13) % 129)), .ref o1])), (tx1, .inl (cB, 256, .inl (txt (cvf L xs) 8))), (e1, .inr (1, [.int (nI 20), .int (nI 0), .ref es1, .ref x1, .ref ks1, .int (nI 1), .int (nI 0), .int (nI 0), .int (nI 0)])), (es1, .inl (cI, 16, .inl (madeE (cvf L xs)))), (x1, .inl (cI, 16, .inl xt1)), (ks1, .inl (cB, 64, .inl kt1))] H := hP
  have hD : va_D A [(d1, .inr (0, [.ref e1, .int (nI 1), .int (nI 0), .ref k1, .ref n1, .ref tx1, .int (nI (m31 (cvf L xs 13) % 129)), .ref o1])), (tx1, .inl (cB, 256, .inl (txt (cvf L xs) 8))), (e1, .inr (1, [.int (nI 20), .int (nI 0), .ref es1, .ref x1, .ref ks1, .int (nI 1), .int (nI 0), .int (nI 0), .int (nI 0)])), (es1, .inl (cI, 16, .inl (madeE (cvf L xs)))), (x1, .inl (cI, 16, .inl xt1)), (ks1, .inl (cB, 64, .inl kt1))] := hD
  refine lv_astore_n (lv' := [(1, .ref d1), (0, .ref b)]) hx hb dL_law_12 rfl hl (by decide) rfl (fun ls hl => ?_)
  refine lv_aload_n hx hb dL_law_13 rfl (lv_at hl 1 rfl) ?_
  refine z_callrS (wr := [(d1, .inr (0, [.ref e1, .int (nI 1), .int (nI 0), .ref k1, .ref n1, .ref tx1, .int (nI (m31 (cvf L xs 13) % 129)), .ref o1])), (tx1, .inl (cB, 256, .inl (txt (cvf L xs) 8))), (e1, .inr (1, [.int (nI 20), .int (nI 0), .ref es1, .ref x1, .ref ks1, .int (nI 1), .int (nI 0), .int (nI 0), .int (nI 0)])), (es1, .inl (cI, 16, .inl (madeE (cvf L xs)))), (x1, .inl (cI, 16, .inl xt1)), (ks1, .inl (cB, 64, .inl kt1))]) (As := [.ref b]) (rest := []) ⟨hx, hb, hml, hown, hts⟩ (m_X0_made l dC dI cB cI H.size tt b L xs hL) (va_cwS 1 hts (lw_S q257 q258 q6 q259) rfl rfl rfl hd_X0_made ⟨Nat.le_of_ble_eq_true rfl, Nat.le_of_ble_eq_true rfl⟩) ⟨zEB_good tt b L xs, hE⟩ rfl hl.1 rfl (Nat.le_of_ble_eq_true rfl) dL_law_14 ⟨Nat.le_of_ble_eq_true rfl, Nat.le_of_ble_eq_true rfl⟩ hS hK hP hD hA [] [0, 1, 2, 3, 4, 5] rfl (by decide) rfl (by decide) (by decide) (fun ra_ A1 t H locs hB J hS => ?_)
  obtain ⟨d2, rfl⟩ : ∃ z, z = ra_ := ⟨_, rfl⟩
  obtain ⟨e2, es2, x2, ks2, k2, n2, tx2, o2, xt2, kt2, hk2, hB⟩ := hB
  obtain ⟨hP, hD⟩ := J _ hB
  clear hB J
  have hP : va_P (dC, dI) vwCl [(d1, .inr (0, [.ref e1, .int (nI 1), .int (nI 0), .ref k1, .ref n1, .ref tx1, .int (nI (m31 (cvf L xs 13) % 129)), .ref o1])), (tx1, .inl (cB, 256, .inl (txt (cvf L xs) 8))), (e1, .inr (1, [.int (nI 20), .int (nI 0), .ref es1, .ref x1, .ref ks1, .int (nI 1), .int (nI 0), .int (nI 0), .int (nI 0)])), (es1, .inl (cI, 16, .inl (madeE (cvf L xs)))), (x1, .inl (cI, 16, .inl xt1)), (ks1, .inl (cB, 64, .inl kt1)), (d2, .inr (0, [.ref e2, .int (nI 1), .int (nI 0), .ref k2, .ref n2, .ref tx2, .int (nI (m31 (cvf L xs 13) % 129)), .ref o2])), (tx2, .inl (cB, 256, .inl (txt (cvf L xs) 8))), (e2, .inr (1, [.int (nI 20), .int (nI 0), .ref es2, .ref x2, .ref ks2, .int (nI 1), .int (nI 0), .int (nI 0), .int (nI 0)])), (es2, .inl (cI, 16, .inl (madeE (cvf L xs)))), (x2, .inl (cI, 16, .inl xt2)), (ks2, .inl (cB, 64, .inl kt2))] H := hP
  have hD : va_D A [(d1, .inr (0, [.ref e1, .int (nI 1), .int (nI 0), .ref k1, .ref n1, .ref tx1, .int (nI (m31 (cvf L xs 13) % 129)), .ref o1])), (tx1, .inl (cB, 256, .inl (txt (cvf L xs) 8))), (e1, .inr (1, [.int (nI 20), .int (nI 0), .ref es1, .ref x1, .ref ks1, .int (nI 1), .int (nI 0), .int (nI 0), .int (nI 0)])), (es1, .inl (cI, 16, .inl (madeE (cvf L xs)))), (x1, .inl (cI, 16, .inl xt1)), (ks1, .inl (cB, 64, .inl kt1)), (d2, .inr (0, [.ref e2, .int (nI 1), .int (nI 0), .ref k2, .ref n2, .ref tx2, .int (nI (m31 (cvf L xs 13) % 129)), .ref o2])), (tx2, .inl (cB, 256, .inl (txt (cvf L xs) 8))), (e2, .inr (1, [.int (nI 20), .int (nI 0), .ref es2, .ref x2, .ref ks2, .int (nI 1), .int (nI 0), .int (nI 0), .int (nI 0)])), (es2, .inl (cI, 16, .inl (madeE (cvf L xs)))), (x2, .inl (cI, 16, .inl xt2)), (ks2, .inl (cB, 64, .inl kt2))] := hD
  refine lv_astore_n (lv' := [(2, .ref d2), (1, .ref d1), (0, .ref b)]) hx hb dL_law_17 rfl hl (by decide) rfl (fun ls hl => ?_)
  refine lv_aload_n hx hb dL_law_18 rfl (lv_at hl 2 rfl) ?_
  refine z_callrS (wr := [(d1, .inr (0, [.ref e1, .int (nI 1), .int (nI 0), .ref k1, .ref n1, .ref tx1, .int (nI (m31 (cvf L xs 13) % 129)), .ref o1])), (tx1, .inl (cB, 256, .inl (txt (cvf L xs) 8))), (e1, .inr (1, [.int (nI 20), .int (nI 0), .ref es1, .ref x1, .ref ks1, .int (nI 1), .int (nI 0), .int (nI 0), .int (nI 0)])), (es1, .inl (cI, 16, .inl (madeE (cvf L xs)))), (x1, .inl (cI, 16, .inl xt1)), (ks1, .inl (cB, 64, .inl kt1)), (d2, .inr (0, [.ref e2, .int (nI 1), .int (nI 0), .ref k2, .ref n2, .ref tx2, .int (nI (m31 (cvf L xs 13) % 129)), .ref o2])), (tx2, .inl (cB, 256, .inl (txt (cvf L xs) 8))), (e2, .inr (1, [.int (nI 20), .int (nI 0), .ref es2, .ref x2, .ref ks2, .int (nI 1), .int (nI 0), .int (nI 0), .int (nI 0)])), (es2, .inl (cI, 16, .inl (madeE (cvf L xs)))), (x2, .inl (cI, 16, .inl xt2)), (ks2, .inl (cB, 64, .inl kt2))]) (As := [.ref b]) (rest := []) ⟨hx, hb, hml, hown, hts⟩ (m_X0_made l dC dI cB cI H.size tt b L xs hL) (va_cwS 1 hts (lw_S q257 q258 q6 q259) rfl rfl rfl hd_X0_made ⟨Nat.le_of_ble_eq_true rfl, Nat.le_of_ble_eq_true rfl⟩) ⟨zEB_good tt b L xs, hE⟩ rfl hl.1 rfl (Nat.le_of_ble_eq_true rfl) dL_law_19 ⟨Nat.le_of_ble_eq_true rfl, Nat.le_of_ble_eq_true rfl⟩ hS hK hP hD hA [] [0, 1, 2, 3, 4, 5, 6, 7, 8, 9, 10, 11] rfl (by decide) rfl (by decide) (by decide) (fun ra_ A1 t H locs hB J hS => ?_)
  obtain ⟨d3, rfl⟩ : ∃ z, z = ra_ := ⟨_, rfl⟩
  obtain ⟨e3, es3, x3, ks3, k3, n3, tx3, o3, xt3, kt3, hk3, hB⟩ := hB
  obtain ⟨hP, hD⟩ := J _ hB
  clear hB J
  have hP : va_P (dC, dI) vwCl [(d1, .inr (0, [.ref e1, .int (nI 1), .int (nI 0), .ref k1, .ref n1, .ref tx1, .int (nI (m31 (cvf L xs 13) % 129)), .ref o1])), (tx1, .inl (cB, 256, .inl (txt (cvf L xs) 8))), (e1, .inr (1, [.int (nI 20), .int (nI 0), .ref es1, .ref x1, .ref ks1, .int (nI 1), .int (nI 0), .int (nI 0), .int (nI 0)])), (es1, .inl (cI, 16, .inl (madeE (cvf L xs)))), (x1, .inl (cI, 16, .inl xt1)), (ks1, .inl (cB, 64, .inl kt1)), (d2, .inr (0, [.ref e2, .int (nI 1), .int (nI 0), .ref k2, .ref n2, .ref tx2, .int (nI (m31 (cvf L xs 13) % 129)), .ref o2])), (tx2, .inl (cB, 256, .inl (txt (cvf L xs) 8))), (e2, .inr (1, [.int (nI 20), .int (nI 0), .ref es2, .ref x2, .ref ks2, .int (nI 1), .int (nI 0), .int (nI 0), .int (nI 0)])), (es2, .inl (cI, 16, .inl (madeE (cvf L xs)))), (x2, .inl (cI, 16, .inl xt2)), (ks2, .inl (cB, 64, .inl kt2)), (d3, .inr (0, [.ref e3, .int (nI 1), .int (nI 0), .ref k3, .ref n3, .ref tx3, .int (nI (m31 (cvf L xs 13) % 129)), .ref o3])), (tx3, .inl (cB, 256, .inl (txt (cvf L xs) 8))), (e3, .inr (1, [.int (nI 20), .int (nI 0), .ref es3, .ref x3, .ref ks3, .int (nI 1), .int (nI 0), .int (nI 0), .int (nI 0)])), (es3, .inl (cI, 16, .inl (madeE (cvf L xs)))), (x3, .inl (cI, 16, .inl xt3)), (ks3, .inl (cB, 64, .inl kt3))] H := hP
  have hD : va_D A [(d1, .inr (0, [.ref e1, .int (nI 1), .int (nI 0), .ref k1, .ref n1, .ref tx1, .int (nI (m31 (cvf L xs 13) % 129)), .ref o1])), (tx1, .inl (cB, 256, .inl (txt (cvf L xs) 8))), (e1, .inr (1, [.int (nI 20), .int (nI 0), .ref es1, .ref x1, .ref ks1, .int (nI 1), .int (nI 0), .int (nI 0), .int (nI 0)])), (es1, .inl (cI, 16, .inl (madeE (cvf L xs)))), (x1, .inl (cI, 16, .inl xt1)), (ks1, .inl (cB, 64, .inl kt1)), (d2, .inr (0, [.ref e2, .int (nI 1), .int (nI 0), .ref k2, .ref n2, .ref tx2, .int (nI (m31 (cvf L xs 13) % 129)), .ref o2])), (tx2, .inl (cB, 256, .inl (txt (cvf L xs) 8))), (e2, .inr (1, [.int (nI 20), .int (nI 0), .ref es2, .ref x2, .ref ks2, .int (nI 1), .int (nI 0), .int (nI 0), .int (nI 0)])), (es2, .inl (cI, 16, .inl (madeE (cvf L xs)))), (x2, .inl (cI, 16, .inl xt2)), (ks2, .inl (cB, 64, .inl kt2)), (d3, .inr (0, [.ref e3, .int (nI 1), .int (nI 0), .ref k3, .ref n3, .ref tx3, .int (nI (m31 (cvf L xs 13) % 129)), .ref o3])), (tx3, .inl (cB, 256, .inl (txt (cvf L xs) 8))), (e3, .inr (1, [.int (nI 20), .int (nI 0), .ref es3, .ref x3, .ref ks3, .int (nI 1), .int (nI 0), .int (nI 0), .int (nI 0)])), (es3, .inl (cI, 16, .inl (madeE (cvf L xs)))), (x3, .inl (cI, 16, .inl xt3)), (ks3, .inl (cB, 64, .inl kt3))] := hD
  refine lv_astore_n (lv' := [(3, .ref d3), (2, .ref d2), (1, .ref d1), (0, .ref b)]) hx hb dL_law_22 rfl hl (by decide) rfl (fun ls hl => ?_)
  refine lv_aload_n hx hb dL_law_23 rfl (lv_at hl 3 rfl) ?_
  refine z_callrS (wr := [(d1, .inr (0, [.ref e1, .int (nI 1), .int (nI 0), .ref k1, .ref n1, .ref tx1, .int (nI (m31 (cvf L xs 13) % 129)), .ref o1])), (tx1, .inl (cB, 256, .inl (txt (cvf L xs) 8))), (e1, .inr (1, [.int (nI 20), .int (nI 0), .ref es1, .ref x1, .ref ks1, .int (nI 1), .int (nI 0), .int (nI 0), .int (nI 0)])), (es1, .inl (cI, 16, .inl (madeE (cvf L xs)))), (x1, .inl (cI, 16, .inl xt1)), (ks1, .inl (cB, 64, .inl kt1)), (d2, .inr (0, [.ref e2, .int (nI 1), .int (nI 0), .ref k2, .ref n2, .ref tx2, .int (nI (m31 (cvf L xs 13) % 129)), .ref o2])), (tx2, .inl (cB, 256, .inl (txt (cvf L xs) 8))), (e2, .inr (1, [.int (nI 20), .int (nI 0), .ref es2, .ref x2, .ref ks2, .int (nI 1), .int (nI 0), .int (nI 0), .int (nI 0)])), (es2, .inl (cI, 16, .inl (madeE (cvf L xs)))), (x2, .inl (cI, 16, .inl xt2)), (ks2, .inl (cB, 64, .inl kt2)), (d3, .inr (0, [.ref e3, .int (nI 1), .int (nI 0), .ref k3, .ref n3, .ref tx3, .int (nI (m31 (cvf L xs 13) % 129)), .ref o3])), (tx3, .inl (cB, 256, .inl (txt (cvf L xs) 8))), (e3, .inr (1, [.int (nI 20), .int (nI 0), .ref es3, .ref x3, .ref ks3, .int (nI 1), .int (nI 0), .int (nI 0), .int (nI 0)])), (es3, .inl (cI, 16, .inl (madeE (cvf L xs)))), (x3, .inl (cI, 16, .inl xt3)), (ks3, .inl (cB, 64, .inl kt3))]) (As := [.ref b]) (rest := []) ⟨hx, hb, hml, hown, hts⟩ (m_X0_made l dC dI cB cI H.size tt b L xs hL) (va_cwS 1 hts (lw_S q257 q258 q6 q259) rfl rfl rfl hd_X0_made ⟨Nat.le_of_ble_eq_true rfl, Nat.le_of_ble_eq_true rfl⟩) ⟨zEB_good tt b L xs, hE⟩ rfl hl.1 rfl (Nat.le_of_ble_eq_true rfl) dL_law_24 ⟨Nat.le_of_ble_eq_true rfl, Nat.le_of_ble_eq_true rfl⟩ hS hK hP hD hA [] [0, 1, 2, 3, 4, 5, 6, 7, 8, 9, 10, 11, 12, 13, 14, 15, 16, 17] rfl (by decide) rfl (by decide) (by decide) (fun ra_ A1 t H locs hB J hS => ?_)
  obtain ⟨d4, rfl⟩ : ∃ z, z = ra_ := ⟨_, rfl⟩
  obtain ⟨e4, es4, x4, ks4, k4, n4, tx4, o4, xt4, kt4, hk4, hB⟩ := hB
  obtain ⟨hP, hD⟩ := J _ hB
  clear hB J
  have hP : va_P (dC, dI) vwCl [(d1, .inr (0, [.ref e1, .int (nI 1), .int (nI 0), .ref k1, .ref n1, .ref tx1, .int (nI (m31 (cvf L xs 13) % 129)), .ref o1])), (tx1, .inl (cB, 256, .inl (txt (cvf L xs) 8))), (e1, .inr (1, [.int (nI 20), .int (nI 0), .ref es1, .ref x1, .ref ks1, .int (nI 1), .int (nI 0), .int (nI 0), .int (nI 0)])), (es1, .inl (cI, 16, .inl (madeE (cvf L xs)))), (x1, .inl (cI, 16, .inl xt1)), (ks1, .inl (cB, 64, .inl kt1)), (d2, .inr (0, [.ref e2, .int (nI 1), .int (nI 0), .ref k2, .ref n2, .ref tx2, .int (nI (m31 (cvf L xs 13) % 129)), .ref o2])), (tx2, .inl (cB, 256, .inl (txt (cvf L xs) 8))), (e2, .inr (1, [.int (nI 20), .int (nI 0), .ref es2, .ref x2, .ref ks2, .int (nI 1), .int (nI 0), .int (nI 0), .int (nI 0)])), (es2, .inl (cI, 16, .inl (madeE (cvf L xs)))), (x2, .inl (cI, 16, .inl xt2)), (ks2, .inl (cB, 64, .inl kt2)), (d3, .inr (0, [.ref e3, .int (nI 1), .int (nI 0), .ref k3, .ref n3, .ref tx3, .int (nI (m31 (cvf L xs 13) % 129)), .ref o3])), (tx3, .inl (cB, 256, .inl (txt (cvf L xs) 8))), (e3, .inr (1, [.int (nI 20), .int (nI 0), .ref es3, .ref x3, .ref ks3, .int (nI 1), .int (nI 0), .int (nI 0), .int (nI 0)])), (es3, .inl (cI, 16, .inl (madeE (cvf L xs)))), (x3, .inl (cI, 16, .inl xt3)), (ks3, .inl (cB, 64, .inl kt3)), (d4, .inr (0, [.ref e4, .int (nI 1), .int (nI 0), .ref k4, .ref n4, .ref tx4, .int (nI (m31 (cvf L xs 13) % 129)), .ref o4])), (tx4, .inl (cB, 256, .inl (txt (cvf L xs) 8))), (e4, .inr (1, [.int (nI 20), .int (nI 0), .ref es4, .ref x4, .ref ks4, .int (nI 1), .int (nI 0), .int (nI 0), .int (nI 0)])), (es4, .inl (cI, 16, .inl (madeE (cvf L xs)))), (x4, .inl (cI, 16, .inl xt4)), (ks4, .inl (cB, 64, .inl kt4))] H := hP
  have hD : va_D A [(d1, .inr (0, [.ref e1, .int (nI 1), .int (nI 0), .ref k1, .ref n1, .ref tx1, .int (nI (m31 (cvf L xs 13) % 129)), .ref o1])), (tx1, .inl (cB, 256, .inl (txt (cvf L xs) 8))), (e1, .inr (1, [.int (nI 20), .int (nI 0), .ref es1, .ref x1, .ref ks1, .int (nI 1), .int (nI 0), .int (nI 0), .int (nI 0)])), (es1, .inl (cI, 16, .inl (madeE (cvf L xs)))), (x1, .inl (cI, 16, .inl xt1)), (ks1, .inl (cB, 64, .inl kt1)), (d2, .inr (0, [.ref e2, .int (nI 1), .int (nI 0), .ref k2, .ref n2, .ref tx2, .int (nI (m31 (cvf L xs 13) % 129)), .ref o2])), (tx2, .inl (cB, 256, .inl (txt (cvf L xs) 8))), (e2, .inr (1, [.int (nI 20), .int (nI 0), .ref es2, .ref x2, .ref ks2, .int (nI 1), .int (nI 0), .int (nI 0), .int (nI 0)])), (es2, .inl (cI, 16, .inl (madeE (cvf L xs)))), (x2, .inl (cI, 16, .inl xt2)), (ks2, .inl (cB, 64, .inl kt2)), (d3, .inr (0, [.ref e3, .int (nI 1), .int (nI 0), .ref k3, .ref n3, .ref tx3, .int (nI (m31 (cvf L xs 13) % 129)), .ref o3])), (tx3, .inl (cB, 256, .inl (txt (cvf L xs) 8))), (e3, .inr (1, [.int (nI 20), .int (nI 0), .ref es3, .ref x3, .ref ks3, .int (nI 1), .int (nI 0), .int (nI 0), .int (nI 0)])), (es3, .inl (cI, 16, .inl (madeE (cvf L xs)))), (x3, .inl (cI, 16, .inl xt3)), (ks3, .inl (cB, 64, .inl kt3)), (d4, .inr (0, [.ref e4, .int (nI 1), .int (nI 0), .ref k4, .ref n4, .ref tx4, .int (nI (m31 (cvf L xs 13) % 129)), .ref o4])), (tx4, .inl (cB, 256, .inl (txt (cvf L xs) 8))), (e4, .inr (1, [.int (nI 20), .int (nI 0), .ref es4, .ref x4, .ref ks4, .int (nI 1), .int (nI 0), .int (nI 0), .int (nI 0)])), (es4, .inl (cI, 16, .inl (madeE (cvf L xs)))), (x4, .inl (cI, 16, .inl xt4)), (ks4, .inl (cB, 64, .inl kt4))] := hD
  refine lv_astore (lv' := [(4, .ref d4), (3, .ref d3), (2, .ref d2), (1, .ref d1), (0, .ref b)]) hx hb dL_law_27 hl (by decide) rfl (fun ls hl => ?_)
  refine lv_aload_n hx hb dL_law_29 rfl (lv_at hl 4 rfl) ?_
  refine lv_bipush (v := nI 13) hx hb dL_law_30 (by decide) ?_
  refine z_readS (As := [.ref b, .int (nI 13)]) (rest := []) ⟨hx, hb, hml, hown, hts⟩ (m_X0_cell l dC dI cB cI H.size b L (13) xs hL (by omega)) (va_cwS 2 hts (lw_S q254 q255 q6 q256) rfl rfl rfl hd_X0_cell ⟨Nat.le_of_ble_eq_true rfl, Nat.le_of_ble_eq_true rfl⟩) ⟨zES_good b L xs, hE.2⟩ rfl hl.1 rfl (Nat.le_of_ble_eq_true rfl) dL_law_32 ⟨Nat.le_of_ble_eq_true rfl, Nat.le_of_ble_eq_true rfl⟩ hS hK hP hD hA [] rfl (by decide) ?_
  refine lv_ldc (v := 2147483647) hx hb hown (hts _ q426) dL_law_35 ?_
  refine lv_iand hx hb dL_law_37 ?_
  refine z_top (y := nI (m31 (cvf L xs 13))) (m31_and _) ?_
  refine lv_sipush (v := nI 129) hx hb dL_law_38 (by decide) ?_
  refine lv_irem hx hb dL_law_41 (by decide) ?_
  refine z_top (y := nI (m31 (cvf L xs 13) % 129)) (pk_rem (m31_lt _) (by decide) (by decide)) ?_
  have hR : ∀ n : Nat, rst (advs n (madeE (cvf L xs))) = madeE (cvf L xs) := rst_madeE (cvf L xs)
  have hTl : ∀ j : Nat, j < 128 → txt (cvf L xs) 8 j &&& 255 = ushr (cvf L xs (20 + j / 4)) (nI (24 - 8 * (j % 4))) &&& 255 := fun j hj => txt_lo (cvf L xs) hj
  generalize hsz : m31 (cvf L xs 13) % 129 = sz at hP hD ⊢
  have hsz8 : sz ≤ 128 := by omega
  generalize madeE (cvf L xs) = E at hP hD hR hk1 hk2 hk3 hk4
  generalize txt (cvf L xs) 8 = T at hP hD hTl
  have hP : va_P (dC, dI) vwCl [(d1, .inr (0, [.ref e1, .int (nI 1), .int (nI 0), .ref k1, .ref n1, .ref tx1, .int (nI sz), .ref o1])), (tx1, .inl (cB, 256, .inl T)), (e1, .inr (1, [.int (nI 20), .int (nI 0), .ref es1, .ref x1, .ref ks1, .int (nI 1), .int (nI 0), .int (nI 0), .int (nI 0)])), (es1, .inl (cI, 16, .inl E)), (x1, .inl (cI, 16, .inl xt1)), (ks1, .inl (cB, 64, .inl kt1)), (d2, .inr (0, [.ref e2, .int (nI 1), .int (nI 0), .ref k2, .ref n2, .ref tx2, .int (nI sz), .ref o2])), (tx2, .inl (cB, 256, .inl T)), (e2, .inr (1, [.int (nI 20), .int (nI 0), .ref es2, .ref x2, .ref ks2, .int (nI 1), .int (nI 0), .int (nI 0), .int (nI 0)])), (es2, .inl (cI, 16, .inl E)), (x2, .inl (cI, 16, .inl xt2)), (ks2, .inl (cB, 64, .inl kt2)), (d3, .inr (0, [.ref e3, .int (nI 1), .int (nI 0), .ref k3, .ref n3, .ref tx3, .int (nI sz), .ref o3])), (tx3, .inl (cB, 256, .inl T)), (e3, .inr (1, [.int (nI 20), .int (nI 0), .ref es3, .ref x3, .ref ks3, .int (nI 1), .int (nI 0), .int (nI 0), .int (nI 0)])), (es3, .inl (cI, 16, .inl E)), (x3, .inl (cI, 16, .inl xt3)), (ks3, .inl (cB, 64, .inl kt3)), (d4, .inr (0, [.ref e4, .int (nI 1), .int (nI 0), .ref k4, .ref n4, .ref tx4, .int (nI sz), .ref o4])), (tx4, .inl (cB, 256, .inl T)), (e4, .inr (1, [.int (nI 20), .int (nI 0), .ref es4, .ref x4, .ref ks4, .int (nI 1), .int (nI 0), .int (nI 0), .int (nI 0)])), (es4, .inl (cI, 16, .inl E)), (x4, .inl (cI, 16, .inl xt4)), (ks4, .inl (cB, 64, .inl kt4))] H := hP
  have hD : va_D A [(d1, .inr (0, [.ref e1, .int (nI 1), .int (nI 0), .ref k1, .ref n1, .ref tx1, .int (nI sz), .ref o1])), (tx1, .inl (cB, 256, .inl T)), (e1, .inr (1, [.int (nI 20), .int (nI 0), .ref es1, .ref x1, .ref ks1, .int (nI 1), .int (nI 0), .int (nI 0), .int (nI 0)])), (es1, .inl (cI, 16, .inl E)), (x1, .inl (cI, 16, .inl xt1)), (ks1, .inl (cB, 64, .inl kt1)), (d2, .inr (0, [.ref e2, .int (nI 1), .int (nI 0), .ref k2, .ref n2, .ref tx2, .int (nI sz), .ref o2])), (tx2, .inl (cB, 256, .inl T)), (e2, .inr (1, [.int (nI 20), .int (nI 0), .ref es2, .ref x2, .ref ks2, .int (nI 1), .int (nI 0), .int (nI 0), .int (nI 0)])), (es2, .inl (cI, 16, .inl E)), (x2, .inl (cI, 16, .inl xt2)), (ks2, .inl (cB, 64, .inl kt2)), (d3, .inr (0, [.ref e3, .int (nI 1), .int (nI 0), .ref k3, .ref n3, .ref tx3, .int (nI sz), .ref o3])), (tx3, .inl (cB, 256, .inl T)), (e3, .inr (1, [.int (nI 20), .int (nI 0), .ref es3, .ref x3, .ref ks3, .int (nI 1), .int (nI 0), .int (nI 0), .int (nI 0)])), (es3, .inl (cI, 16, .inl E)), (x3, .inl (cI, 16, .inl xt3)), (ks3, .inl (cB, 64, .inl kt3)), (d4, .inr (0, [.ref e4, .int (nI 1), .int (nI 0), .ref k4, .ref n4, .ref tx4, .int (nI sz), .ref o4])), (tx4, .inl (cB, 256, .inl T)), (e4, .inr (1, [.int (nI 20), .int (nI 0), .ref es4, .ref x4, .ref ks4, .int (nI 1), .int (nI 0), .int (nI 0), .int (nI 0)])), (es4, .inl (cI, 16, .inl E)), (x4, .inl (cI, 16, .inl xt4)), (ks4, .inl (cB, 64, .inl kt4))] := hD
  refine lv_istore (lv' := [(5, .int (nI sz)), (4, .ref d4), (3, .ref d3), (2, .ref d2), (1, .ref d1), (0, .ref b)]) hx hb dL_law_42 hl (by decide) rfl (fun ls hl => ?_)
  refine lv_aload_n hx hb dL_law_44 rfl (lv_at hl 4 rfl) ?_
  refine lv_iconst (v := nI 0) hx hb dL_law_45 (by decide) ?_
  refine lv_iload hx hb dL_law_46 (lv_at hl 0 rfl) ?_
  refine z_calliV (wr := [(d2, .inr (0, [.ref e2, .int (nI 1), .int (nI 0), .ref k2, .ref n2, .ref tx2, .int (nI sz), .ref o2])), (tx2, .inl (cB, 256, .inl T)), (e2, .inr (1, [.int (nI 20), .int (nI 0), .ref es2, .ref x2, .ref ks2, .int (nI 1), .int (nI 0), .int (nI 0), .int (nI 0)])), (es2, .inl (cI, 16, .inl E)), (x2, .inl (cI, 16, .inl xt2)), (ks2, .inl (cB, 64, .inl kt2)), (d3, .inr (0, [.ref e3, .int (nI 1), .int (nI 0), .ref k3, .ref n3, .ref tx3, .int (nI sz), .ref o3])), (tx3, .inl (cB, 256, .inl T)), (e3, .inr (1, [.int (nI 20), .int (nI 0), .ref es3, .ref x3, .ref ks3, .int (nI 1), .int (nI 0), .int (nI 0), .int (nI 0)])), (es3, .inl (cI, 16, .inl E)), (x3, .inl (cI, 16, .inl xt3)), (ks3, .inl (cB, 64, .inl kt3)), (d4, .inr (0, [.ref e4, .int (nI 1), .int (nI 0), .ref k4, .ref n4, .ref tx4, .int (nI sz), .ref o4])), (tx4, .inl (cB, 256, .inl T)), (e4, .inr (1, [.int (nI 20), .int (nI 0), .ref es4, .ref x4, .ref ks4, .int (nI 1), .int (nI 0), .int (nI 0), .int (nI 0)])), (es4, .inl (cI, 16, .inl E)), (x4, .inl (cI, 16, .inl xt4)), (ks4, .inl (cB, 64, .inl kt4))]) (As := [.int (nI 0), .int (nI sz)]) (rest := []) ⟨hx, hb, hml, hown, hts⟩ (m_X1_run l dC dI cB cI H.size d1 e1 k1 n1 tx1 o1 es1 x1 ks1 sz 0 0 sz E T xt1 kt1 (by omega) (by omega) (by omega) hk1) (cwV 2 hts (lw_V q24 q25 q26 q7 q27) rfl rfl rfl hv_X1_run ⟨Nat.le_of_ble_eq_true rfl, Nat.le_of_ble_eq_true rfl⟩) ⟨zNo_good, trivial⟩ (va_recv hK hP (ci := 0) (q0 := 0) rfl rfl) rfl hl.1 rfl (Nat.le_of_ble_eq_true rfl) dL_law_48 ⟨Nat.le_of_ble_eq_true rfl, Nat.le_of_ble_eq_true rfl⟩ hS hK hP hD hA [0, 1, 2, 3, 4, 5] [6, 7, 8, 9, 10, 11, 12, 13, 14, 15, 16, 17, 18, 19, 20, 21, 22, 23] rfl (by decide) rfl (by decide) (by decide) (fun A1 t H locs hB J hS => ?_)
  obtain ⟨o1b, xt1b, kt1b, fo, hk1b, hfo0, hB⟩ := hB
  obtain ⟨hP, hD⟩ := J _ hB
  clear hB J
  have hP : va_P (dC, dI) vwCl [(d2, .inr (0, [.ref e2, .int (nI 1), .int (nI 0), .ref k2, .ref n2, .ref tx2, .int (nI sz), .ref o2])), (tx2, .inl (cB, 256, .inl T)), (e2, .inr (1, [.int (nI 20), .int (nI 0), .ref es2, .ref x2, .ref ks2, .int (nI 1), .int (nI 0), .int (nI 0), .int (nI 0)])), (es2, .inl (cI, 16, .inl E)), (x2, .inl (cI, 16, .inl xt2)), (ks2, .inl (cB, 64, .inl kt2)), (d3, .inr (0, [.ref e3, .int (nI 1), .int (nI 0), .ref k3, .ref n3, .ref tx3, .int (nI sz), .ref o3])), (tx3, .inl (cB, 256, .inl T)), (e3, .inr (1, [.int (nI 20), .int (nI 0), .ref es3, .ref x3, .ref ks3, .int (nI 1), .int (nI 0), .int (nI 0), .int (nI 0)])), (es3, .inl (cI, 16, .inl E)), (x3, .inl (cI, 16, .inl xt3)), (ks3, .inl (cB, 64, .inl kt3)), (d4, .inr (0, [.ref e4, .int (nI 1), .int (nI 0), .ref k4, .ref n4, .ref tx4, .int (nI sz), .ref o4])), (tx4, .inl (cB, 256, .inl T)), (e4, .inr (1, [.int (nI 20), .int (nI 0), .ref es4, .ref x4, .ref ks4, .int (nI 1), .int (nI 0), .int (nI 0), .int (nI 0)])), (es4, .inl (cI, 16, .inl E)), (x4, .inl (cI, 16, .inl xt4)), (ks4, .inl (cB, 64, .inl kt4)), (d1, .inr (0, [.ref e1, .int (nI 1), .int (nI (0 + sz)), .ref k1, .ref n1, .ref tx1, .int (nI sz), .ref o1b])), (tx1, .inl (cB, 256, .inl T)), (e1, .inr (1, [.int (nI 20), .int (nI ((0 + sz) % 64)), .ref es1, .ref x1, .ref ks1, .int (nI 1), .int (nI (0 + sz)), .int (nI 0), .int (nI 0)])), (es1, .inl (cI, 16, .inl (advs ((0 + sz) / 64) E))), (x1, .inl (cI, 16, .inl xt1b)), (ks1, .inl (cB, 64, .inl kt1b)), (o1b, .inl (cB, sz, .inl fo))] H := hP
  have hD : va_D A [(d2, .inr (0, [.ref e2, .int (nI 1), .int (nI 0), .ref k2, .ref n2, .ref tx2, .int (nI sz), .ref o2])), (tx2, .inl (cB, 256, .inl T)), (e2, .inr (1, [.int (nI 20), .int (nI 0), .ref es2, .ref x2, .ref ks2, .int (nI 1), .int (nI 0), .int (nI 0), .int (nI 0)])), (es2, .inl (cI, 16, .inl E)), (x2, .inl (cI, 16, .inl xt2)), (ks2, .inl (cB, 64, .inl kt2)), (d3, .inr (0, [.ref e3, .int (nI 1), .int (nI 0), .ref k3, .ref n3, .ref tx3, .int (nI sz), .ref o3])), (tx3, .inl (cB, 256, .inl T)), (e3, .inr (1, [.int (nI 20), .int (nI 0), .ref es3, .ref x3, .ref ks3, .int (nI 1), .int (nI 0), .int (nI 0), .int (nI 0)])), (es3, .inl (cI, 16, .inl E)), (x3, .inl (cI, 16, .inl xt3)), (ks3, .inl (cB, 64, .inl kt3)), (d4, .inr (0, [.ref e4, .int (nI 1), .int (nI 0), .ref k4, .ref n4, .ref tx4, .int (nI sz), .ref o4])), (tx4, .inl (cB, 256, .inl T)), (e4, .inr (1, [.int (nI 20), .int (nI 0), .ref es4, .ref x4, .ref ks4, .int (nI 1), .int (nI 0), .int (nI 0), .int (nI 0)])), (es4, .inl (cI, 16, .inl E)), (x4, .inl (cI, 16, .inl xt4)), (ks4, .inl (cB, 64, .inl kt4)), (d1, .inr (0, [.ref e1, .int (nI 1), .int (nI (0 + sz)), .ref k1, .ref n1, .ref tx1, .int (nI sz), .ref o1b])), (tx1, .inl (cB, 256, .inl T)), (e1, .inr (1, [.int (nI 20), .int (nI ((0 + sz) % 64)), .ref es1, .ref x1, .ref ks1, .int (nI 1), .int (nI (0 + sz)), .int (nI 0), .int (nI 0)])), (es1, .inl (cI, 16, .inl (advs ((0 + sz) / 64) E))), (x1, .inl (cI, 16, .inl xt1b)), (ks1, .inl (cB, 64, .inl kt1b)), (o1b, .inl (cB, sz, .inl fo))] := hD
  refine lv_iload hx hb dL_law_51 (lv_at hl 0 rfl) ?_
  refine lv_icmp_eq (tgt := 58) hx hb dL_law_53 (by decide) (fun _ => ?_) (fun hc => absurd rfl hc)
  have hP := z_subP hP [18, 24, 0, 1, 2, 3, 4, 5, 6, 8, 9, 10, 11, 12, 14, 15, 16, 17] (ws' := [(d1, .inr (0, [.ref e1, .int (nI 1), .int (nI (0 + sz)), .ref k1, .ref n1, .ref tx1, .int (nI sz), .ref o1b])), (o1b, .inl (cB, sz, .inl fo)), (d2, .inr (0, [.ref e2, .int (nI 1), .int (nI 0), .ref k2, .ref n2, .ref tx2, .int (nI sz), .ref o2])), (tx2, .inl (cB, 256, .inl T)), (e2, .inr (1, [.int (nI 20), .int (nI 0), .ref es2, .ref x2, .ref ks2, .int (nI 1), .int (nI 0), .int (nI 0), .int (nI 0)])), (es2, .inl (cI, 16, .inl E)), (x2, .inl (cI, 16, .inl xt2)), (ks2, .inl (cB, 64, .inl kt2)), (d3, .inr (0, [.ref e3, .int (nI 1), .int (nI 0), .ref k3, .ref n3, .ref tx3, .int (nI sz), .ref o3])), (e3, .inr (1, [.int (nI 20), .int (nI 0), .ref es3, .ref x3, .ref ks3, .int (nI 1), .int (nI 0), .int (nI 0), .int (nI 0)])), (es3, .inl (cI, 16, .inl E)), (x3, .inl (cI, 16, .inl xt3)), (ks3, .inl (cB, 64, .inl kt3)), (d4, .inr (0, [.ref e4, .int (nI 1), .int (nI 0), .ref k4, .ref n4, .ref tx4, .int (nI sz), .ref o4])), (e4, .inr (1, [.int (nI 20), .int (nI 0), .ref es4, .ref x4, .ref ks4, .int (nI 1), .int (nI 0), .int (nI 0), .int (nI 0)])), (es4, .inl (cI, 16, .inl E)), (x4, .inl (cI, 16, .inl xt4)), (ks4, .inl (cB, 64, .inl kt4))]) rfl
  have hD := hD.sub (ws' := [(d1, .inr (0, [.ref e1, .int (nI 1), .int (nI (0 + sz)), .ref k1, .ref n1, .ref tx1, .int (nI sz), .ref o1b])), (o1b, .inl (cB, sz, .inl fo)), (d2, .inr (0, [.ref e2, .int (nI 1), .int (nI 0), .ref k2, .ref n2, .ref tx2, .int (nI sz), .ref o2])), (tx2, .inl (cB, 256, .inl T)), (e2, .inr (1, [.int (nI 20), .int (nI 0), .ref es2, .ref x2, .ref ks2, .int (nI 1), .int (nI 0), .int (nI 0), .int (nI 0)])), (es2, .inl (cI, 16, .inl E)), (x2, .inl (cI, 16, .inl xt2)), (ks2, .inl (cB, 64, .inl kt2)), (d3, .inr (0, [.ref e3, .int (nI 1), .int (nI 0), .ref k3, .ref n3, .ref tx3, .int (nI sz), .ref o3])), (e3, .inr (1, [.int (nI 20), .int (nI 0), .ref es3, .ref x3, .ref ks3, .int (nI 1), .int (nI 0), .int (nI 0), .int (nI 0)])), (es3, .inl (cI, 16, .inl E)), (x3, .inl (cI, 16, .inl xt3)), (ks3, .inl (cB, 64, .inl kt3)), (d4, .inr (0, [.ref e4, .int (nI 1), .int (nI 0), .ref k4, .ref n4, .ref tx4, .int (nI sz), .ref o4])), (e4, .inr (1, [.int (nI 20), .int (nI 0), .ref es4, .ref x4, .ref ks4, .int (nI 1), .int (nI 0), .int (nI 0), .int (nI 0)])), (es4, .inl (cI, 16, .inl E)), (x4, .inl (cI, 16, .inl xt4)), (ks4, .inl (cB, 64, .inl kt4))]) [18, 24, 0, 1, 2, 3, 4, 5, 6, 8, 9, 10, 11, 12, 14, 15, 16, 17] (by decide) rfl
  have hfo : ∀ j, j < sz → fo j = bt8 (strm E j ^^^ T j) := fun j hj => by have h := hfo0 j hj; rw [Nat.zero_add] at h; exact h
  refine lv_iconst (v := nI 0) hx hb dL_law_58 (by decide) ?_
  refine lv_istore (lv' := [(6, .int (nI 0)), (5, .int (nI sz)), (4, .ref d4), (3, .ref d3), (2, .ref d2), (1, .ref d1), (0, .ref b)]) hx hb dL_law_59 hl (by decide) rfl (fun ls hl => ?_)
  refine lv_bipush (v := nI 14) hx hb dL_law_61 (by decide) ?_
  refine lv_istore (lv' := [(7, .int (nI 14)), (6, .int (nI 0)), (5, .int (nI sz)), (4, .ref d4), (3, .ref d3), (2, .ref d2), (1, .ref d1), (0, .ref b)]) hx hb dL_law_63 hl (by decide) rfl (fun ls hl => ?_)
  refine W.widen (k := 98) (n := 3633) (Nat.le_of_ble_eq_true rfl) (Nat.le_of_ble_eq_true rfl) ?_
  clear hk1b hfo0
  have loopD : ∀ (r i : Nat), i + r = sz → ∀ (xt3 kt3 : Nat → Int32), zKs (advs (i / 64) E) kt3 → ∀ (H : Heap) (locs : List Loc) (ls : Array Slot), va_P (dC, dI) vwCl [(d1, .inr (0, [.ref e1, .int (nI 1), .int (nI (0 + sz)), .ref k1, .ref n1, .ref tx1, .int (nI sz), .ref o1b])), (o1b, .inl (cB, sz, .inl fo)), (d3, .inr (0, [.ref e3, .int (nI 1), .int (nI i), .ref k3, .ref n3, .ref tx3, .int (nI sz), .ref o3])), (e3, .inr (1, [.int (nI 20), .int (nI (i % 64)), .ref es3, .ref x3, .ref ks3, .int (nI 1), .int (nI i), .int (nI 0), .int (nI 0)])), (es3, .inl (cI, 16, .inl (advs (i / 64) E))), (x3, .inl (cI, 16, .inl xt3)), (ks3, .inl (cB, 64, .inl kt3))] H → va_D A [(d1, .inr (0, [.ref e1, .int (nI 1), .int (nI (0 + sz)), .ref k1, .ref n1, .ref tx1, .int (nI sz), .ref o1b])), (o1b, .inl (cB, sz, .inl fo)), (d3, .inr (0, [.ref e3, .int (nI 1), .int (nI i), .ref k3, .ref n3, .ref tx3, .int (nI sz), .ref o3])), (e3, .inr (1, [.int (nI 20), .int (nI (i % 64)), .ref es3, .ref x3, .ref ks3, .int (nI 1), .int (nI i), .int (nI 0), .int (nI 0)])), (es3, .inl (cI, 16, .inl (advs (i / 64) E))), (x3, .inl (cI, 16, .inl xt3)), (ks3, .inl (cB, 64, .inl kt3))] → va_S A s.heap H locs → lv_has ls 10 [(0, .ref b), (1, .ref d1), (3, .ref d3), (5, .int (nI sz)), (7, .int (nI i))] → W p l e room_1 s m #[Value.ref b] below meth c H locs (103) (4913) (lw_Z below #[Value.ref b] s) (F0 m 254 ls []) := by
    intro r
    induction r with
    | zero =>
      intro i hi xt3 kt3 hk3 H locs ls hP hD hS hl
      obtain rfl : i = sz := by omega
      refine lv_iload hx hb dL_law_254 (lv_at hl 4 rfl) ?_
      refine lv_iload hx hb dL_law_256 (lv_at hl 3 rfl) ?_
      refine lv_icmp_ge (tgt := 308) hx hb dL_law_258 (by decide) (fun _ => ?_) (fun hc => absurd (nI_le (Nat.le_refl _) (by omega)) hc)
      refine lv_iconst (v := 1) hx hb dL_law_308 (by decide) ?_
      refine va_forget (fun q hq => hAr _ (hS.2.2 q hq)) ?_
      refine W.widen (k := 600128) (n := 7301098) (Nat.le_of_ble_eq_true rfl) (Nat.le_of_ble_eq_true rfl) ?_
      exact lw_ret hx hb hr hlocks dL_law_309
    | succ r ih =>
      intro i hi xt3 kt3 hk3 H locs ls hP hD hS hl
      refine lv_iload hx hb dL_law_254 (lv_at hl 4 rfl) ?_
      refine lv_iload hx hb dL_law_256 (lv_at hl 3 rfl) ?_
      refine lv_icmp_ge (tgt := 308) hx hb dL_law_258 (by decide) (fun hc => absurd hc (nI_ge (by omega) (by omega))) (fun _ => ?_)
      refine lv_aload_n hx hb dL_law_261 rfl (lv_at hl 2 rfl) ?_
      refine lv_aload_n hx hb dL_law_262 rfl (lv_at hl 1 rfl) ?_
      refine lv_iload hx hb dL_law_263 (lv_at hl 4 rfl) ?_
      refine z_readV (As := [.int (nI i)]) (rest := [.ref d3]) ⟨hx, hb, hml, hown, hts⟩ (m_X1_out l dC dI cB cI H.size d1 e1 k1 n1 tx1 o1b (nI 1) (nI (0 + sz)) (nI sz) sz (i) fo (by omega) (by omega)) (cwV 1 hts (lw_V q250 q251 q252 q7 q253) rfl rfl rfl hv_X1_out ⟨Nat.le_of_ble_eq_true rfl, Nat.le_of_ble_eq_true rfl⟩) ⟨zNo_good, trivial⟩ (va_recv hK hP (ci := 0) (q0 := 0) rfl rfl) rfl hl.1 rfl (Nat.le_of_ble_eq_true rfl) dL_law_265 ⟨Nat.le_of_ble_eq_true rfl, Nat.le_of_ble_eq_true rfl⟩ hS hK hP hD hA [0, 1] rfl (by decide) ?_
      refine z_calliV (wr := [(d1, .inr (0, [.ref e1, .int (nI 1), .int (nI (0 + sz)), .ref k1, .ref n1, .ref tx1, .int (nI sz), .ref o1b])), (o1b, .inl (cB, sz, .inl fo))]) (As := [.int (fo i &&& 255)]) (rest := []) ⟨hx, hb, hml, hown, hts⟩ (m_X1_one l dC dI cB cI H.size d3 e3 k3 n3 tx3 o3 es3 x3 ks3 sz i (fo i &&& 255) E xt3 kt3 (by omega) hk3) (cwV 1 hts (lw_V q221 q222 q223 q7 q224) rfl rfl rfl hv_X1_one ⟨Nat.le_of_ble_eq_true rfl, Nat.le_of_ble_eq_true rfl⟩) ⟨zNo_good, trivial⟩ (va_recv hK hP (ci := 0) (q0 := 2) rfl rfl) rfl hl.1 rfl (Nat.le_of_ble_eq_true rfl) dL_law_268 ⟨Nat.le_of_ble_eq_true rfl, Nat.le_of_ble_eq_true rfl⟩ hS hK hP hD hA [2, 3, 4, 5, 6] [0, 1] rfl (by decide) rfl (by decide) (by decide) (fun A1 t H locs hB J hS => ?_)
      obtain ⟨xt5, kt5, hk5, hB⟩ := hB
      obtain ⟨hP, hD⟩ := J _ hB
      clear hB J
      have hP : va_P (dC, dI) vwCl [(d1, .inr (0, [.ref e1, .int (nI 1), .int (nI (0 + sz)), .ref k1, .ref n1, .ref tx1, .int (nI sz), .ref o1b])), (o1b, .inl (cB, sz, .inl fo)), (d3, .inr (0, [.ref e3, .int (nI 1), .int (nI (i + 1)), .ref k3, .ref n3, .ref tx3, .int (nI sz), .ref o3])), (e3, .inr (1, [.int (nI 20), .int (nI ((i + 1) % 64)), .ref es3, .ref x3, .ref ks3, .int (nI 1), .int (nI (i + 1)), .int (nI 0), .int (nI 0)])), (es3, .inl (cI, 16, .inl (advs ((i + 1) / 64) E))), (x3, .inl (cI, 16, .inl xt5)), (ks3, .inl (cB, 64, .inl kt5))] H := hP
      have hD : va_D A [(d1, .inr (0, [.ref e1, .int (nI 1), .int (nI (0 + sz)), .ref k1, .ref n1, .ref tx1, .int (nI sz), .ref o1b])), (o1b, .inl (cB, sz, .inl fo)), (d3, .inr (0, [.ref e3, .int (nI 1), .int (nI (i + 1)), .ref k3, .ref n3, .ref tx3, .int (nI sz), .ref o3])), (e3, .inr (1, [.int (nI 20), .int (nI ((i + 1) % 64)), .ref es3, .ref x3, .ref ks3, .int (nI 1), .int (nI (i + 1)), .int (nI 0), .int (nI 0)])), (es3, .inl (cI, 16, .inl (advs ((i + 1) / 64) E))), (x3, .inl (cI, 16, .inl xt5)), (ks3, .inl (cB, 64, .inl kt5))] := hD
      refine lv_aload_n hx hb dL_law_271 rfl (lv_at hl 0 rfl) ?_
      refine lv_bipush (v := nI 20) hx hb dL_law_272 (by decide) ?_
      refine lv_iload hx hb dL_law_274 (lv_at hl 4 rfl) ?_
      refine lv_iconst (v := nI 4) hx hb dL_law_276 (by decide) ?_
      refine lv_idiv hx hb dL_law_277 (by decide) ?_
      refine z_top (y := nI (i / 4)) (pk_div (by omega) (by decide) (by decide)) ?_
      refine lv_iadd hx hb dL_law_278 ?_
      refine z_top (y := nI (20 + i / 4)) (nI_add 20 _) ?_
      refine z_readS (As := [.ref b, .int (nI (20 + i / 4))]) (rest := [.int (bt8 (strm E i ^^^ bt8 (fo i &&& 255)) &&& 255)]) ⟨hx, hb, hml, hown, hts⟩ (m_X0_cell l dC dI cB cI H.size b L (20 + i / 4) xs hL (by omega)) (va_cwS 2 hts (lw_S q254 q255 q6 q256) rfl rfl rfl hd_X0_cell ⟨Nat.le_of_ble_eq_true rfl, Nat.le_of_ble_eq_true rfl⟩) ⟨zES_good b L xs, hE.2⟩ rfl hl.1 rfl (Nat.le_of_ble_eq_true rfl) dL_law_279 ⟨Nat.le_of_ble_eq_true rfl, Nat.le_of_ble_eq_true rfl⟩ hS hK hP hD hA [] rfl (by decide) ?_
      refine lv_bipush (v := nI 24) hx hb dL_law_282 (by decide) ?_
      refine lv_bipush (v := nI 8) hx hb dL_law_284 (by decide) ?_
      refine lv_iload hx hb dL_law_286 (lv_at hl 4 rfl) ?_
      refine lv_iconst (v := nI 4) hx hb dL_law_288 (by decide) ?_
      refine lv_irem hx hb dL_law_289 (by decide) ?_
      refine z_top (y := nI (i % 4)) (pk_rem (by omega) (by decide) (by decide)) ?_
      refine lv_imul hx hb dL_law_290 ?_
      refine z_top (y := nI (8 * (i % 4))) (pk_mul 8 _) ?_
      refine lv_isub hx hb dL_law_291 ?_
      refine z_top (y := nI (24 - 8 * (i % 4))) (pk_sub (by omega)) ?_
      refine lv_iushr (v := ushr (cvf L xs (20 + i / 4)) (nI (24 - 8 * (i % 4)))) hx hb dL_law_292 rfl ?_
      refine lv_sipush (v := 255) hx hb dL_law_293 (by decide) ?_
      refine lv_iand hx hb dL_law_296 ?_
      refine lv_icmp_eq (tgt := 302) hx hb dL_law_297 (by decide) (fun _ => ?_) (fun hc => absurd (by rw [hfo i (by omega)]; exact dec_eq (hTl i (by omega))) hc)
      refine lv_iinc (v := nI (i + 1)) (lv' := [(7, .int (nI (i + 1))), (0, .ref b), (1, .ref d1), (3, .ref d3), (5, .int (nI sz))]) hx hb dL_law_302 hl (k := 4) rfl (z_inc _ 1) (by decide) rfl (fun ls hl => ?_)
      refine lv_goto (tgt := 254) hx hb dL_law_305 (by decide) ?_
      exact ih (i + 1) (by omega) xt5 kt5 hk5 H locs ls hP hD hS (lv_sub hl [1, 2, 3, 4, 0] rfl)
  have loopC : ∀ (r i : Nat), i + r = sz → ∀ (xt3 kt3 xt4 kt4 : Nat → Int32), zKs (advs (i / 64) E) kt3 → zKs (advs (i / 64) E) kt4 → ∀ (H : Heap) (locs : List Loc) (ls : Array Slot), va_P (dC, dI) vwCl [(d1, .inr (0, [.ref e1, .int (nI 1), .int (nI (0 + sz)), .ref k1, .ref n1, .ref tx1, .int (nI sz), .ref o1b])), (o1b, .inl (cB, sz, .inl fo)), (d3, .inr (0, [.ref e3, .int (nI 1), .int (nI i), .ref k3, .ref n3, .ref tx3, .int (nI sz), .ref o3])), (e3, .inr (1, [.int (nI 20), .int (nI (i % 64)), .ref es3, .ref x3, .ref ks3, .int (nI 1), .int (nI i), .int (nI 0), .int (nI 0)])), (es3, .inl (cI, 16, .inl (advs (i / 64) E))), (x3, .inl (cI, 16, .inl xt3)), (ks3, .inl (cB, 64, .inl kt3)), (d4, .inr (0, [.ref e4, .int (nI 1), .int (nI i), .ref k4, .ref n4, .ref tx4, .int (nI sz), .ref o4])), (e4, .inr (1, [.int (nI 20), .int (nI (i % 64)), .ref es4, .ref x4, .ref ks4, .int (nI 1), .int (nI i), .int (nI 0), .int (nI 0)])), (es4, .inl (cI, 16, .inl (advs (i / 64) E))), (x4, .inl (cI, 16, .inl xt4)), (ks4, .inl (cB, 64, .inl kt4))] H → va_D A [(d1, .inr (0, [.ref e1, .int (nI 1), .int (nI (0 + sz)), .ref k1, .ref n1, .ref tx1, .int (nI sz), .ref o1b])), (o1b, .inl (cB, sz, .inl fo)), (d3, .inr (0, [.ref e3, .int (nI 1), .int (nI i), .ref k3, .ref n3, .ref tx3, .int (nI sz), .ref o3])), (e3, .inr (1, [.int (nI 20), .int (nI (i % 64)), .ref es3, .ref x3, .ref ks3, .int (nI 1), .int (nI i), .int (nI 0), .int (nI 0)])), (es3, .inl (cI, 16, .inl (advs (i / 64) E))), (x3, .inl (cI, 16, .inl xt3)), (ks3, .inl (cB, 64, .inl kt3)), (d4, .inr (0, [.ref e4, .int (nI 1), .int (nI i), .ref k4, .ref n4, .ref tx4, .int (nI sz), .ref o4])), (e4, .inr (1, [.int (nI 20), .int (nI (i % 64)), .ref es4, .ref x4, .ref ks4, .int (nI 1), .int (nI i), .int (nI 0), .int (nI 0)])), (es4, .inl (cI, 16, .inl (advs (i / 64) E))), (x4, .inl (cI, 16, .inl xt4)), (ks4, .inl (cB, 64, .inl kt4))] → va_S A s.heap H locs → lv_has ls 10 [(0, .ref b), (1, .ref d1), (3, .ref d3), (4, .ref d4), (5, .int (nI sz)), (7, .int (nI i))] → W p l e room_1 s m #[Value.ref b] below meth c H locs (103) (4913) (lw_Z below #[Value.ref b] s) (F0 m 173 ls []) := by
    intro r
    induction r with
    | zero =>
      intro i hi xt3 kt3 xt4 kt4 hk3 hk4 H locs ls hP hD hS hl
      have hi : i = sz := by omega
      refine lv_iload hx hb dL_law_173 (lv_at hl 5 rfl) ?_
      refine lv_iload hx hb dL_law_175 (lv_at hl 4 rfl) ?_
      refine lv_icmp_ge (tgt := 247) hx hb dL_law_177 (by decide) (fun _ => ?_) (fun hc => absurd (nI_le (by omega) (by omega)) hc)
      refine lv_aload_n hx hb dL_law_247 rfl (lv_at hl 2 rfl) ?_
      refine z_callvV (wr := [(d1, .inr (0, [.ref e1, .int (nI 1), .int (nI (0 + sz)), .ref k1, .ref n1, .ref tx1, .int (nI sz), .ref o1b])), (o1b, .inl (cB, sz, .inl fo)), (d4, .inr (0, [.ref e4, .int (nI 1), .int (nI i), .ref k4, .ref n4, .ref tx4, .int (nI sz), .ref o4])), (e4, .inr (1, [.int (nI 20), .int (nI (i % 64)), .ref es4, .ref x4, .ref ks4, .int (nI 1), .int (nI i), .int (nI 0), .int (nI 0)])), (es4, .inl (cI, 16, .inl (advs (i / 64) E))), (x4, .inl (cI, 16, .inl xt4)), (ks4, .inl (cB, 64, .inl kt4))]) (As := []) (rest := []) ⟨hx, hb, hml, hown, hts⟩ (m_X1_again l dC dI cB cI H.size d3 e3 k3 n3 tx3 o3 es3 x3 ks3 sz (nI i) (nI (i % 64)) (nI 1) (nI i) (nI 0) (nI 0) (advs (i / 64) E) xt3 kt3) (cwV 0 hts (lw_V q234 q235 q236 q7 q237) rfl rfl rfl hv_X1_again ⟨Nat.le_of_ble_eq_true rfl, Nat.le_of_ble_eq_true rfl⟩) ⟨zNo_good, trivial⟩ (va_recv hK hP (ci := 0) (q0 := 2) rfl rfl) rfl hl.1 rfl (Nat.le_of_ble_eq_true rfl) dL_law_248 ⟨Nat.le_of_ble_eq_true rfl, Nat.le_of_ble_eq_true rfl⟩ hS hK hP hD hA [2, 3, 4, 5, 6] [0, 1, 7, 8, 9, 10, 11] rfl (by decide) rfl (by decide) (by decide) (fun A1 t H locs hB J hS => ?_)
      obtain ⟨xt5, kt5, hk5, hB⟩ := hB
      obtain ⟨hP, hD⟩ := J _ hB
      clear hB J
      have hP : va_P (dC, dI) vwCl [(d1, .inr (0, [.ref e1, .int (nI 1), .int (nI (0 + sz)), .ref k1, .ref n1, .ref tx1, .int (nI sz), .ref o1b])), (o1b, .inl (cB, sz, .inl fo)), (d4, .inr (0, [.ref e4, .int (nI 1), .int (nI i), .ref k4, .ref n4, .ref tx4, .int (nI sz), .ref o4])), (e4, .inr (1, [.int (nI 20), .int (nI (i % 64)), .ref es4, .ref x4, .ref ks4, .int (nI 1), .int (nI i), .int (nI 0), .int (nI 0)])), (es4, .inl (cI, 16, .inl (advs (i / 64) E))), (x4, .inl (cI, 16, .inl xt4)), (ks4, .inl (cB, 64, .inl kt4)), (d3, .inr (0, [.ref e3, .int (nI 1), .int (nI 0), .ref k3, .ref n3, .ref tx3, .int (nI sz), .ref o3])), (e3, .inr (1, [.int (nI 20), .int (nI 0), .ref es3, .ref x3, .ref ks3, .int (nI 1), .int (nI 0), .int (nI 0), .int (nI 0)])), (es3, .inl (cI, 16, .inl (rst (advs (i / 64) E)))), (x3, .inl (cI, 16, .inl xt5)), (ks3, .inl (cB, 64, .inl kt5))] H := hP
      have hD : va_D A [(d1, .inr (0, [.ref e1, .int (nI 1), .int (nI (0 + sz)), .ref k1, .ref n1, .ref tx1, .int (nI sz), .ref o1b])), (o1b, .inl (cB, sz, .inl fo)), (d4, .inr (0, [.ref e4, .int (nI 1), .int (nI i), .ref k4, .ref n4, .ref tx4, .int (nI sz), .ref o4])), (e4, .inr (1, [.int (nI 20), .int (nI (i % 64)), .ref es4, .ref x4, .ref ks4, .int (nI 1), .int (nI i), .int (nI 0), .int (nI 0)])), (es4, .inl (cI, 16, .inl (advs (i / 64) E))), (x4, .inl (cI, 16, .inl xt4)), (ks4, .inl (cB, 64, .inl kt4)), (d3, .inr (0, [.ref e3, .int (nI 1), .int (nI 0), .ref k3, .ref n3, .ref tx3, .int (nI sz), .ref o3])), (e3, .inr (1, [.int (nI 20), .int (nI 0), .ref es3, .ref x3, .ref ks3, .int (nI 1), .int (nI 0), .int (nI 0), .int (nI 0)])), (es3, .inl (cI, 16, .inl (rst (advs (i / 64) E)))), (x3, .inl (cI, 16, .inl xt5)), (ks3, .inl (cB, 64, .inl kt5))] := hD
      rw [hR] at hP hD hk5
      have hP := z_subP hP [0, 1, 7, 8, 9, 10, 11] (ws' := [(d1, .inr (0, [.ref e1, .int (nI 1), .int (nI (0 + sz)), .ref k1, .ref n1, .ref tx1, .int (nI sz), .ref o1b])), (o1b, .inl (cB, sz, .inl fo)), (d3, .inr (0, [.ref e3, .int (nI 1), .int (nI 0), .ref k3, .ref n3, .ref tx3, .int (nI sz), .ref o3])), (e3, .inr (1, [.int (nI 20), .int (nI 0), .ref es3, .ref x3, .ref ks3, .int (nI 1), .int (nI 0), .int (nI 0), .int (nI 0)])), (es3, .inl (cI, 16, .inl E)), (x3, .inl (cI, 16, .inl xt5)), (ks3, .inl (cB, 64, .inl kt5))]) rfl
      have hD := hD.sub (ws' := [(d1, .inr (0, [.ref e1, .int (nI 1), .int (nI (0 + sz)), .ref k1, .ref n1, .ref tx1, .int (nI sz), .ref o1b])), (o1b, .inl (cB, sz, .inl fo)), (d3, .inr (0, [.ref e3, .int (nI 1), .int (nI 0), .ref k3, .ref n3, .ref tx3, .int (nI sz), .ref o3])), (e3, .inr (1, [.int (nI 20), .int (nI 0), .ref es3, .ref x3, .ref ks3, .int (nI 1), .int (nI 0), .int (nI 0), .int (nI 0)])), (es3, .inl (cI, 16, .inl E)), (x3, .inl (cI, 16, .inl xt5)), (ks3, .inl (cB, 64, .inl kt5))]) [0, 1, 7, 8, 9, 10, 11] (by decide) rfl
      refine lv_iconst (v := nI 0) hx hb dL_law_251 (by decide) ?_
      refine lv_istore (lv' := [(7, .int (nI 0)), (0, .ref b), (1, .ref d1), (3, .ref d3), (4, .ref d4), (5, .int (nI sz))]) hx hb dL_law_252 hl (by decide) rfl (fun ls hl => ?_)
      exact loopD sz 0 (by omega) xt5 kt5 hk5 H locs ls hP hD hS (lv_sub hl [1, 2, 3, 5, 0] rfl)
    | succ r ih =>
      intro i hi xt3 kt3 xt4 kt4 hk3 hk4 H locs ls hP hD hS hl
      refine lv_iload hx hb dL_law_173 (lv_at hl 5 rfl) ?_
      refine lv_iload hx hb dL_law_175 (lv_at hl 4 rfl) ?_
      refine lv_icmp_ge (tgt := 247) hx hb dL_law_177 (by decide) (fun hc => absurd hc (nI_ge (by omega) (by omega))) (fun _ => ?_)
      refine lv_aload_n hx hb dL_law_180 rfl (lv_at hl 0 rfl) ?_
      refine lv_bipush (v := nI 20) hx hb dL_law_181 (by decide) ?_
      refine lv_iload hx hb dL_law_183 (lv_at hl 5 rfl) ?_
      refine lv_iconst (v := nI 4) hx hb dL_law_185 (by decide) ?_
      refine lv_idiv hx hb dL_law_186 (by decide) ?_
      refine z_top (y := nI (i / 4)) (pk_div (by omega) (by decide) (by decide)) ?_
      refine lv_iadd hx hb dL_law_187 ?_
      refine z_top (y := nI (20 + i / 4)) (nI_add 20 _) ?_
      refine z_readS (As := [.ref b, .int (nI (20 + i / 4))]) (rest := []) ⟨hx, hb, hml, hown, hts⟩ (m_X0_cell l dC dI cB cI H.size b L (20 + i / 4) xs hL (by omega)) (va_cwS 2 hts (lw_S q254 q255 q6 q256) rfl rfl rfl hd_X0_cell ⟨Nat.le_of_ble_eq_true rfl, Nat.le_of_ble_eq_true rfl⟩) ⟨zES_good b L xs, hE.2⟩ rfl hl.1 rfl (Nat.le_of_ble_eq_true rfl) dL_law_188 ⟨Nat.le_of_ble_eq_true rfl, Nat.le_of_ble_eq_true rfl⟩ hS hK hP hD hA [] rfl (by decide) ?_
      refine lv_bipush (v := nI 24) hx hb dL_law_191 (by decide) ?_
      refine lv_bipush (v := nI 8) hx hb dL_law_193 (by decide) ?_
      refine lv_iload hx hb dL_law_195 (lv_at hl 5 rfl) ?_
      refine lv_iconst (v := nI 4) hx hb dL_law_197 (by decide) ?_
      refine lv_irem hx hb dL_law_198 (by decide) ?_
      refine z_top (y := nI (i % 4)) (pk_rem (by omega) (by decide) (by decide)) ?_
      refine lv_imul hx hb dL_law_199 ?_
      refine z_top (y := nI (8 * (i % 4))) (pk_mul 8 _) ?_
      refine lv_isub hx hb dL_law_200 ?_
      refine z_top (y := nI (24 - 8 * (i % 4))) (pk_sub (by omega)) ?_
      refine lv_iushr (v := ushr (cvf L xs (20 + i / 4)) (nI (24 - 8 * (i % 4)))) hx hb dL_law_201 rfl ?_
      refine lv_sipush (v := 255) hx hb dL_law_202 (by decide) ?_
      refine lv_iand hx hb dL_law_205 ?_
      obtain ⟨bb, hbb⟩ : ∃ y : Int32, y = (ushr (cvf L xs (20 + i / 4)) (nI (24 - 8 * (i % 4)))) &&& 255 := ⟨_, rfl⟩
      refine z_top (y := bb) hbb.symm ?_
      have hTb : T i &&& 255 = bb := (hTl i (by omega)).trans hbb.symm
      refine lv_istore (lv' := [(8, .int bb), (0, .ref b), (1, .ref d1), (3, .ref d3), (4, .ref d4), (5, .int (nI sz)), (7, .int (nI i))]) hx hb dL_law_206 hl (by decide) rfl (fun ls hl => ?_)
      refine lv_aload_n hx hb dL_law_208 rfl (lv_at hl 3 rfl) ?_
      refine lv_iload hx hb dL_law_209 (lv_at hl 0 rfl) ?_
      refine z_calliV (wr := [(d1, .inr (0, [.ref e1, .int (nI 1), .int (nI (0 + sz)), .ref k1, .ref n1, .ref tx1, .int (nI sz), .ref o1b])), (o1b, .inl (cB, sz, .inl fo)), (d4, .inr (0, [.ref e4, .int (nI 1), .int (nI i), .ref k4, .ref n4, .ref tx4, .int (nI sz), .ref o4])), (e4, .inr (1, [.int (nI 20), .int (nI (i % 64)), .ref es4, .ref x4, .ref ks4, .int (nI 1), .int (nI i), .int (nI 0), .int (nI 0)])), (es4, .inl (cI, 16, .inl (advs (i / 64) E))), (x4, .inl (cI, 16, .inl xt4)), (ks4, .inl (cB, 64, .inl kt4))]) (As := [.int bb]) (rest := []) ⟨hx, hb, hml, hown, hts⟩ (m_X1_one l dC dI cB cI H.size d3 e3 k3 n3 tx3 o3 es3 x3 ks3 sz i (bb) E xt3 kt3 (by omega) hk3) (cwV 1 hts (lw_V q221 q222 q223 q7 q224) rfl rfl rfl hv_X1_one ⟨Nat.le_of_ble_eq_true rfl, Nat.le_of_ble_eq_true rfl⟩) ⟨zNo_good, trivial⟩ (va_recv hK hP (ci := 0) (q0 := 2) rfl rfl) rfl hl.1 rfl (Nat.le_of_ble_eq_true rfl) dL_law_211 ⟨Nat.le_of_ble_eq_true rfl, Nat.le_of_ble_eq_true rfl⟩ hS hK hP hD hA [2, 3, 4, 5, 6] [0, 1, 7, 8, 9, 10, 11] rfl (by decide) rfl (by decide) (by decide) (fun A1 t H locs hB J hS => ?_)
      obtain ⟨xt5, kt5, hk5, hB⟩ := hB
      obtain ⟨hP, hD⟩ := J _ hB
      clear hB J
      have hP : va_P (dC, dI) vwCl [(d1, .inr (0, [.ref e1, .int (nI 1), .int (nI (0 + sz)), .ref k1, .ref n1, .ref tx1, .int (nI sz), .ref o1b])), (o1b, .inl (cB, sz, .inl fo)), (d4, .inr (0, [.ref e4, .int (nI 1), .int (nI i), .ref k4, .ref n4, .ref tx4, .int (nI sz), .ref o4])), (e4, .inr (1, [.int (nI 20), .int (nI (i % 64)), .ref es4, .ref x4, .ref ks4, .int (nI 1), .int (nI i), .int (nI 0), .int (nI 0)])), (es4, .inl (cI, 16, .inl (advs (i / 64) E))), (x4, .inl (cI, 16, .inl xt4)), (ks4, .inl (cB, 64, .inl kt4)), (d3, .inr (0, [.ref e3, .int (nI 1), .int (nI (i + 1)), .ref k3, .ref n3, .ref tx3, .int (nI sz), .ref o3])), (e3, .inr (1, [.int (nI 20), .int (nI ((i + 1) % 64)), .ref es3, .ref x3, .ref ks3, .int (nI 1), .int (nI (i + 1)), .int (nI 0), .int (nI 0)])), (es3, .inl (cI, 16, .inl (advs ((i + 1) / 64) E))), (x3, .inl (cI, 16, .inl xt5)), (ks3, .inl (cB, 64, .inl kt5))] H := hP
      have hD : va_D A [(d1, .inr (0, [.ref e1, .int (nI 1), .int (nI (0 + sz)), .ref k1, .ref n1, .ref tx1, .int (nI sz), .ref o1b])), (o1b, .inl (cB, sz, .inl fo)), (d4, .inr (0, [.ref e4, .int (nI 1), .int (nI i), .ref k4, .ref n4, .ref tx4, .int (nI sz), .ref o4])), (e4, .inr (1, [.int (nI 20), .int (nI (i % 64)), .ref es4, .ref x4, .ref ks4, .int (nI 1), .int (nI i), .int (nI 0), .int (nI 0)])), (es4, .inl (cI, 16, .inl (advs (i / 64) E))), (x4, .inl (cI, 16, .inl xt4)), (ks4, .inl (cB, 64, .inl kt4)), (d3, .inr (0, [.ref e3, .int (nI 1), .int (nI (i + 1)), .ref k3, .ref n3, .ref tx3, .int (nI sz), .ref o3])), (e3, .inr (1, [.int (nI 20), .int (nI ((i + 1) % 64)), .ref es3, .ref x3, .ref ks3, .int (nI 1), .int (nI (i + 1)), .int (nI 0), .int (nI 0)])), (es3, .inl (cI, 16, .inl (advs ((i + 1) / 64) E))), (x3, .inl (cI, 16, .inl xt5)), (ks3, .inl (cB, 64, .inl kt5))] := hD
      refine z_top (y := bt8 (strm E i ^^^ T i) &&& 255) (enc_eq hTb) ?_
      refine lv_istore (lv' := [(9, .int (bt8 (strm E i ^^^ T i) &&& 255)), (8, .int bb), (0, .ref b), (1, .ref d1), (3, .ref d3), (4, .ref d4), (5, .int (nI sz)), (7, .int (nI i))]) hx hb dL_law_214 hl (by decide) rfl (fun ls hl => ?_)
      refine lv_iload hx hb dL_law_216 (lv_at hl 0 rfl) ?_
      refine lv_aload_n hx hb dL_law_218 rfl (lv_at hl 3 rfl) ?_
      refine lv_iload hx hb dL_law_219 (lv_at hl 7 rfl) ?_
      refine z_readV (As := [.int (nI i)]) (rest := [.int (bt8 (strm E i ^^^ T i) &&& 255)]) ⟨hx, hb, hml, hown, hts⟩ (m_X1_out l dC dI cB cI H.size d1 e1 k1 n1 tx1 o1b (nI 1) (nI (0 + sz)) (nI sz) sz (i) fo (by omega) (by omega)) (cwV 1 hts (lw_V q250 q251 q252 q7 q253) rfl rfl rfl hv_X1_out ⟨Nat.le_of_ble_eq_true rfl, Nat.le_of_ble_eq_true rfl⟩) ⟨zNo_good, trivial⟩ (va_recv hK hP (ci := 0) (q0 := 0) rfl rfl) rfl hl.1 rfl (Nat.le_of_ble_eq_true rfl) dL_law_221 ⟨Nat.le_of_ble_eq_true rfl, Nat.le_of_ble_eq_true rfl⟩ hS hK hP hD hA [0, 1] rfl (by decide) ?_
      refine lv_icmp_ne (tgt := 239) hx hb dL_law_224 (by decide) (fun hc => absurd (by rw [hfo i (by omega)]) hc) (fun _ => ?_)
      refine lv_aload hx hb dL_law_227 (lv_at hl 5 rfl) ?_
      refine lv_iload hx hb dL_law_229 (lv_at hl 0 rfl) ?_
      refine z_calliV (wr := [(d1, .inr (0, [.ref e1, .int (nI 1), .int (nI (0 + sz)), .ref k1, .ref n1, .ref tx1, .int (nI sz), .ref o1b])), (o1b, .inl (cB, sz, .inl fo)), (d3, .inr (0, [.ref e3, .int (nI 1), .int (nI (i + 1)), .ref k3, .ref n3, .ref tx3, .int (nI sz), .ref o3])), (e3, .inr (1, [.int (nI 20), .int (nI ((i + 1) % 64)), .ref es3, .ref x3, .ref ks3, .int (nI 1), .int (nI (i + 1)), .int (nI 0), .int (nI 0)])), (es3, .inl (cI, 16, .inl (advs ((i + 1) / 64) E))), (x3, .inl (cI, 16, .inl xt5)), (ks3, .inl (cB, 64, .inl kt5))]) (As := [.int (bt8 (strm E i ^^^ T i) &&& 255)]) (rest := []) ⟨hx, hb, hml, hown, hts⟩ (m_X1_one l dC dI cB cI H.size d4 e4 k4 n4 tx4 o4 es4 x4 ks4 sz i (bt8 (strm E i ^^^ T i) &&& 255) E xt4 kt4 (by omega) hk4) (cwV 1 hts (lw_V q221 q222 q223 q7 q224) rfl rfl rfl hv_X1_one ⟨Nat.le_of_ble_eq_true rfl, Nat.le_of_ble_eq_true rfl⟩) ⟨zNo_good, trivial⟩ (va_recv hK hP (ci := 0) (q0 := 2) rfl rfl) rfl hl.1 rfl (Nat.le_of_ble_eq_true rfl) dL_law_231 ⟨Nat.le_of_ble_eq_true rfl, Nat.le_of_ble_eq_true rfl⟩ hS hK hP hD hA [2, 3, 4, 5, 6] [0, 1, 7, 8, 9, 10, 11] rfl (by decide) rfl (by decide) (by decide) (fun A1 t H locs hB J hS => ?_)
      obtain ⟨xt6, kt6, hk6, hB⟩ := hB
      obtain ⟨hP, hD⟩ := J _ hB
      clear hB J
      have hP : va_P (dC, dI) vwCl [(d1, .inr (0, [.ref e1, .int (nI 1), .int (nI (0 + sz)), .ref k1, .ref n1, .ref tx1, .int (nI sz), .ref o1b])), (o1b, .inl (cB, sz, .inl fo)), (d3, .inr (0, [.ref e3, .int (nI 1), .int (nI (i + 1)), .ref k3, .ref n3, .ref tx3, .int (nI sz), .ref o3])), (e3, .inr (1, [.int (nI 20), .int (nI ((i + 1) % 64)), .ref es3, .ref x3, .ref ks3, .int (nI 1), .int (nI (i + 1)), .int (nI 0), .int (nI 0)])), (es3, .inl (cI, 16, .inl (advs ((i + 1) / 64) E))), (x3, .inl (cI, 16, .inl xt5)), (ks3, .inl (cB, 64, .inl kt5)), (d4, .inr (0, [.ref e4, .int (nI 1), .int (nI (i + 1)), .ref k4, .ref n4, .ref tx4, .int (nI sz), .ref o4])), (e4, .inr (1, [.int (nI 20), .int (nI ((i + 1) % 64)), .ref es4, .ref x4, .ref ks4, .int (nI 1), .int (nI (i + 1)), .int (nI 0), .int (nI 0)])), (es4, .inl (cI, 16, .inl (advs ((i + 1) / 64) E))), (x4, .inl (cI, 16, .inl xt6)), (ks4, .inl (cB, 64, .inl kt6))] H := hP
      have hD : va_D A [(d1, .inr (0, [.ref e1, .int (nI 1), .int (nI (0 + sz)), .ref k1, .ref n1, .ref tx1, .int (nI sz), .ref o1b])), (o1b, .inl (cB, sz, .inl fo)), (d3, .inr (0, [.ref e3, .int (nI 1), .int (nI (i + 1)), .ref k3, .ref n3, .ref tx3, .int (nI sz), .ref o3])), (e3, .inr (1, [.int (nI 20), .int (nI ((i + 1) % 64)), .ref es3, .ref x3, .ref ks3, .int (nI 1), .int (nI (i + 1)), .int (nI 0), .int (nI 0)])), (es3, .inl (cI, 16, .inl (advs ((i + 1) / 64) E))), (x3, .inl (cI, 16, .inl xt5)), (ks3, .inl (cB, 64, .inl kt5)), (d4, .inr (0, [.ref e4, .int (nI 1), .int (nI (i + 1)), .ref k4, .ref n4, .ref tx4, .int (nI sz), .ref o4])), (e4, .inr (1, [.int (nI 20), .int (nI ((i + 1) % 64)), .ref es4, .ref x4, .ref ks4, .int (nI 1), .int (nI (i + 1)), .int (nI 0), .int (nI 0)])), (es4, .inl (cI, 16, .inl (advs ((i + 1) / 64) E))), (x4, .inl (cI, 16, .inl xt6)), (ks4, .inl (cB, 64, .inl kt6))] := hD
      refine lv_iload hx hb dL_law_234 (lv_at hl 1 rfl) ?_
      refine lv_icmp_eq (tgt := 241) hx hb dL_law_236 (by decide) (fun _ => ?_) (fun hc => absurd (dec_eq hTb) hc)
      refine lv_iinc (v := nI (i + 1)) (lv' := [(7, .int (nI (i + 1))), (9, .int (bt8 (strm E i ^^^ T i) &&& 255)), (8, .int bb), (0, .ref b), (1, .ref d1), (3, .ref d3), (4, .ref d4), (5, .int (nI sz))]) hx hb dL_law_241 hl (k := 7) rfl (z_inc _ 1) (by decide) rfl (fun ls hl => ?_)
      refine lv_goto (tgt := 173) hx hb dL_law_244 (by decide) ?_
      have hP := z_subP hP [0, 1, 2, 3, 4, 5, 6, 7, 8, 9, 10, 11] (ws' := [(d1, .inr (0, [.ref e1, .int (nI 1), .int (nI (0 + sz)), .ref k1, .ref n1, .ref tx1, .int (nI sz), .ref o1b])), (o1b, .inl (cB, sz, .inl fo)), (d3, .inr (0, [.ref e3, .int (nI 1), .int (nI (i + 1)), .ref k3, .ref n3, .ref tx3, .int (nI sz), .ref o3])), (e3, .inr (1, [.int (nI 20), .int (nI ((i + 1) % 64)), .ref es3, .ref x3, .ref ks3, .int (nI 1), .int (nI (i + 1)), .int (nI 0), .int (nI 0)])), (es3, .inl (cI, 16, .inl (advs ((i + 1) / 64) E))), (x3, .inl (cI, 16, .inl xt5)), (ks3, .inl (cB, 64, .inl kt5)), (d4, .inr (0, [.ref e4, .int (nI 1), .int (nI (i + 1)), .ref k4, .ref n4, .ref tx4, .int (nI sz), .ref o4])), (e4, .inr (1, [.int (nI 20), .int (nI ((i + 1) % 64)), .ref es4, .ref x4, .ref ks4, .int (nI 1), .int (nI (i + 1)), .int (nI 0), .int (nI 0)])), (es4, .inl (cI, 16, .inl (advs ((i + 1) / 64) E))), (x4, .inl (cI, 16, .inl xt6)), (ks4, .inl (cB, 64, .inl kt6))]) rfl
      have hD := hD.sub (ws' := [(d1, .inr (0, [.ref e1, .int (nI 1), .int (nI (0 + sz)), .ref k1, .ref n1, .ref tx1, .int (nI sz), .ref o1b])), (o1b, .inl (cB, sz, .inl fo)), (d3, .inr (0, [.ref e3, .int (nI 1), .int (nI (i + 1)), .ref k3, .ref n3, .ref tx3, .int (nI sz), .ref o3])), (e3, .inr (1, [.int (nI 20), .int (nI ((i + 1) % 64)), .ref es3, .ref x3, .ref ks3, .int (nI 1), .int (nI (i + 1)), .int (nI 0), .int (nI 0)])), (es3, .inl (cI, 16, .inl (advs ((i + 1) / 64) E))), (x3, .inl (cI, 16, .inl xt5)), (ks3, .inl (cB, 64, .inl kt5)), (d4, .inr (0, [.ref e4, .int (nI 1), .int (nI (i + 1)), .ref k4, .ref n4, .ref tx4, .int (nI sz), .ref o4])), (e4, .inr (1, [.int (nI 20), .int (nI ((i + 1) % 64)), .ref es4, .ref x4, .ref ks4, .int (nI 1), .int (nI (i + 1)), .int (nI 0), .int (nI 0)])), (es4, .inl (cI, 16, .inl (advs ((i + 1) / 64) E))), (x4, .inl (cI, 16, .inl xt6)), (ks4, .inl (cB, 64, .inl kt6))]) [0, 1, 2, 3, 4, 5, 6, 7, 8, 9, 10, 11] (by decide) rfl
      exact ih (i + 1) (by omega) xt5 kt5 xt6 kt6 hk5 hk6 H locs ls hP hD hS (lv_sub hl [3, 4, 5, 6, 7, 0] rfl)
  have loopA : ∀ (r k : Nat), k + r = 5 → ∀ (u oq : Nat) (xt2 kt2 : Nat → Int32), u ≤ sz → zKs (advs (u / 64) E) kt2 → ∀ (H : Heap) (locs : List Loc) (ls : Array Slot), va_P (dC, dI) vwCl [(d1, .inr (0, [.ref e1, .int (nI 1), .int (nI (0 + sz)), .ref k1, .ref n1, .ref tx1, .int (nI sz), .ref o1b])), (o1b, .inl (cB, sz, .inl fo)), (d2, .inr (0, [.ref e2, .int (nI 1), .int (nI u), .ref k2, .ref n2, .ref tx2, .int (nI sz), .ref oq])), (tx2, .inl (cB, 256, .inl T)), (e2, .inr (1, [.int (nI 20), .int (nI (u % 64)), .ref es2, .ref x2, .ref ks2, .int (nI 1), .int (nI u), .int (nI 0), .int (nI 0)])), (es2, .inl (cI, 16, .inl (advs (u / 64) E))), (x2, .inl (cI, 16, .inl xt2)), (ks2, .inl (cB, 64, .inl kt2)), (d3, .inr (0, [.ref e3, .int (nI 1), .int (nI 0), .ref k3, .ref n3, .ref tx3, .int (nI sz), .ref o3])), (e3, .inr (1, [.int (nI 20), .int (nI 0), .ref es3, .ref x3, .ref ks3, .int (nI 1), .int (nI 0), .int (nI 0), .int (nI 0)])), (es3, .inl (cI, 16, .inl E)), (x3, .inl (cI, 16, .inl xt3)), (ks3, .inl (cB, 64, .inl kt3)), (d4, .inr (0, [.ref e4, .int (nI 1), .int (nI 0), .ref k4, .ref n4, .ref tx4, .int (nI sz), .ref o4])), (e4, .inr (1, [.int (nI 20), .int (nI 0), .ref es4, .ref x4, .ref ks4, .int (nI 1), .int (nI 0), .int (nI 0), .int (nI 0)])), (es4, .inl (cI, 16, .inl E)), (x4, .inl (cI, 16, .inl xt4)), (ks4, .inl (cB, 64, .inl kt4))] H → va_D A [(d1, .inr (0, [.ref e1, .int (nI 1), .int (nI (0 + sz)), .ref k1, .ref n1, .ref tx1, .int (nI sz), .ref o1b])), (o1b, .inl (cB, sz, .inl fo)), (d2, .inr (0, [.ref e2, .int (nI 1), .int (nI u), .ref k2, .ref n2, .ref tx2, .int (nI sz), .ref oq])), (tx2, .inl (cB, 256, .inl T)), (e2, .inr (1, [.int (nI 20), .int (nI (u % 64)), .ref es2, .ref x2, .ref ks2, .int (nI 1), .int (nI u), .int (nI 0), .int (nI 0)])), (es2, .inl (cI, 16, .inl (advs (u / 64) E))), (x2, .inl (cI, 16, .inl xt2)), (ks2, .inl (cB, 64, .inl kt2)), (d3, .inr (0, [.ref e3, .int (nI 1), .int (nI 0), .ref k3, .ref n3, .ref tx3, .int (nI sz), .ref o3])), (e3, .inr (1, [.int (nI 20), .int (nI 0), .ref es3, .ref x3, .ref ks3, .int (nI 1), .int (nI 0), .int (nI 0), .int (nI 0)])), (es3, .inl (cI, 16, .inl E)), (x3, .inl (cI, 16, .inl xt3)), (ks3, .inl (cB, 64, .inl kt3)), (d4, .inr (0, [.ref e4, .int (nI 1), .int (nI 0), .ref k4, .ref n4, .ref tx4, .int (nI sz), .ref o4])), (e4, .inr (1, [.int (nI 20), .int (nI 0), .ref es4, .ref x4, .ref ks4, .int (nI 1), .int (nI 0), .int (nI 0), .int (nI 0)])), (es4, .inl (cI, 16, .inl E)), (x4, .inl (cI, 16, .inl xt4)), (ks4, .inl (cB, 64, .inl kt4))] → va_S A s.heap H locs → lv_has ls 10 [(0, .ref b), (1, .ref d1), (2, .ref d2), (3, .ref d3), (4, .ref d4), (5, .int (nI sz)), (6, .int (nI u)), (7, .int (nI (14 + k)))] → W p l e room_1 s m #[Value.ref b] below meth c H locs (98 + k) (3633 + 256 * k) (lw_Z below #[Value.ref b] s) (F0 m 65 ls []) := by
    intro r
    induction r with
    | zero =>
      intro k hk u oq xt2 kt2 hu hk2 H locs ls hP hD hS hl
      refine lv_iload hx hb dL_law_65 (lv_at hl 7 rfl) ?_
      refine lv_bipush (v := nI 19) hx hb dL_law_67 (by decide) ?_
      refine lv_icmp_ge (tgt := 170) hx hb dL_law_69 (by decide) (fun _ => ?_) (fun hc => absurd (nI_le (by omega) (by omega)) hc)
      refine W.widen (k := 103) (n := 4913) (by omega) (by omega) ?_
      have hP := z_subP hP [0, 1, 8, 9, 10, 11, 12, 13, 14, 15, 16, 17] (ws' := [(d1, .inr (0, [.ref e1, .int (nI 1), .int (nI (0 + sz)), .ref k1, .ref n1, .ref tx1, .int (nI sz), .ref o1b])), (o1b, .inl (cB, sz, .inl fo)), (d3, .inr (0, [.ref e3, .int (nI 1), .int (nI 0), .ref k3, .ref n3, .ref tx3, .int (nI sz), .ref o3])), (e3, .inr (1, [.int (nI 20), .int (nI 0), .ref es3, .ref x3, .ref ks3, .int (nI 1), .int (nI 0), .int (nI 0), .int (nI 0)])), (es3, .inl (cI, 16, .inl E)), (x3, .inl (cI, 16, .inl xt3)), (ks3, .inl (cB, 64, .inl kt3)), (d4, .inr (0, [.ref e4, .int (nI 1), .int (nI 0), .ref k4, .ref n4, .ref tx4, .int (nI sz), .ref o4])), (e4, .inr (1, [.int (nI 20), .int (nI 0), .ref es4, .ref x4, .ref ks4, .int (nI 1), .int (nI 0), .int (nI 0), .int (nI 0)])), (es4, .inl (cI, 16, .inl E)), (x4, .inl (cI, 16, .inl xt4)), (ks4, .inl (cB, 64, .inl kt4))]) rfl
      have hD := hD.sub (ws' := [(d1, .inr (0, [.ref e1, .int (nI 1), .int (nI (0 + sz)), .ref k1, .ref n1, .ref tx1, .int (nI sz), .ref o1b])), (o1b, .inl (cB, sz, .inl fo)), (d3, .inr (0, [.ref e3, .int (nI 1), .int (nI 0), .ref k3, .ref n3, .ref tx3, .int (nI sz), .ref o3])), (e3, .inr (1, [.int (nI 20), .int (nI 0), .ref es3, .ref x3, .ref ks3, .int (nI 1), .int (nI 0), .int (nI 0), .int (nI 0)])), (es3, .inl (cI, 16, .inl E)), (x3, .inl (cI, 16, .inl xt3)), (ks3, .inl (cB, 64, .inl kt3)), (d4, .inr (0, [.ref e4, .int (nI 1), .int (nI 0), .ref k4, .ref n4, .ref tx4, .int (nI sz), .ref o4])), (e4, .inr (1, [.int (nI 20), .int (nI 0), .ref es4, .ref x4, .ref ks4, .int (nI 1), .int (nI 0), .int (nI 0), .int (nI 0)])), (es4, .inl (cI, 16, .inl E)), (x4, .inl (cI, 16, .inl xt4)), (ks4, .inl (cB, 64, .inl kt4))]) [0, 1, 8, 9, 10, 11, 12, 13, 14, 15, 16, 17] (by decide) rfl
      refine lv_iconst (v := nI 0) hx hb dL_law_170 (by decide) ?_
      refine lv_istore (lv' := [(7, .int (nI 0)), (0, .ref b), (1, .ref d1), (2, .ref d2), (3, .ref d3), (4, .ref d4), (5, .int (nI sz)), (6, .int (nI u))]) hx hb dL_law_171 hl (by decide) rfl (fun ls hl => ?_)
      exact loopC sz 0 (by omega) xt3 kt3 xt4 kt4 hk3 hk4 H locs ls hP hD hS (lv_sub hl [1, 2, 4, 5, 6, 0] rfl)
    | succ r ih =>
      intro k hk u oq xt2 kt2 hu hk2 H locs ls hP hD hS hl
      refine lv_iload hx hb dL_law_65 (lv_at hl 7 rfl) ?_
      refine lv_bipush (v := nI 19) hx hb dL_law_67 (by decide) ?_
      refine lv_icmp_ge (tgt := 170) hx hb dL_law_69 (by decide) (fun hc => absurd hc (nI_ge (by omega) (by omega))) (fun _ => ?_)
      have tail : ∀ nn : Nat, nn ≤ sz - u → W p l e room_1 s m #[Value.ref b] below meth c H locs (98 + k) (3633 + 256 * k) (lw_Z below #[Value.ref b] s) (F0 m 104 ls [.int (nI nn)]) := by
        intro nn hnn
        refine lv_istore (lv' := [(8, .int (nI nn)), (0, .ref b), (1, .ref d1), (2, .ref d2), (3, .ref d3), (4, .ref d4), (5, .int (nI sz)), (6, .int (nI u)), (7, .int (nI (14 + k)))]) hx hb dL_law_104 hl (by decide) rfl (fun ls hl => ?_)
        refine lv_aload_n hx hb dL_law_106 rfl (lv_at hl 3 rfl) ?_
        refine lv_iload hx hb dL_law_107 (lv_at hl 7 rfl) ?_
        refine lv_iload hx hb dL_law_109 (lv_at hl 0 rfl) ?_
        refine z_calliV (wr := [(d1, .inr (0, [.ref e1, .int (nI 1), .int (nI (0 + sz)), .ref k1, .ref n1, .ref tx1, .int (nI sz), .ref o1b])), (o1b, .inl (cB, sz, .inl fo)), (d3, .inr (0, [.ref e3, .int (nI 1), .int (nI 0), .ref k3, .ref n3, .ref tx3, .int (nI sz), .ref o3])), (e3, .inr (1, [.int (nI 20), .int (nI 0), .ref es3, .ref x3, .ref ks3, .int (nI 1), .int (nI 0), .int (nI 0), .int (nI 0)])), (es3, .inl (cI, 16, .inl E)), (x3, .inl (cI, 16, .inl xt3)), (ks3, .inl (cB, 64, .inl kt3)), (d4, .inr (0, [.ref e4, .int (nI 1), .int (nI 0), .ref k4, .ref n4, .ref tx4, .int (nI sz), .ref o4])), (e4, .inr (1, [.int (nI 20), .int (nI 0), .ref es4, .ref x4, .ref ks4, .int (nI 1), .int (nI 0), .int (nI 0), .int (nI 0)])), (es4, .inl (cI, 16, .inl E)), (x4, .inl (cI, 16, .inl xt4)), (ks4, .inl (cB, 64, .inl kt4))]) (As := [.int (nI u), .int (nI nn)]) (rest := []) ⟨hx, hb, hml, hown, hts⟩ (m_X1_run l dC dI cB cI H.size d2 e2 k2 n2 tx2 oq es2 x2 ks2 sz u u nn E T xt2 kt2 (by omega) (by omega) (by omega) hk2) (cwV 2 hts (lw_V q24 q25 q26 q7 q27) rfl rfl rfl hv_X1_run ⟨Nat.le_of_ble_eq_true rfl, Nat.le_of_ble_eq_true rfl⟩) ⟨zNo_good, trivial⟩ (va_recv hK hP (ci := 0) (q0 := 2) rfl rfl) rfl hl.1 rfl (Nat.le_of_ble_eq_true rfl) dL_law_111 ⟨(by show 98 + k + 1 ≤ 600128; omega), (by show 3633 + 256 * k + 256 ≤ 7301098; omega)⟩ hS hK hP hD hA [2, 3, 4, 5, 6, 7] [0, 1, 8, 9, 10, 11, 12, 13, 14, 15, 16, 17] rfl (by decide) rfl (by decide) (by decide) (fun A1 t H locs hB J hS => ?_)
        obtain ⟨ob, xt5, kt5, fp, hk5, hfp, hB⟩ := hB
        obtain ⟨hP, hD⟩ := J _ hB
        clear hB J
        have hP : va_P (dC, dI) vwCl [(d1, .inr (0, [.ref e1, .int (nI 1), .int (nI (0 + sz)), .ref k1, .ref n1, .ref tx1, .int (nI sz), .ref o1b])), (o1b, .inl (cB, sz, .inl fo)), (d3, .inr (0, [.ref e3, .int (nI 1), .int (nI 0), .ref k3, .ref n3, .ref tx3, .int (nI sz), .ref o3])), (e3, .inr (1, [.int (nI 20), .int (nI 0), .ref es3, .ref x3, .ref ks3, .int (nI 1), .int (nI 0), .int (nI 0), .int (nI 0)])), (es3, .inl (cI, 16, .inl E)), (x3, .inl (cI, 16, .inl xt3)), (ks3, .inl (cB, 64, .inl kt3)), (d4, .inr (0, [.ref e4, .int (nI 1), .int (nI 0), .ref k4, .ref n4, .ref tx4, .int (nI sz), .ref o4])), (e4, .inr (1, [.int (nI 20), .int (nI 0), .ref es4, .ref x4, .ref ks4, .int (nI 1), .int (nI 0), .int (nI 0), .int (nI 0)])), (es4, .inl (cI, 16, .inl E)), (x4, .inl (cI, 16, .inl xt4)), (ks4, .inl (cB, 64, .inl kt4)), (d2, .inr (0, [.ref e2, .int (nI 1), .int (nI (u + nn)), .ref k2, .ref n2, .ref tx2, .int (nI sz), .ref ob])), (tx2, .inl (cB, 256, .inl T)), (e2, .inr (1, [.int (nI 20), .int (nI ((u + nn) % 64)), .ref es2, .ref x2, .ref ks2, .int (nI 1), .int (nI (u + nn)), .int (nI 0), .int (nI 0)])), (es2, .inl (cI, 16, .inl (advs ((u + nn) / 64) E))), (x2, .inl (cI, 16, .inl xt5)), (ks2, .inl (cB, 64, .inl kt5)), (ob, .inl (cB, nn, .inl fp))] H := hP
        have hD : va_D A [(d1, .inr (0, [.ref e1, .int (nI 1), .int (nI (0 + sz)), .ref k1, .ref n1, .ref tx1, .int (nI sz), .ref o1b])), (o1b, .inl (cB, sz, .inl fo)), (d3, .inr (0, [.ref e3, .int (nI 1), .int (nI 0), .ref k3, .ref n3, .ref tx3, .int (nI sz), .ref o3])), (e3, .inr (1, [.int (nI 20), .int (nI 0), .ref es3, .ref x3, .ref ks3, .int (nI 1), .int (nI 0), .int (nI 0), .int (nI 0)])), (es3, .inl (cI, 16, .inl E)), (x3, .inl (cI, 16, .inl xt3)), (ks3, .inl (cB, 64, .inl kt3)), (d4, .inr (0, [.ref e4, .int (nI 1), .int (nI 0), .ref k4, .ref n4, .ref tx4, .int (nI sz), .ref o4])), (e4, .inr (1, [.int (nI 20), .int (nI 0), .ref es4, .ref x4, .ref ks4, .int (nI 1), .int (nI 0), .int (nI 0), .int (nI 0)])), (es4, .inl (cI, 16, .inl E)), (x4, .inl (cI, 16, .inl xt4)), (ks4, .inl (cB, 64, .inl kt4)), (d2, .inr (0, [.ref e2, .int (nI 1), .int (nI (u + nn)), .ref k2, .ref n2, .ref tx2, .int (nI sz), .ref ob])), (tx2, .inl (cB, 256, .inl T)), (e2, .inr (1, [.int (nI 20), .int (nI ((u + nn) % 64)), .ref es2, .ref x2, .ref ks2, .int (nI 1), .int (nI (u + nn)), .int (nI 0), .int (nI 0)])), (es2, .inl (cI, 16, .inl (advs ((u + nn) / 64) E))), (x2, .inl (cI, 16, .inl xt5)), (ks2, .inl (cB, 64, .inl kt5)), (ob, .inl (cB, nn, .inl fp))] := hD
        refine lv_iload hx hb dL_law_114 (lv_at hl 0 rfl) ?_
        refine lv_icmp_eq (tgt := 121) hx hb dL_law_116 (by decide) (fun _ => ?_) (fun hc => absurd rfl hc)
        refine lv_iconst (v := nI 0) hx hb dL_law_121 (by decide) ?_
        refine lv_istore (lv' := [(9, .int (nI 0)), (8, .int (nI nn)), (0, .ref b), (1, .ref d1), (2, .ref d2), (3, .ref d3), (4, .ref d4), (5, .int (nI sz)), (6, .int (nI u)), (7, .int (nI (14 + k)))]) hx hb dL_law_122 hl (by decide) rfl (fun ls hl => ?_)
        have loopB : ∀ (r2 i : Nat), i + r2 = nn → ∀ (ls : Array Slot), lv_has ls 10 [(0, .ref b), (1, .ref d1), (2, .ref d2), (3, .ref d3), (4, .ref d4), (5, .int (nI sz)), (6, .int (nI u)), (7, .int (nI (14 + k))), (8, .int (nI nn)), (9, .int (nI i))] → W p l e room_1 s m #[Value.ref b] below meth c H locs (98 + k + 1) (3633 + 256 * k + 256) (lw_Z below #[Value.ref b] s) (F0 m 124 ls []) := by
          intro r2
          induction r2 with
          | zero =>
            intro i hi ls hl
            refine lv_iload hx hb dL_law_124 (lv_at hl 9 rfl) ?_
            refine lv_iload hx hb dL_law_126 (lv_at hl 8 rfl) ?_
            refine lv_icmp_ge (tgt := 157) hx hb dL_law_128 (by decide) (fun _ => ?_) (fun hc => absurd (nI_le (by omega) (by omega)) hc)
            refine lv_iload hx hb dL_law_157 (lv_at hl 6 rfl) ?_
            refine lv_iload hx hb dL_law_159 (lv_at hl 8 rfl) ?_
            refine lv_iadd hx hb dL_law_161 ?_
            refine z_top (y := nI (u + nn)) (nI_add u nn) ?_
            refine lv_istore (lv' := [(6, .int (nI (u + nn))), (0, .ref b), (1, .ref d1), (2, .ref d2), (3, .ref d3), (4, .ref d4), (5, .int (nI sz)), (7, .int (nI (14 + k))), (8, .int (nI nn)), (9, .int (nI i))]) hx hb dL_law_162 hl (by decide) rfl (fun ls hl => ?_)
            refine lv_iinc (v := nI (14 + (k + 1))) (lv' := [(7, .int (nI (14 + (k + 1)))), (6, .int (nI (u + nn))), (0, .ref b), (1, .ref d1), (2, .ref d2), (3, .ref d3), (4, .ref d4), (5, .int (nI sz)), (8, .int (nI nn)), (9, .int (nI i))]) hx hb dL_law_164 hl (k := 7) rfl (z_inc _ 1) (by decide) rfl (fun ls hl => ?_)
            refine lv_goto (tgt := 65) hx hb dL_law_167 (by decide) ?_
            refine W.widen (k := 98 + (k + 1)) (n := 3633 + 256 * (k + 1)) (by omega) (by omega) ?_
            have hP := z_subP hP [0, 1, 12, 13, 14, 15, 16, 17, 2, 3, 4, 5, 6, 7, 8, 9, 10, 11] (ws' := [(d1, .inr (0, [.ref e1, .int (nI 1), .int (nI (0 + sz)), .ref k1, .ref n1, .ref tx1, .int (nI sz), .ref o1b])), (o1b, .inl (cB, sz, .inl fo)), (d2, .inr (0, [.ref e2, .int (nI 1), .int (nI (u + nn)), .ref k2, .ref n2, .ref tx2, .int (nI sz), .ref ob])), (tx2, .inl (cB, 256, .inl T)), (e2, .inr (1, [.int (nI 20), .int (nI ((u + nn) % 64)), .ref es2, .ref x2, .ref ks2, .int (nI 1), .int (nI (u + nn)), .int (nI 0), .int (nI 0)])), (es2, .inl (cI, 16, .inl (advs ((u + nn) / 64) E))), (x2, .inl (cI, 16, .inl xt5)), (ks2, .inl (cB, 64, .inl kt5)), (d3, .inr (0, [.ref e3, .int (nI 1), .int (nI 0), .ref k3, .ref n3, .ref tx3, .int (nI sz), .ref o3])), (e3, .inr (1, [.int (nI 20), .int (nI 0), .ref es3, .ref x3, .ref ks3, .int (nI 1), .int (nI 0), .int (nI 0), .int (nI 0)])), (es3, .inl (cI, 16, .inl E)), (x3, .inl (cI, 16, .inl xt3)), (ks3, .inl (cB, 64, .inl kt3)), (d4, .inr (0, [.ref e4, .int (nI 1), .int (nI 0), .ref k4, .ref n4, .ref tx4, .int (nI sz), .ref o4])), (e4, .inr (1, [.int (nI 20), .int (nI 0), .ref es4, .ref x4, .ref ks4, .int (nI 1), .int (nI 0), .int (nI 0), .int (nI 0)])), (es4, .inl (cI, 16, .inl E)), (x4, .inl (cI, 16, .inl xt4)), (ks4, .inl (cB, 64, .inl kt4))]) rfl
            have hD := hD.sub (ws' := [(d1, .inr (0, [.ref e1, .int (nI 1), .int (nI (0 + sz)), .ref k1, .ref n1, .ref tx1, .int (nI sz), .ref o1b])), (o1b, .inl (cB, sz, .inl fo)), (d2, .inr (0, [.ref e2, .int (nI 1), .int (nI (u + nn)), .ref k2, .ref n2, .ref tx2, .int (nI sz), .ref ob])), (tx2, .inl (cB, 256, .inl T)), (e2, .inr (1, [.int (nI 20), .int (nI ((u + nn) % 64)), .ref es2, .ref x2, .ref ks2, .int (nI 1), .int (nI (u + nn)), .int (nI 0), .int (nI 0)])), (es2, .inl (cI, 16, .inl (advs ((u + nn) / 64) E))), (x2, .inl (cI, 16, .inl xt5)), (ks2, .inl (cB, 64, .inl kt5)), (d3, .inr (0, [.ref e3, .int (nI 1), .int (nI 0), .ref k3, .ref n3, .ref tx3, .int (nI sz), .ref o3])), (e3, .inr (1, [.int (nI 20), .int (nI 0), .ref es3, .ref x3, .ref ks3, .int (nI 1), .int (nI 0), .int (nI 0), .int (nI 0)])), (es3, .inl (cI, 16, .inl E)), (x3, .inl (cI, 16, .inl xt3)), (ks3, .inl (cB, 64, .inl kt3)), (d4, .inr (0, [.ref e4, .int (nI 1), .int (nI 0), .ref k4, .ref n4, .ref tx4, .int (nI sz), .ref o4])), (e4, .inr (1, [.int (nI 20), .int (nI 0), .ref es4, .ref x4, .ref ks4, .int (nI 1), .int (nI 0), .int (nI 0), .int (nI 0)])), (es4, .inl (cI, 16, .inl E)), (x4, .inl (cI, 16, .inl xt4)), (ks4, .inl (cB, 64, .inl kt4))]) [0, 1, 12, 13, 14, 15, 16, 17, 2, 3, 4, 5, 6, 7, 8, 9, 10, 11] (by decide) rfl
            exact ih (k + 1) (by omega) (u + nn) ob xt5 kt5 (by omega) hk5 H locs ls hP hD hS (lv_sub hl [2, 3, 4, 5, 6, 7, 1, 0] rfl)
          | succ r2 ih2 =>
            intro i hi ls hl
            refine lv_iload hx hb dL_law_124 (lv_at hl 9 rfl) ?_
            refine lv_iload hx hb dL_law_126 (lv_at hl 8 rfl) ?_
            refine lv_icmp_ge (tgt := 157) hx hb dL_law_128 (by decide) (fun hc => absurd hc (nI_ge (by omega) (by omega))) (fun _ => ?_)
            refine lv_aload_n hx hb dL_law_131 rfl (lv_at hl 2 rfl) ?_
            refine lv_iload hx hb dL_law_132 (lv_at hl 9 rfl) ?_
            refine z_readV (As := [.int (nI i)]) (rest := []) ⟨hx, hb, hml, hown, hts⟩ (m_X1_out l dC dI cB cI H.size d2 e2 k2 n2 tx2 ob (nI 1) (nI (u + nn)) (nI sz) nn i fp (by omega) (by omega)) (cwV 1 hts (lw_V q250 q251 q252 q7 q253) rfl rfl rfl hv_X1_out ⟨Nat.le_of_ble_eq_true rfl, Nat.le_of_ble_eq_true rfl⟩) ⟨zNo_good, trivial⟩ (va_recv hK hP (ci := 0) (q0 := 12) rfl rfl) rfl hl.1 rfl (Nat.le_of_ble_eq_true rfl) dL_law_134 ⟨(by show 98 + k + 1 ≤ 600128; omega), (by show 3633 + 256 * k + 256 ≤ 7301098; omega)⟩ hS hK hP hD hA [12, 18] rfl (by decide) ?_
            refine lv_aload_n hx hb dL_law_137 rfl (lv_at hl 1 rfl) ?_
            refine lv_iload hx hb dL_law_138 (lv_at hl 6 rfl) ?_
            refine lv_iload hx hb dL_law_140 (lv_at hl 9 rfl) ?_
            refine lv_iadd hx hb dL_law_142 ?_
            refine z_top (y := nI (u + i)) (nI_add u i) ?_
            refine z_readV (As := [.int (nI (u + i))]) (rest := [.int (fp i &&& 255)]) ⟨hx, hb, hml, hown, hts⟩ (m_X1_out l dC dI cB cI H.size d1 e1 k1 n1 tx1 o1b (nI 1) (nI (0 + sz)) (nI sz) sz (u + i) fo (by omega) (by omega)) (cwV 1 hts (lw_V q250 q251 q252 q7 q253) rfl rfl rfl hv_X1_out ⟨Nat.le_of_ble_eq_true rfl, Nat.le_of_ble_eq_true rfl⟩) ⟨zNo_good, trivial⟩ (va_recv hK hP (ci := 0) (q0 := 0) rfl rfl) rfl hl.1 rfl (Nat.le_of_ble_eq_true rfl) dL_law_143 ⟨(by show 98 + k + 1 ≤ 600128; omega), (by show 3633 + 256 * k + 256 ≤ 7301098; omega)⟩ hS hK hP hD hA [0, 1] rfl (by decide) ?_
            refine lv_icmp_eq (tgt := 151) hx hb dL_law_146 (by decide) (fun _ => ?_) (fun hc => absurd (by rw [hfp i (by omega), hfo (u + i) (by omega)]) hc)
            refine lv_iinc (v := nI (i + 1)) (lv' := [(9, .int (nI (i + 1))), (0, .ref b), (1, .ref d1), (2, .ref d2), (3, .ref d3), (4, .ref d4), (5, .int (nI sz)), (6, .int (nI u)), (7, .int (nI (14 + k))), (8, .int (nI nn))]) hx hb dL_law_151 hl (k := 9) rfl (z_inc _ 1) (by decide) rfl (fun ls hl => ?_)
            refine lv_goto (tgt := 124) hx hb dL_law_154 (by decide) ?_
            exact ih2 (i + 1) (by omega) ls (lv_sub hl [1, 2, 3, 4, 5, 6, 7, 8, 9, 0] rfl)
        exact loopB nn 0 (by omega) ls (lv_sub hl [2, 3, 4, 5, 6, 7, 8, 9, 1, 0] rfl)
      refine lv_iload hx hb dL_law_72 (lv_at hl 7 rfl) ?_
      refine lv_bipush (v := nI 18) hx hb dL_law_74 (by decide) ?_
      refine lv_icmp_ne (tgt := 87) hx hb dL_law_76 (by decide) (fun hc => ?_) (fun hc => ?_)
      · skip
        refine lv_aload_n hx hb dL_law_87 rfl (lv_at hl 0 rfl) ?_
        refine lv_iload hx hb dL_law_88 (lv_at hl 7 rfl) ?_
        refine z_readS (As := [.ref b, .int (nI (14 + k))]) (rest := []) ⟨hx, hb, hml, hown, hts⟩ (m_X0_cell l dC dI cB cI H.size b L (14 + k) xs hL (by omega)) (va_cwS 2 hts (lw_S q254 q255 q6 q256) rfl rfl rfl hd_X0_cell ⟨Nat.le_of_ble_eq_true rfl, Nat.le_of_ble_eq_true rfl⟩) ⟨zES_good b L xs, hE.2⟩ rfl hl.1 rfl (Nat.le_of_ble_eq_true rfl) dL_law_90 ⟨(by show 98 + k ≤ 600128; omega), (by show 3633 + 256 * k ≤ 7301098; omega)⟩ hS hK hP hD hA [] rfl (by decide) ?_
        refine lv_ldc (v := 2147483647) hx hb hown (hts _ q426) dL_law_93 ?_
        refine lv_iand hx hb dL_law_95 ?_
        refine z_top (y := nI (m31 (cvf L xs (14 + k)))) (m31_and _) ?_
        refine lv_iload hx hb dL_law_96 (lv_at hl 5 rfl) ?_
        refine lv_iload hx hb dL_law_98 (lv_at hl 6 rfl) ?_
        refine lv_isub hx hb dL_law_100 ?_
        refine z_top (y := nI (sz - u)) (pk_sub hu) ?_
        refine lv_iconst (v := nI 1) hx hb dL_law_101 (by decide) ?_
        refine lv_iadd hx hb dL_law_102 ?_
        refine z_top (y := nI (sz - u + 1)) (nI_add _ 1) ?_
        refine lv_irem hx hb dL_law_103 (nI_ne0 (by omega) (by omega)) ?_
        refine z_top (y := nI (m31 (cvf L xs (14 + k)) % (sz - u + 1))) (pk_rem (m31_lt _) (by omega) (by omega)) ?_
        exact tail _ (Nat.le_of_lt_succ (Nat.mod_lt _ (Nat.succ_pos _)))
      · skip
        refine lv_iload hx hb dL_law_79 (lv_at hl 5 rfl) ?_
        refine lv_iload hx hb dL_law_81 (lv_at hl 6 rfl) ?_
        refine lv_isub hx hb dL_law_83 ?_
        refine z_top (y := nI (sz - u)) (pk_sub hu) ?_
        refine lv_goto (tgt := 104) hx hb dL_law_84 (by decide) ?_
        exact tail _ (Nat.le_refl _)
  exact loopA 5 0 (by decide) 0 o2 xt2 kt2 (Nat.zero_le _) hk2 H locs ls hP hD hS (lv_sub hl [7, 6, 5, 4, 3, 2, 1, 0] rfl)
set_option maxHeartbeats 4000000 in
theorem lw_walk (l : Launch) (hflags : l.flags = flags0) (b : Addr) (xs : List Int32) : MetFree l x (headSpec (Jvm.Cond.code x code maxLocals ret :: tables_1) room_1) (lw_P b xs) (fun _ _ _ _ _ => True) lw_Q := by
  refine MetFree.of_bodyS (code := code) (maxLocals := maxLocals) (ret := ret) (by decide) ?_ ?_
  · intro args s m h hn
    obtain ⟨meth, c, h1, h2, h3, h4, h5, h6, -, -⟩ := Cond.code_spec hn (atoms_spec (ws := Jvm.Cond.code x code maxLocals ret :: tables_1) h _ List.mem_cons_self)
    exact ⟨meth, c, h1, h2, h3, h4, h5, h6⟩
  · intro p e s m args below meth c s₁ B hml0 hP _
    obtain ⟨rfl, hx, hbd, hgv⟩ := hP
    obtain ⟨scr, harrAt, hlist, hof, hsmall⟩ := hx
    obtain ⟨hcb, hkn, -, -⟩ := State.arrayAt?_spec harrAt
    have hown : s.vm.findClass R_law = some m.cls := findClass_of_methodNamed B.named
    have hts0 : ∀ c ∈ (Jvm.Cond.code x code maxLocals ret :: tables_1), c.before #[Value.ref b] s = true := atoms_spec (ws := Jvm.Cond.code x code maxLocals ret :: tables_1) B.pre
    have hts : ∀ w ∈ lw_tbl, w.before #[Value.ref b] s = true := k2_hts_sels lw_privs (fun w hw => hts0 w (List.mem_cons_of_mem _ hw)) lw_privs_ok
    have hml : c.maxLocals = 10 := B.maxLocals_eq (hts0 _ List.mem_cons_self)
    have X₀ : Stand p l e room_1 s m #[Value.ref b] below meth c s₁ [] 0 0 := Stand.of_body B
    have hh0 : s₁.heap = s.heap := by rw [B.state]; rfl
    have hsz : scr.slots.size = xs.length := by rw [← Array.length_toList, hlist, List.length_map]
    have hval : ∀ j : Nat, j < xs.length → scr.slots[j]? = some (.int (xs.getD j 0)) := fun j hj => by
      rw [← Array.getElem?_toList, hlist]
      simp [hj]
    have hbl : b < s.heap.size := (Array.getElem?_eq_some_iff.mp hcb).1
    have hX : va_X b xs.length (fun j => xs.getD j 0) s s.heap := ⟨scr, hcb, hof, hkn, hsz, hval⟩
    have K : W p l e room_1 s m #[Value.ref b] below meth c s₁.heap [] 0 0 (lw_Z below #[Value.ref b] s) (entryFrame m ([Value.ref b] : List Value).toArray 10) := by
      rw [hh0]
      exact whole_start l hflags hbd ⟨B.exec, B.bytes, B.returns, hml, hown, hts, hX, hbl, B.notSynchronized, hgv⟩
    obtain ⟨t, a1, o, b1, b2, b3⟩ := K s₁ rfl X₀
    exact ⟨t, o, a1, b1, b2, b3⟩
theorem lw_pre_spec {args : Array Value} {s : State} (h : (Jvm.Cond.and given_1 narrow_1).before args s = true) (hr : rest_1_c.before args s = true) : ∃ (b : Addr) (xs : List Int32), lw_P b xs args s := by
  have hs := flat_of_before _ h
  have hq := flat_of_before _ hr
  have hc : (Cond.count 1).before args s = true := hs _ (by decide +kernel)
  have harr : (Cond.arrayOf (.arg 0) .int).before args s = true := hs _ (by decide +kernel)
  have hle : (Cond.le (.length (.arg 0)) (.int 64)).before args s = true := hs _ (by decide +kernel)
  have hlen : (Cond.isInt (.length (.arg 0))).before args s = true := hq _ (by decide +kernel)
  have hall : (Cond.all (.arg 0) (.isInt (.elem (.arg 0) (.index 0)))).before args s = true := hq _ (by decide +kernel)
  obtain ⟨b, xs, hb, hx⟩ := State.ints_of_pre rfl harr hlen hall
  have hsm : xs.length < 2 ^ 31 := hx.choose_spec.2.2.2
  have hev : (Term.length (.arg 0)).eval args s none [] s = some (.int xs.length.toInt32) := hx.length_eval hb
  have hv := Cond.le_ints hev (show (Term.int 64).eval args s none [] s = some (.int 64) from rfl)
  have hd : xs.length.toInt32 ≤ 64 := by
    simpa [Cond.before, Cond.holds, hv] using hle
  have hN : xs.length ≤ 64 := (Int32.ofNat_le_ofNat hsm (by decide)).mp (show Int32.ofNat xs.length ≤ Int32.ofNat 64 from hd)
  exact ⟨b, xs, Cond.one_arg hc (show args[0]? = some (.ref b) from hb), hx, hN, h⟩
theorem lw_comes (l : Launch) (hflags : l.flags = flags0) : Comes l x (Jvm.Cond.code x code maxLocals ret :: tables_1) room_1 (fun tb e args s => Calls_1 tb e args s ∧ rest_1 tb e args s ∧ Pre_1 tb e args s)
    (fun _ _ args s o t => lw_Q args s o t) := by
  intro p e ha hc hk s m args below hf hfit hheap happ hpre
  obtain ⟨b, xs, hP⟩ := lw_pre_spec hpre.2.2 hpre.2.1
  obtain ⟨k, o, h1, h2, h3, hQ⟩ := lw_walk l hflags b xs p e ha hc hk s m args below hf ((Spec.applies_iff_loose hf).mp happ).1 hP trivial
  exact ⟨k, o, h1, h2, h3, hQ⟩
theorem lw_frame {s t : State} {o : Outcome} {args : Array Value} (h : Framed s o t [] 600128 7301098) :
    Framed s o t (fieldLocs frame_1_writes args s ++ arrayLocs frame_1_arrays args s ++ staticLocs frame_1_statics s) 600128 7301098 := h
theorem lw_limb (L : Cond) (hL : ∀ (args : Array Value) (s t : State), L.after args s (.returned (some (.int 1))) t = true) :
    ArmFor flags0 classFile x code maxLocals ret World_1 tables_1 room_1 Calls_1 rest_1 Pre_1
      (fun tb e a s o t => postC L tb e a s o t ∧ Framed s o t (fieldLocs frame_1_writes a s ++ arrayLocs frame_1_arrays a s ++ staticLocs frame_1_statics s) 600128 7301098) := by
  intro l hflags _ _ p e ha hc hk s m args below hf hfit hheap happ hpre
  obtain ⟨k, o, h1, h2, h3, rfl, hF⟩ := lw_comes l hflags p e ha hc hk s m args below hf hfit hheap happ hpre
  exact ⟨k, _, h1, h2, h3, hL args s _, lw_frame hF⟩
theorem i_vc : Claimed_1_1 ∧ Claimed_1_2 := ⟨lw_limb limb_1_1 (fun args s t => by simp [limb_1_1, Cond.after, Cond.holds, Cond.value]), lw_limb limb_1_2 (fun args s t => Cond.after_iff.mpr (by
  first | (rw [show limb_1_2 = Cond.eq .result (.int 1) from rfl, Cond.eq_ints (x := 1) (y := 1) rfl rfl]; simp; done) | (simp [limb_1_2, Cond.value, Term.eval]; done)))⟩
end
